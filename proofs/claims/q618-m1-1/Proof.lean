import JvmDerived
import JvmDerived.Pilot.@@N@@Statement
import JvmDerived.Pilot.@@N@@Code
set_option linter.unusedVariables false
set_option linter.unusedSimpArgs false
namespace Jvm.RoadKit
open Sem ClassFile Op Lib Jvm.Stand Jvm.Free Jvm.LawKit
section Own
variable {p : Program} {l : Launch} {e : Env} {R : Room} {s : State} {m : MethodId} {args : Array Value} {below : List Frame} {meth : Method} {c : Code} {T : State} {locs : List Loc} {cells slots : Nat}
theorem retI (X : Stand p l e R s m args below meth c T locs cells slots) (hx : p.tables.exec = Jvm.exec) {pc : Nat} {Ls : Array Slot} {z : Int32} {rest : List Value} (hret : meth.sig.returnType = some .int) (hd : decode c.code pc = .ok (.ireturn, 1)) {fs : List Frame}
    (hl : ∀ (f : JFrame) (acts : List Action), f.method = m → f.locked = none → f.entered = [] → (doReturn e (T.setTop f) acts (some (.int z))).1 = T.setFrames fs) : Steps p.tables e below (T.setTop (mkF m pc Ls (.int z :: rest))) (T.setFrames fs) :=
  retOut X hx hret rfl (Or.inl ⟨rfl, Or.inl rfl, _, rfl⟩) hd hl
variable {Q : Option Value → Heap → List Loc → Prop} {kc ks : Nat} {S S' : State}
section H
variable {Z : State} {EL : List (String × Nat)} {QH : Option Value → Heap → List Loc → (Addr → Prop) → Prop} {a0 : Array Value} {h : Heap} {vm0 : Vm}
/-- a callee that may intern, at a site: what is Safe there goes in, what is Safe at its end comes out -/
theorem backOfY {y : MethodName} {bytes : ByteArray} {maxL : Nat} {ret : Option FieldType} {rm : Room} {len W : Nat} {as' : Array Value} {sf : List Addr}
    (hM : MetFree l y (head1 [Cond.code y bytes maxL ret] rm) (fun a U => a = as' ∧ Z.Warmed39 U.vm ∧ U.heap = h ∧ CHv Z EL U.vm h ∧ ∀ x ∈ sf, Safe Z EL U.vm h x) (fun _ _ _ _ _ => True) (fun _ U o U' => ∃ v L, o = .returned v ∧ QH v U'.heap L (Safe Z EL U'.vm U'.heap) ∧ CHr Z EL U.vm U.heap U'.vm U'.heap ∧ ReturnedEndW U o U' L rm.cells rm.slots))
    (hZ : Z.Warmed39 vm0) (wc : (Cond.code y bytes maxL ret).before a0 Z = true) (wz : (Cond.initialized y.cls).before a0 Z = true) (hf : rm.frames + 1 ≤ R.frames) (hl : W + (maxL + 11) + rm.locals ≤ R.locals) (hEL : EW Z a0 EL) (H : CHv Z EL vm0 h) (hs : ∀ x ∈ sf, Safe Z EL vm0 h x) (hlt : ∀ x ∈ sf, x < h.size) :
    BackS l R p e below (s.setVm vm0) args y len W (fun A a => a = as' ∧ A.U.heap = h ∧ A.cells + rm.cells ≤ R.cells ∧ A.slots + rm.slots ≤ R.slots)
      (fun A _ v B => ∃ L, QH v B.U.heap L (Safe Z EL B.U.vm B.U.heap) ∧ B.locs = A.locs ++ L ∧ B.cells = A.cells + rm.cells ∧ B.slots = A.slots + rm.slots ∧ CHr Z EL vm0 h B.U.vm B.U.heap) := by
  refine BackS.of_freeW (bytes := bytes) (maxL := maxL) (ret := ret) (E := fun _ first o t L k n => k = rm.cells ∧ n = rm.slots ∧ (∃ v, o = .returned v ∧ QH v t.heap L (Safe Z EL t.vm t.heap)) ∧ CHr Z EL first.vm first.heap t.vm t.heap) hM hf hl ?_ ?_ (fun _ _ _ _ _ _ _ _ _ => trivial) ?_ ?_
  · intro m meth c A a Y hp
    have hU : Z.Warmed39 A.U.vm := wtrans (s := s.setVm vm0) hZ Y.warmed
    exact ⟨by show (Cond.and _ .tt).before a A.U = true; rw [Cond.before_and, mv hU wc]; rfl, mv hU wc, mv hU wz, hp.2.2.1, hp.2.2.2⟩
  · intro m meth c A a g mk Y hp
    have q := CHv.at Y hZ hEL H
    exact ⟨hp.1, wtrans (s := s.setVm vm0) hZ Y.warmed, hp.2.1, q.1, fun x hx => q.safe (hlt x hx) (hs x hx)⟩
  · rintro _ _ _ _ ⟨v, L, h1, h2, h3, h4⟩
    exact ⟨L, _, _, h4, rfl, rfl, ⟨v, h1, h2⟩, h3⟩
  · rintro m meth c A a g mk v t L k n Y hp - - ⟨e1, e2, ⟨v', e3, e4⟩, e5⟩
    cases e3; subst e1 e2
    refine ⟨L, e4, rfl, rfl, rfl, (CHv.at Y hZ hEL H).trans ?_⟩
    rw [← hp.2.1]; exact e5
end H
theorem own_len {Z : State} {args : Array Value} {t : Term} {a : Addr} {c : Cell} {ty : FieldType} {z : Int32} (ev : t.eval args Z none [] Z = some (.ref a)) (A : Arr Z Z.heap a c ty) (h : (Cond.eq (.length t) (.int z)).value args Z none Z [] = some true) : c.slots.size < 2 ^ 31 ∧ c.slots.size.toInt32 = z := by
  have ha := A.fin (U := Z) (Vm.Alike.refl _)
  by_cases q : c.slots.size < 2 ^ 31
  · exact ⟨q, gotT (Cond.eq_ints (len_f ev ha q) (Term.int_eval z)) h⟩
  · simp [Cond.value, Term.eval, ev, ha, q] at h
theorem own_narref {t : FieldType} {w : Value} (h : w.isRef = true) : narrow t w = w := by
  rcases XT.refc h with rfl | ⟨r, rfl⟩ <;> cases t <;> rfl
theorem own_fitsref {t : FieldType} {w : Value} (ht : t.isReference = true) (h : w.isRef = true) : fits t w = true := by
  rcases XT.refc h with rfl | ⟨r, rfl⟩ <;> cases t <;> first | rfl | (cases ht)
theorem nar_c (x : Int32) : nar .char x.toUInt32.toUInt16.toUInt32.toInt32 = x.toUInt32.toUInt16.toUInt32.toInt32 := by
  have := XT.narrow_c x
  simpa [narrow, nar] using this
theorem nar_b (x : Int32) : nar .byte x.toInt8.toInt32 = x.toInt8.toInt32 := by
  have := XT.narrow_b x
  simpa [narrow, nar] using this
theorem nar_ite {P : Prop} [Decidable P] : nar .boolean (if P then (1 : Int32) else 0) = (if P then (1 : Int32) else 0) := by split <;> decide
theorem nar_ite' {P : Prop} [Decidable P] : nar .boolean (if P then (0 : Int32) else 1) = (if P then (0 : Int32) else 1) := by split <;> decide
theorem narrow_nar {t : FieldType} {z : Int32} (ht : t = .boolean ∨ t = .byte ∨ t = .char ∨ t = .short) (h : nar t z = z) : narrow t (.int z) = .int z := by
  have hn : narrow t (.int z) = .int (nar t z) := by rcases ht with rfl | rfl | rfl | rfl <;> rfl
  rw [hn, h]
end Own
/-- the run that stands in S ends as E says -/
def Runs (p : Program) (e : Env) (below : List Frame) (E : State → Outcome → Prop) (S : State) : Prop :=
  ∃ s₂ o, Steps p.tables e below S s₂ ∧ s₂.status = .running ∧ Ended s₂ below o ∧ E s₂ o
theorem Runs.by {p : Program} {e : Env} {below : List Frame} {E : State → Outcome → Prop} {S S' : State} (k : Runs p e below E S') (st : ∀ t, Steps p.tables e below S' t → Steps p.tables e below S t) : Runs p e below E S := by
  obtain ⟨s₂, o, h1, h2⟩ := k
  exact ⟨s₂, o, st _ h1, h2⟩
theorem Runs.tr {p : Program} {e : Env} {below : List Frame} {E : State → Outcome → Prop} {S S' : State} (k : Runs p e below E S') (st : Steps p.tables e below S S') : Runs p e below E S := by
  obtain ⟨s₂, o, h1, h2⟩ := k
  exact ⟨s₂, o, st.trans h1, h2⟩
def EndN (s : State) (Q : Option Value → Heap → List Loc → Prop) (kc ks : Nat) : State → Outcome → Prop := fun s₂ o => ∃ v L, o = .returned v ∧ Q v s₂.heap L ∧ FrameEnd s o s₂ L kc ks
def EndH (s Z : State) (EL : List (String × Nat)) (Q : Option Value → Heap → List Loc → (Addr → Prop) → Prop) (kc ks : Nat) : State → Outcome → Prop := fun s₂ o => ∃ v L, o = .returned v ∧ Q v s₂.heap L (Safe Z EL s₂.vm s₂.heap) ∧ CHr Z EL s.vm s.heap s₂.vm s₂.heap ∧ ReturnedEndW s o s₂ L kc ks
theorem own_nfS {args : Array Value} {s : State} {C : String} {x z y : MethodName} (h : (Cond.selects C x z).before args s = true) (e : z.cls = y.cls) : NotFace s y := fun r0 h0 => by
  obtain ⟨c2, r2, m2, q1, q2, q3, q4, kP, hkP, hkPi⟩ := Cond.selects_spec h
  have f1 := findClass_of_methodNamed q3
  have f2 := findClass_of_methodNamed h0
  rw [e] at f1
  have f3 : m2.cls = r0.cls := Option.some.inj (f1.symm.trans f2)
  exact ⟨kP, f3 ▸ hkP, hkPi⟩
def EB (Z : State) (h : Heap) (a : Addr) (n : Int32) : Prop := n = 0 ∨ Exa Z h a "[B"
theorem EB.ext {Z : State} {h h' : Heap} {a : Addr} {n : Int32} (E : Ext h h') (F : EB Z h a n) : EB Z h' a n := Or.imp id (fun q => q.ext E) F
theorem EB.wr {Z : State} {h h' : Heap} {a b : Addr} {n : Int32} {sl : Nat} {v : Value} (W : Wr h h' b sl v) (F : EB Z h a n) : EB Z h' a n := Or.imp id (fun q => q.wr W) F
theorem EB.keep {Z : State} {h h' : Heap} {a : Addr} {n : Int32} {ws : List Addr} (K : Keep h h' ws) (F : EB Z h a n) : EB Z h' a n := Or.imp id (fun q => q.keep K) F
section W
variable {p : Program} {l : Launch} {e : Env} {Rm : Room} {s : State} {m : MethodId} {args : Array Value} {below : List Frame} {meth : Method} {c : Code} {T : State} {locs : List Loc} {cells slots : Nat} {E : State → Outcome → Prop} {pc pc' : Nat} {Ls : Array Slot} {st : List Value}
theorem w_done (X : Stand p l e Rm s m args below meth c T locs cells slots) (hlk : meth.locks = false) {Q : Option Value → Heap → List Loc → Prop} {kc ks : Nat} {h : Heap} {v : Option Value} {g : JFrame} (eT : T.heap = h) (hv : meth.sig.returnType = none → v = none)
    (hr : ∀ fs, (∀ (f : JFrame) (acts : List Action), f.method = m → f.locked = none → f.entered = [] → (doReturn e (T.setTop f) acts v).1 = T.setFrames fs) → Steps p.tables e below (T.setTop g) (T.setFrames fs)) (hc : cells ≤ kc) (hn : slots ≤ ks) (hQ : Q v h locs) : Runs p e below (EndN s Q kc ks) (T.setTop g) := by
  obtain ⟨fs, h1, hrun, hended, hW, hsame⟩ := X.leave hv hlk
  subst eT
  exact ⟨_, _, hr fs h1, hrun, hended, v, locs, rfl, hQ, ⟨_, rfl⟩, hW, hsame.mono hc hn⟩
theorem w_doneH {vm₁ : Vm} (X : Stand p l e Rm (s.setVm vm₁) m args below meth c T locs cells slots) (hlk : meth.locks = false) {Z : State} {a0 : Array Value} {EL : List (String × Nat)} {Q : Option Value → Heap → List Loc → (Addr → Prop) → Prop} {kc ks k0 : Nat} {h h0 : Heap} {v : Option Value} {g : JFrame} (eT : T.heap = h) (hh : s.heap = h0) (hZ : Z.Warmed39 vm₁) (hEL : EW Z a0 EL) (hS : s.Since vm₁ k0) (hk : k0 ≤ h.size) (C : CHr Z EL s.vm h0 vm₁ h) (hv : meth.sig.returnType = none → v = none)
    (hr : ∀ fs, (∀ (f : JFrame) (acts : List Action), f.method = m → f.locked = none → f.entered = [] → (doReturn e (T.setTop f) acts v).1 = T.setFrames fs) → Steps p.tables e below (T.setTop g) (T.setFrames fs)) (hc : cells ≤ kc) (hn : slots ≤ ks) (hQ : (∀ x, x < h.size → Safe Z EL vm₁ h x → Safe Z EL T.vm h x) → Q v h locs (Safe Z EL T.vm h)) : Runs p e below (EndH s Z EL Q kc ks) (T.setTop g) := by
  subst eT hh
  obtain ⟨fs, h1, hrun, hended, q1, q2, q3, q4⟩ := X.leaveW hS hk hv hlk
  have A := CHv.at X hZ hEL C.1
  exact ⟨_, _, hr fs h1, hrun, hended, v, locs, rfl, hQ (fun x hx S => A.safe hx S), C.trans A, q1, q2, q3, q4.mono hc hn⟩
theorem w_aload (X : Stand p l e Rm s m args below meth c T locs cells slots) (hx : p.tables.exec = Jvm.exec) {k : Nat} {v : Value} (hd : decode c.code pc = .ok (.aload k, 2)) (hl : Ls[k]? = some (.val v)) (hv : v.isRef = true) (hp : pc + 2 = pc') (K : Runs p e below E (T.setTop (mkF m pc' Ls (v :: st)))) : Runs p e below E (T.setTop (mkF m pc Ls st)) := by
  subst hp; exact K.by fun _ k => XS.aload X.here hx rfl hd hl hv k
theorem w_aloadN (X : Stand p l e Rm s m args below meth c T locs cells slots) (hx : p.tables.exec = Jvm.exec) {k : Fin 4} {v : Value} (hd : decode c.code pc = .ok (.aload_n k, 1)) (hl : Ls[k.val]? = some (.val v)) (hv : v.isRef = true) (hp : pc + 1 = pc') (K : Runs p e below E (T.setTop (mkF m pc' Ls (v :: st)))) : Runs p e below E (T.setTop (mkF m pc Ls st)) := by
  subst hp; exact K.by fun _ k => XS.aloadN X.here hx rfl hd hl hv k
theorem w_iload (X : Stand p l e Rm s m args below meth c T locs cells slots) (hx : p.tables.exec = Jvm.exec) {k : Nat} {v : Int32} (hd : decode c.code pc = .ok (.iload k, 2)) (hl : Ls[k]? = some (.val (.int v))) (hp : pc + 2 = pc') (K : Runs p e below E (T.setTop (mkF m pc' Ls (.int v :: st)))) : Runs p e below E (T.setTop (mkF m pc Ls st)) := by
  subst hp; exact K.by fun _ k => XS.iload X.here hx rfl hd hl k
theorem w_iloadN (X : Stand p l e Rm s m args below meth c T locs cells slots) (hx : p.tables.exec = Jvm.exec) {k : Fin 4} {v : Int32} (hd : decode c.code pc = .ok (.iload_n k, 1)) (hl : Ls[k.val]? = some (.val (.int v))) (hp : pc + 1 = pc') (K : Runs p e below E (T.setTop (mkF m pc' Ls (.int v :: st)))) : Runs p e below E (T.setTop (mkF m pc Ls st)) := by
  subst hp; exact K.by fun _ k => XS.iloadN X.here hx rfl hd hl k
theorem w_lloadN (X : Stand p l e Rm s m args below meth c T locs cells slots) (hx : p.tables.exec = Jvm.exec) {k : Fin 4} {v : Int64} (hd : decode c.code pc = .ok (.lload_n k, 1)) (hl : Ls[k.val]? = some (.val (.long v))) (hp : pc + 1 = pc') (K : Runs p e below E (T.setTop (mkF m pc' Ls (.long v :: st)))) : Runs p e below E (T.setTop (mkF m pc Ls st)) := by
  subst hp; exact K.by fun _ k => XS.lloadN X.here hx rfl hd hl k
theorem w_istore (X : Stand p l e Rm s m args below meth c T locs cells slots) (hx : p.tables.exec = Jvm.exec) {k : Nat} {x : Int32} {L' : Array Slot} (hd : decode c.code pc = .ok (.istore k, 2)) (hl : storeLocals Ls k (.int x) = some L') (hp : pc + 2 = pc') (K : Runs p e below E (T.setTop (mkF m pc' L' st))) : Runs p e below E (T.setTop (mkF m pc Ls (.int x :: st))) := by
  subst hp; exact K.by fun _ k => XS.istore X.here hx rfl hd rfl hl k
theorem w_istoreN (X : Stand p l e Rm s m args below meth c T locs cells slots) (hx : p.tables.exec = Jvm.exec) {k : Fin 4} {x : Int32} {L' : Array Slot} (hd : decode c.code pc = .ok (.istore_n k, 1)) (hl : storeLocals Ls k.val (.int x) = some L') (hp : pc + 1 = pc') (K : Runs p e below E (T.setTop (mkF m pc' L' st))) : Runs p e below E (T.setTop (mkF m pc Ls (.int x :: st))) := by
  subst hp; exact K.by fun _ k => XS.istoreN X.here hx rfl hd rfl hl k
theorem w_astore (X : Stand p l e Rm s m args below meth c T locs cells slots) (hx : p.tables.exec = Jvm.exec) {k : Nat} {x : Value} {L' : Array Slot} (hd : decode c.code pc = .ok (.astore k, 2)) (hv : x.isRef = true) (hl : storeLocals Ls k x = some L') (hp : pc + 2 = pc') (K : Runs p e below E (T.setTop (mkF m pc' L' st))) : Runs p e below E (T.setTop (mkF m pc Ls (x :: st))) := by
  subst hp; exact K.by fun _ k => XS.astore X.here hx rfl hd rfl hv hl k
theorem w_astoreN (X : Stand p l e Rm s m args below meth c T locs cells slots) (hx : p.tables.exec = Jvm.exec) {k : Fin 4} {x : Value} {L' : Array Slot} (hd : decode c.code pc = .ok (.astore_n k, 1)) (hv : x.isRef = true) (hl : storeLocals Ls k.val x = some L') (hp : pc + 1 = pc') (K : Runs p e below E (T.setTop (mkF m pc' L' st))) : Runs p e below E (T.setTop (mkF m pc Ls (x :: st))) := by
  subst hp; exact K.by fun _ k => XS.astoreN X.here hx rfl hd rfl hv hl k
theorem w_iconst (X : Stand p l e Rm s m args below meth c T locs cells slots) (hx : p.tables.exec = Jvm.exec) {i : Int} {v : Int32} (hd : decode c.code pc = .ok (.iconst i, 1)) (hv : Int32.ofInt i = v) (hp : pc + 1 = pc') (K : Runs p e below E (T.setTop (mkF m pc' Ls (.int v :: st)))) : Runs p e below E (T.setTop (mkF m pc Ls st)) := by
  subst hp; exact K.by fun _ k => XT.iconstV X.here hx rfl v hd hv k
theorem w_bipush (X : Stand p l e Rm s m args below meth c T locs cells slots) (hx : p.tables.exec = Jvm.exec) {i : Int} {v : Int32} (hd : decode c.code pc = .ok (.bipush i, 2)) (hv : (Int8.ofInt i).toInt32 = v) (hp : pc + 2 = pc') (K : Runs p e below E (T.setTop (mkF m pc' Ls (.int v :: st)))) : Runs p e below E (T.setTop (mkF m pc Ls st)) := by
  subst hp; exact K.by fun _ k => XT.bipushV X.here hx rfl v hd hv k
theorem w_sipush (X : Stand p l e Rm s m args below meth c T locs cells slots) (hx : p.tables.exec = Jvm.exec) {i : Int} {v : Int32} (hd : decode c.code pc = .ok (.sipush i, 3)) (hv : (Int16.ofInt i).toInt32 = v) (hp : pc + 3 = pc') (K : Runs p e below E (T.setTop (mkF m pc' Ls (.int v :: st)))) : Runs p e below E (T.setTop (mkF m pc Ls st)) := by
  subst hp; exact K.by fun _ k => XT.sipushV X.here hx rfl v hd hv k
theorem w_null (X : Stand p l e Rm s m args below meth c T locs cells slots) (hx : p.tables.exec = Jvm.exec)  (hd : decode c.code pc = .ok (.aconst_null, 1))  (hp : pc + 1 = pc') (K : Runs p e below E (T.setTop (mkF m pc' Ls (.null :: st)))) : Runs p e below E (T.setTop (mkF m pc Ls st)) := by
  subst hp; exact K.by fun _ k => XS.aconstNull X.here hx rfl hd k
theorem w_iadd (X : Stand p l e Rm s m args below meth c T locs cells slots) (hx : p.tables.exec = Jvm.exec) {x y : Int32} (hd : decode c.code pc = .ok (.iadd, 1))  (hp : pc + 1 = pc') (K : Runs p e below E (T.setTop (mkF m pc' Ls (.int (x + y) :: st)))) : Runs p e below E (T.setTop (mkF m pc Ls (.int y :: .int x :: st))) := by
  subst hp; exact K.by fun _ k => XS.iadd X.here hx rfl hd rfl k
theorem w_isub (X : Stand p l e Rm s m args below meth c T locs cells slots) (hx : p.tables.exec = Jvm.exec) {x y : Int32} (hd : decode c.code pc = .ok (.isub, 1))  (hp : pc + 1 = pc') (K : Runs p e below E (T.setTop (mkF m pc' Ls (.int (x - y) :: st)))) : Runs p e below E (T.setTop (mkF m pc Ls (.int y :: .int x :: st))) := by
  subst hp; exact K.by fun _ k => XS.isub X.here hx rfl hd rfl k
theorem w_imul (X : Stand p l e Rm s m args below meth c T locs cells slots) (hx : p.tables.exec = Jvm.exec) {x y : Int32} (hd : decode c.code pc = .ok (.imul, 1))  (hp : pc + 1 = pc') (K : Runs p e below E (T.setTop (mkF m pc' Ls (.int (x * y) :: st)))) : Runs p e below E (T.setTop (mkF m pc Ls (.int y :: .int x :: st))) := by
  subst hp; exact K.by fun _ k => XS.imul X.here hx rfl hd rfl k
theorem w_iand (X : Stand p l e Rm s m args below meth c T locs cells slots) (hx : p.tables.exec = Jvm.exec) {x y : Int32} (hd : decode c.code pc = .ok (.iand, 1))  (hp : pc + 1 = pc') (K : Runs p e below E (T.setTop (mkF m pc' Ls (.int (x &&& y) :: st)))) : Runs p e below E (T.setTop (mkF m pc Ls (.int y :: .int x :: st))) := by
  subst hp; exact K.by fun _ k => XS.iand X.here hx rfl hd rfl k
theorem w_i2b (X : Stand p l e Rm s m args below meth c T locs cells slots) (hx : p.tables.exec = Jvm.exec) {x : Int32} (hd : decode c.code pc = .ok (.i2b, 1))  (hp : pc + 1 = pc') (K : Runs p e below E (T.setTop (mkF m pc' Ls (.int (x.toInt8.toInt32) :: st)))) : Runs p e below E (T.setTop (mkF m pc Ls (.int x :: st))) := by
  subst hp; exact K.by fun _ k => XS.i2b X.here hx rfl hd rfl k
theorem w_i2c (X : Stand p l e Rm s m args below meth c T locs cells slots) (hx : p.tables.exec = Jvm.exec) {x : Int32} (hd : decode c.code pc = .ok (.i2c, 1))  (hp : pc + 1 = pc') (K : Runs p e below E (T.setTop (mkF m pc' Ls (.int (x.toUInt32.toUInt16.toUInt32.toInt32) :: st)))) : Runs p e below E (T.setTop (mkF m pc Ls (.int x :: st))) := by
  subst hp; exact K.by fun _ k => XS.i2c X.here hx rfl hd rfl k
theorem w_l2i (X : Stand p l e Rm s m args below meth c T locs cells slots) (hx : p.tables.exec = Jvm.exec) {x : Int64} (hd : decode c.code pc = .ok (.l2i, 1))  (hp : pc + 1 = pc') (K : Runs p e below E (T.setTop (mkF m pc' Ls (.int (x.toInt32) :: st)))) : Runs p e below E (T.setTop (mkF m pc Ls (.long x :: st))) := by
  subst hp; exact K.by fun _ k => XS.l2i X.here hx rfl hd rfl k
theorem w_iushr (X : Stand p l e Rm s m args below meth c T locs cells slots) (hx : p.tables.exec = Jvm.exec) {x y : Int32} (hd : decode c.code pc = .ok (.iushr, 1))  (hp : pc + 1 = pc') (K : Runs p e below E (T.setTop (mkF m pc' Ls (.int ((x.toUInt32 >>> (y &&& 31).toUInt32).toInt32) :: st)))) : Runs p e below E (T.setTop (mkF m pc Ls (.int y :: .int x :: st))) := by
  subst hp; exact K.by fun _ k => XS.iushr X.here hx rfl hd rfl k
theorem w_lushr (X : Stand p l e Rm s m args below meth c T locs cells slots) (hx : p.tables.exec = Jvm.exec) {x : Int64} {y : Int32} (hd : decode c.code pc = .ok (.lushr, 1))  (hp : pc + 1 = pc') (K : Runs p e below E (T.setTop (mkF m pc' Ls (.long ((x.toUInt64 >>> (y &&& 0x3f).toInt64.toUInt64).toInt64) :: st)))) : Runs p e below E (T.setTop (mkF m pc Ls (.int y :: .long x :: st))) := by
  subst hp; exact K.by fun _ k => XS.lushr X.here hx rfl hd rfl k
theorem w_iinc (X : Stand p l e Rm s m args below meth c T locs cells slots) (hx : p.tables.exec = Jvm.exec) {k : Nat} {cst : Int} {x v : Int32} {L' : Array Slot} (hd : decode c.code pc = .ok (.iinc k cst, 3)) (hv : Int32.ofInt cst = v) (hl : Ls[k]? = some (.val (.int x))) (hl' : storeLocals Ls k (.int (x + v)) = some L') (hp : pc + 3 = pc') (K : Runs p e below E (T.setTop (mkF m pc' L' st))) : Runs p e below E (T.setTop (mkF m pc Ls st)) := by
  subst hp; exact K.by fun _ k => XT.iincV X.here hx rfl v hd hv hl hl' k
theorem w_dup (X : Stand p l e Rm s m args below meth c T locs cells slots) (hx : p.tables.exec = Jvm.exec) {x : Value} (hd : decode c.code pc = .ok (.dup, 1)) (hc : x.category = 1) (hp : pc + 1 = pc') (K : Runs p e below E (T.setTop (mkF m pc' Ls (x :: x :: st)))) : Runs p e below E (T.setTop (mkF m pc Ls (x :: st))) := by
  subst hp; exact K.by fun _ k => XS.dup X.here hx rfl hd rfl hc k
theorem w_goto (X : Stand p l e Rm s m args below meth c T locs cells slots) (hx : p.tables.exec = Jvm.exec) {o : Int} (hd : decode c.code pc = .ok (.goto o, 3))  (ho : 0 ≤ (pc : Int) + o) (hp : ((pc : Int) + o).toNat = pc') (K : Runs p e below E (T.setTop (mkF m pc' Ls st))) : Runs p e below E (T.setTop (mkF m pc Ls st)) := by
  exact K.by fun _ k => XS.goto X.here hx rfl rfl hd ho hp k
theorem w_ifY (X : Stand p l e Rm s m args below meth c T locs cells slots) (hx : p.tables.exec = Jvm.exec) {cd : ClassFile.Cond} {x : Int32} {o : Int} (hd : decode c.code pc = .ok (.ifCond cd o, 3)) (hc : if_icmp.holds cd x 0 = true) (ho : 0 ≤ (pc : Int) + o) (hp : ((pc : Int) + o).toNat = pc') (K : Runs p e below E (T.setTop (mkF m pc' Ls st))) : Runs p e below E (T.setTop (mkF m pc Ls (.int x :: st))) := by
  exact K.by fun _ k => XS.ifYes X.here hx rfl rfl hd rfl ((if0 _ _).trans hc) ho hp k
theorem w_ifN (X : Stand p l e Rm s m args below meth c T locs cells slots) (hx : p.tables.exec = Jvm.exec) {cd : ClassFile.Cond} {x : Int32} {o : Int} (hd : decode c.code pc = .ok (.ifCond cd o, 3)) (hc : if_icmp.holds cd x 0 = false) (hp : pc + 3 = pc') (K : Runs p e below E (T.setTop (mkF m pc' Ls st))) : Runs p e below E (T.setTop (mkF m pc Ls (.int x :: st))) := by
  subst hp; exact K.by fun _ k => XS.ifNo X.here hx rfl hd rfl ((if0 _ _).trans hc) k
theorem w_icY (X : Stand p l e Rm s m args below meth c T locs cells slots) (hx : p.tables.exec = Jvm.exec) {cd : ClassFile.Cond} {x y : Int32} {o : Int} (hd : decode c.code pc = .ok (.if_icmp cd o, 3)) (hc : if_icmp.holds cd x y = true) (ho : 0 ≤ (pc : Int) + o) (hp : ((pc : Int) + o).toNat = pc') (K : Runs p e below E (T.setTop (mkF m pc' Ls st))) : Runs p e below E (T.setTop (mkF m pc Ls (.int y :: .int x :: st))) := by
  exact K.by fun _ k => XS.icmpYes X.here hx rfl rfl hd rfl hc ho hp k
theorem w_icN (X : Stand p l e Rm s m args below meth c T locs cells slots) (hx : p.tables.exec = Jvm.exec) {cd : ClassFile.Cond} {x y : Int32} {o : Int} (hd : decode c.code pc = .ok (.if_icmp cd o, 3)) (hc : if_icmp.holds cd x y = false) (hp : pc + 3 = pc') (K : Runs p e below E (T.setTop (mkF m pc' Ls st))) : Runs p e below E (T.setTop (mkF m pc Ls (.int y :: .int x :: st))) := by
  subst hp; exact K.by fun _ k => XS.icmpNo X.here hx rfl hd rfl hc k
theorem w_ifnullN (X : Stand p l e Rm s m args below meth c T locs cells slots) (hx : p.tables.exec = Jvm.exec) {b : Addr} {o : Int} (hd : decode c.code pc = .ok (.ifnull o, 3))  (hp : pc + 3 = pc') (K : Runs p e below E (T.setTop (mkF m pc' Ls st))) : Runs p e below E (T.setTop (mkF m pc Ls (.ref b :: st))) := by
  subst hp; exact K.by fun _ k => XS.ifnullNo X.here hx rfl hd rfl k
theorem w_ifnonnullY (X : Stand p l e Rm s m args below meth c T locs cells slots) (hx : p.tables.exec = Jvm.exec) {b : Addr} {o : Int} (hd : decode c.code pc = .ok (.ifnonnull o, 3))  (ho : 0 ≤ (pc : Int) + o) (hp : ((pc : Int) + o).toNat = pc') (K : Runs p e below E (T.setTop (mkF m pc' Ls st))) : Runs p e below E (T.setTop (mkF m pc Ls (.ref b :: st))) := by
  exact K.by fun _ k => XS.ifnonnullYes X.here hx rfl rfl hd rfl ho hp k
theorem w_ifnonnullN (X : Stand p l e Rm s m args below meth c T locs cells slots) (hx : p.tables.exec = Jvm.exec) {o : Int} (hd : decode c.code pc = .ok (.ifnonnull o, 3))  (hp : pc + 3 = pc') (K : Runs p e below E (T.setTop (mkF m pc' Ls st))) : Runs p e below E (T.setTop (mkF m pc Ls (.null :: st))) := by
  subst hp; exact K.by fun _ k => XS.ifnonnullNo X.here hx rfl hd rfl k
theorem w_acmp (X : Stand p l e Rm s m args below meth c T locs cells slots) (hx : p.tables.exec = Jvm.exec) {cd : ACond} {x y : Value} {o : Int} {same : Bool} (hd : decode c.code pc = .ok (.if_acmp cd o, 3)) (h1 : x.isRef = true) (h2 : y.isRef = true) (hq : decide (x = y) = same) (ho : 0 ≤ (pc : Int) + o) (hp : pc' = if acV cd same = true then ((pc : Int) + o).toNat else pc + 3) (K : Runs p e below E (T.setTop (mkF m pc' Ls st))) : Runs p e below E (T.setTop (mkF m pc Ls (y :: x :: st))) := by
  exact K.by fun _ k => Jvm.RoadKit.acmp (g := mkF m pc Ls _) X hx rfl h1 h2 rfl hd rfl hq ho hp k
theorem w_tswIn (X : Stand p l e Rm s m args below meth c T locs cells slots) (hx : p.tables.exec = Jvm.exec) {dflt low high : Int} {offs : Array Int} {len : Nat} {o : Int} {i : Int32} (hd : decode c.code pc = .ok (.tableswitch dflt low high offs, len)) (hin : ¬ (i.toInt < low ∨ i.toInt > high)) (hoff : offs[(i.toInt - low).toNat]? = some o) (ho : 0 ≤ (pc : Int) + o) (hp : ((pc : Int) + o).toNat = pc') (K : Runs p e below E (T.setTop (mkF m pc' Ls st))) : Runs p e below E (T.setTop (mkF m pc Ls (.int i :: st))) := by
  exact K.by fun _ k => XS.tswIn X.here hx rfl rfl hd rfl hin hoff ho hp k
theorem w_getF (X : Stand p l e Rm s m args below meth c T locs cells slots) (hx : p.tables.exec = Jvm.exec) {Z : State} {a0 : Array Value} {h : Heap} {own R0 O n d : String} (host : String) {index : Nat} {a : Addr} {v : Value} (hZ : Z.Warmed39 s.vm) (hown : s.vm.findClass own = some m.cls) (w : (Cond.fieldLink own index R0 n d).before a0 Z = true ∨ (Cond.fieldLinkNest own index R0 n d host).before a0 Z = true) (via : Via Z R0 O n d) (eT : T.heap = h) (F : Fld Z h a O n d v) (hd : decode c.code pc = .ok (.getfield index, 3)) (hp : pc + 3 = pc') (K : ∀ T' : State, Stand p l e Rm s m args below meth c T' locs cells slots → T'.heap = h → Runs p e below E (T'.setTop (mkF m pc' Ls (v :: st)))) : Runs p e below E (T.setTop (mkF m pc Ls (.ref a :: st))) := by
  subst hp
  obtain ⟨T1, X1, e1, st1⟩ := getF X hx hZ hown (host := host) w via eT F (g := mkF m pc Ls (.ref a :: st)) rfl rfl hd
  exact (K T1 X1 e1).by st1
theorem w_getS (X : Stand p l e Rm s m args below meth c T locs cells slots) (hx : p.tables.exec = Jvm.exec) {Z : State} {a0 : Array Value} {h : Heap} {own R0 O n d : String} (host : String) {index : Nat} {v : Value} (hZ : Z.Warmed39 s.vm) (hown : s.vm.findClass own = some m.cls) (w : (Cond.fieldLink own index R0 n d).before a0 Z = true ∨ (Cond.fieldLinkNest own index R0 n d host).before a0 Z = true) (via : Via Z R0 O n d) (eT : T.heap = h) (F : Sta Z h O n d v) (hd : decode c.code pc = .ok (.getstatic index, 3)) (hp : pc + 3 = pc') (K : ∀ T' : State, Stand p l e Rm s m args below meth c T' locs cells slots → T'.heap = h → Runs p e below E (T'.setTop (mkF m pc' Ls (v :: st)))) : Runs p e below E (T.setTop (mkF m pc Ls st)) := by
  subst hp
  obtain ⟨T1, X1, e1, st1⟩ := getS2 X hx hZ hown (host := host) w via eT F (g := mkF m pc Ls st) rfl hd
  exact (K T1 X1 e1).by st1
theorem w_putF (X : Stand p l e Rm s m args below meth c T locs cells slots) (hx : p.tables.exec = Jvm.exec) {Z : State} {a0 : Array Value} {h : Heap} {own R0 O n d C : String} (host : String) {index kk : Nat} {ty : FieldType} {a : Addr} {v old : Value} (hZ : Z.Warmed39 s.vm) (hown : s.vm.findClass own = some m.cls) (w : (Cond.fieldLink own index R0 n d).before a0 Z = true ∨ (Cond.fieldLinkNest own index R0 n d host).before a0 Z = true) (via : Via Z R0 O n d) (eT : T.heap = h) (F : Fld Z h a O n d old) (Ex : Exa Z h a C) (Ly : (Cond.lays C O n d).before a0 Z = true ∨ ((Cond.laysFinal C O n d).before a0 Z = true ∧ own = O ∧ meth.name = "<init>")) (wi : (Cond.instantiable C kk).before a0 Z = true) (hty : parseFieldDescriptor d = some ty) (hn : narrow ty v = v) (hf : fits ty v = true) (hd : decode c.code pc = .ok (.putfield index, 3)) (hp : pc + 3 = pc') (K : ∀ (T' : State) (h' : Heap), Stand p l e Rm s m args below meth c T' (locs ++ [⟨a, slotOf Z O n d⟩]) cells slots → T'.heap = h' → Wr h h' a (slotOf Z O n d) v → Runs p e below E (T'.setTop (mkF m pc' Ls st))) : Runs p e below E (T.setTop (mkF m pc Ls (v :: .ref a :: st))) := by
  subst hp
  obtain ⟨T1, h1, X1, e1, W1, st1⟩ := putF X hx hZ hown (host := host) w via eT F Ex Ly wi hty hn hf (g := mkF m pc Ls (v :: .ref a :: st)) rfl rfl hd
  exact (K T1 h1 X1 e1 W1).by st1
theorem w_new (X : Stand p l e Rm s m args below meth c T locs cells slots) (hx : p.tables.exec = Jvm.exec) {Z : State} {a0 : Array Value} {h : Heap} {own C : String} {index n : Nat} (hZ : Z.Warmed39 s.vm) (hown : s.vm.findClass own = some m.cls) (w : (Cond.classLink own index C).before a0 Z = true) (wi : (Cond.instantiable C n).before a0 Z = true) (wz : (Cond.initialized C).before a0 Z = true) (eT : T.heap = h) (hd : decode c.code pc = .ok (.new index, 3)) (hc : cells + 1 ≤ Rm.cells) (hl : slots + n ≤ Rm.slots) (hp : pc + 3 = pc') (K : ∀ (T' : State) (h' : Heap) (b : Addr), Stand p l e Rm s m args below meth c T' locs (cells + 1) (slots + n) → T'.heap = h' → Ext h h' → b = h.size → Exa Z h' b C → (∀ {O nm d : String} {ty : FieldType}, Laid Z a0 C O nm d → parseFieldDescriptor d = some ty → Fld Z h' b O nm d (defaultValue ty)) → Runs p e below E (T'.setTop (mkF m pc' Ls (.ref b :: st)))) : Runs p e below E (T.setTop (mkF m pc Ls st)) := by
  subst hp
  obtain ⟨T1, h1, X1, e1, E1, A1, D1, -, st1⟩ := newO X hx hZ hown w wi wz eT (g := mkF m pc Ls st) rfl hd hc hl
  exact (K T1 h1 _ X1 e1 E1 rfl A1 D1).by st1
theorem w_newPE (X : Stand p l e Rm s m args below meth c T locs cells slots) (hx : p.tables.exec = Jvm.exec) {Z : State} {a0 : Array Value} {h : Heap} (aty : ArrayType) (ty : FieldType) {n : Int32} (cap : Nat) (ad : String) (hty : newarray.typeOf aty = ty) (hZ : Z.Warmed39 s.vm) (w : (Cond.arrayClass ty).before a0 Z = true) (eT : T.heap = h) (hd : decode c.code pc = .ok (.newarray aty, 2)) (hn : ¬ n < 0) (hcap : n.toNatClampNeg ≤ cap) (hb : cap * 8 ≤ 536870912) (hc : cells + 1 ≤ Rm.cells) (hl : slots + cap ≤ Rm.slots) (had : "[" ++ ty.toString = ad) (hp : pc + 2 = pc') (K : ∀ (T' : State) (h' : Heap) (k : ClassId) (b : Addr), Stand p l e Rm s m args below meth c T' locs (cells + 1) (slots + cap) → T'.heap = h' → Ext h h' → b = h.size → Arr Z h' b (newA k ty n) ty → Exa Z h' b ad → Runs p e below E (T'.setTop (mkF m pc' Ls (.ref b :: st)))) : Runs p e below E (T.setTop (mkF m pc Ls (.int n :: st))) := by
  subst hp
  subst hty
  obtain ⟨T1, h1, k1, X1, e1, E1, A1, E2, st1⟩ := newPE X hx hZ w eT (g := mkF m pc Ls (.int n :: st)) rfl hd rfl hn hcap hb hc hl had
  exact (K T1 h1 k1 _ X1 e1 E1 rfl A1 E2).by st1
theorem w_newR (X : Stand p l e Rm s m args below meth c T locs cells slots) (hx : p.tables.exec = Jvm.exec) {Z : State} {a0 : Array Value} {h : Heap} {own C : String} {index : Nat} {n : Int32} (cap : Nat) (ad : String) (hZ : Z.Warmed39 s.vm) (hown : s.vm.findClass own = some m.cls) (w1 : (Cond.classLink own index C).before a0 Z = true) (w2 : (Cond.arrayOver (.object C)).before a0 Z = true) (eT : T.heap = h) (hd : decode c.code pc = .ok (.anewarray index, 3)) (hn : ¬ n < 0) (hcap : n.toNatClampNeg ≤ cap) (hb : cap * 8 ≤ 536870912) (hc : cells + 1 ≤ Rm.cells) (hl : slots + cap ≤ Rm.slots) (had : "[" ++ (FieldType.object C).toString = ad) (hp : pc + 3 = pc') (K : ∀ (T' : State) (h' : Heap) (k : ClassId) (b : Addr), Stand p l e Rm s m args below meth c T' locs (cells + 1) (slots + cap) → T'.heap = h' → Ext h h' → b = h.size → Arr Z h' b (newA k (.object C) n) (.object C) → Exa Z h' b ad → Ovr Z k C → Runs p e below E (T'.setTop (mkF m pc' Ls (.ref b :: st)))) : Runs p e below E (T.setTop (mkF m pc Ls (.int n :: st))) := by
  subst hp
  obtain ⟨T1, h1, k1, X1, e1, E1, A1, E2, O1, st1⟩ := newRE X hx hZ hown w1 w2 eT (g := mkF m pc Ls (.int n :: st)) rfl hd rfl hn hcap hb hc hl had
  exact (K T1 h1 k1 _ X1 e1 E1 rfl A1 E2 O1).by st1
theorem w_stC (X : Stand p l e Rm s m args below meth c T locs cells slots) (hx : p.tables.exec = Jvm.exec) {Z : State} {h : Heap} {a : Addr} {cl : Cell} {j : Int32} {x : Int32} (hZ : Z.Warmed39 s.vm) (eT : T.heap = h) (A : Arr Z h a cl .char) (hj : ¬ (j < 0 ∨ cl.slots.size ≤ j.toNatClampNeg)) (hd : decode c.code pc = .ok (.castore, 1)) (hp : pc + 1 = pc') (K : ∀ (T' : State) (h' : Heap), Stand p l e Rm s m args below meth c T' (locs ++ [⟨a, j.toNatClampNeg⟩]) cells slots → T'.heap = h' → Wr h h' a j.toNatClampNeg (.int (nar .char x)) → Runs p e below E (T'.setTop (mkF m pc' Ls st))) : Runs p e below E (T.setTop (mkF m pc Ls (.int x :: .int j :: .ref a :: st))) := by
  subst hp
  obtain ⟨T1, h1, X1, e1, W1, st1⟩ := stC X hx hZ eT A (j := j) hj (g := mkF m pc Ls (.int x :: .int j :: .ref a :: st)) rfl rfl hd
  exact (K T1 h1 X1 e1 W1).by st1
theorem w_stB (X : Stand p l e Rm s m args below meth c T locs cells slots) (hx : p.tables.exec = Jvm.exec) {Z : State} {h : Heap} {a : Addr} {cl : Cell} {j : Int32} {x : Int32} (hZ : Z.Warmed39 s.vm) (eT : T.heap = h) (A : Arr Z h a cl .byte) (hj : ¬ (j < 0 ∨ cl.slots.size ≤ j.toNatClampNeg)) (hd : decode c.code pc = .ok (.bastore, 1)) (hp : pc + 1 = pc') (K : ∀ (T' : State) (h' : Heap), Stand p l e Rm s m args below meth c T' (locs ++ [⟨a, j.toNatClampNeg⟩]) cells slots → T'.heap = h' → Wr h h' a j.toNatClampNeg (.int (nar .byte x)) → Runs p e below E (T'.setTop (mkF m pc' Ls st))) : Runs p e below E (T.setTop (mkF m pc Ls (.int x :: .int j :: .ref a :: st))) := by
  subst hp
  obtain ⟨T1, h1, X1, e1, W1, st1⟩ := stB X hx hZ eT A (j := j) hj (g := mkF m pc Ls (.int x :: .int j :: .ref a :: st)) rfl rfl hd
  exact (K T1 h1 X1 e1 W1).by st1
theorem w_stR (X : Stand p l e Rm s m args below meth c T locs cells slots) (hx : p.tables.exec = Jvm.exec) {Z : State} {h : Heap} {a : Addr} {cl : Cell} {ty : FieldType} {j : Int32} {v : Value} (hZ : Z.Warmed39 s.vm) (eT : T.heap = h) (A : Arr Z h a cl ty) (hj : ¬ (j < 0 ∨ cl.slots.size ≤ j.toNatClampNeg)) (hty : ty.isReference = true) (F : Sto Z h a v) (hd : decode c.code pc = .ok (.aastore, 1)) (hp : pc + 1 = pc') (K : ∀ (T' : State) (h' : Heap), Stand p l e Rm s m args below meth c T' (locs ++ [⟨a, j.toNatClampNeg⟩]) cells slots → T'.heap = h' → Wr h h' a j.toNatClampNeg v → Runs p e below E (T'.setTop (mkF m pc' Ls st))) : Runs p e below E (T.setTop (mkF m pc Ls (v :: .int j :: .ref a :: st))) := by
  subst hp
  obtain ⟨T1, h1, X1, e1, W1, st1⟩ := stR X hx hZ eT A (j := j) hj hty F (g := mkF m pc Ls (v :: .int j :: .ref a :: st)) rfl rfl hd
  exact (K T1 h1 X1 e1 W1).by st1
theorem w_caload (X : Stand p l e Rm s m args below meth c T locs cells slots) (hx : p.tables.exec = Jvm.exec) {Z : State} {h : Heap} {a : Addr} {cl : Cell} {j : Int32} {v : Int32} (hZ : Z.Warmed39 s.vm) (eT : T.heap = h) (A : Arr Z h a cl .char) (hj : ¬ (j < 0 ∨ cl.slots.size ≤ j.toNatClampNeg)) (hv : cl.slots[j.toNatClampNeg]? = some (.int v)) (hd : decode c.code pc = .ok (.caload, 1)) (hp : pc + 1 = pc') (K : Runs p e below E (T.setTop (mkF m pc' Ls (.int v :: st)))) : Runs p e below E (T.setTop (mkF m pc Ls (.int j :: .ref a :: st))) := by
  subst hp
  exact K.by fun t k => X.caload hx (j := j) (v := .int v) (by rw [eT]; exact A.1) (State.isArrayOf_alike hZ.alike A.2.1) A.2.2 hj hv (g := mkF m pc Ls (.int j :: .ref a :: st)) rfl rfl hd t k
theorem w_baload (X : Stand p l e Rm s m args below meth c T locs cells slots) (hx : p.tables.exec = Jvm.exec) {Z : State} {h : Heap} {a : Addr} {cl : Cell} {j : Int32} {v : Int32} (hZ : Z.Warmed39 s.vm) (eT : T.heap = h) (A : Arr Z h a cl .byte) (hj : ¬ (j < 0 ∨ cl.slots.size ≤ j.toNatClampNeg)) (hv : cl.slots[j.toNatClampNeg]? = some (.int v)) (hd : decode c.code pc = .ok (.baload, 1)) (hp : pc + 1 = pc') (K : Runs p e below E (T.setTop (mkF m pc' Ls (.int v :: st)))) : Runs p e below E (T.setTop (mkF m pc Ls (.int j :: .ref a :: st))) := by
  subst hp
  exact K.by fun t k => X.baloadBytes hx (j := j) (v := .int v) (by rw [eT]; exact A.1) (State.isArrayOf_alike hZ.alike A.2.1) A.2.2 hj hv (g := mkF m pc Ls (.int j :: .ref a :: st)) rfl rfl hd t k
theorem w_aaload (X : Stand p l e Rm s m args below meth c T locs cells slots) (hx : p.tables.exec = Jvm.exec) {Z : State} {h : Heap} {a : Addr} {cl : Cell} {ty : FieldType} {j : Int32} {v : Value} (hZ : Z.Warmed39 s.vm) (eT : T.heap = h) (A : Arr Z h a cl ty) (hty : ty.isReference = true) (hj : ¬ (j < 0 ∨ cl.slots.size ≤ j.toNatClampNeg)) (hv : cl.slots[j.toNatClampNeg]? = some v) (hd : decode c.code pc = .ok (.aaload, 1)) (hp : pc + 1 = pc') (K : Runs p e below E (T.setTop (mkF m pc' Ls (v :: st)))) : Runs p e below E (T.setTop (mkF m pc Ls (.int j :: .ref a :: st))) := by
  subst hp
  exact K.by fun t k => X.aaload hx (j := j) (v := v) (by rw [eT]; exact A.1) (State.isArrayOf_alike hZ.alike A.2.1) hty A.2.2 hj hv (g := mkF m pc Ls (.int j :: .ref a :: st)) rfl rfl hd t k
theorem w_alen (X : Stand p l e Rm s m args below meth c T locs cells slots) (hx : p.tables.exec = Jvm.exec) {Z : State} {h : Heap} {a : Addr} {k : ClassId} {ty : FieldType} {z : Int32} {vs : List Value} {dv : Value} (hZ : Z.Warmed39 s.vm) (eT : T.heap = h) (F : Arv Z h a k ty z vs dv) (hd : decode c.code pc = .ok (.arraylength, 1)) (hp : pc + 1 = pc') (K : Runs p e below E (T.setTop (mkF m pc' Ls (.int z :: st)))) : Runs p e below E (T.setTop (mkF m pc Ls (.ref a :: st))) := by
  subst hp
  obtain ⟨cl, A, q, S, N, H, G⟩ := F
  rw [← len_of S N] at K
  exact K.by fun t k => X.arraylength hx (by rw [eT]; exact A.1) (State.isArrayOf_alike hZ.alike A.2.1) (g := mkF m pc Ls (.ref a :: st)) rfl rfl hd t k
theorem w_castY (X : Stand p l e Rm s m args below meth c T locs cells slots) (hx : p.tables.exec = Jvm.exec) {Z : State} {a0 : Array Value} {h : Heap} {own K0 : String} {index : Nat} {a : Addr} (hZ : Z.Warmed39 s.vm) (hown : s.vm.findClass own = some m.cls) (w : (Cond.classLink own index K0).before a0 Z = true) (eT : T.heap = h) (F : Ins Z h a K0 true) (hd : decode c.code pc = .ok (.checkcast index, 3)) (hp : pc + 3 = pc') (K : ∀ T' : State, Stand p l e Rm s m args below meth c T' locs cells slots → T'.heap = h → Runs p e below E (T'.setTop (mkF m pc' Ls (.ref a :: st)))) : Runs p e below E (T.setTop (mkF m pc Ls (.ref a :: st))) := by
  subst hp
  obtain ⟨T1, X1, e1, st1⟩ := castY X hx hZ hown w eT F (g := mkF m pc Ls (.ref a :: st)) rfl rfl hd
  exact (K T1 X1 e1).by st1
theorem w_instY (X : Stand p l e Rm s m args below meth c T locs cells slots) (hx : p.tables.exec = Jvm.exec) {Z : State} {a0 : Array Value} {h : Heap} {own K0 : String} {index : Nat} {a : Addr} (hZ : Z.Warmed39 s.vm) (hown : s.vm.findClass own = some m.cls) (w : (Cond.classLink own index K0).before a0 Z = true) (eT : T.heap = h) (F : Ins Z h a K0 true) (hd : decode c.code pc = .ok (.instanceof index, 3)) (hp : pc + 3 = pc') (K : ∀ T' : State, Stand p l e Rm s m args below meth c T' locs cells slots → T'.heap = h → Runs p e below E (T'.setTop (mkF m pc' Ls (.int 1 :: st)))) : Runs p e below E (T.setTop (mkF m pc Ls (.ref a :: st))) := by
  subst hp
  obtain ⟨T1, X1, e1, st1⟩ := instY X hx hZ hown w eT F (g := mkF m pc Ls (.ref a :: st)) rfl rfl hd
  exact (K T1 X1 e1).by st1
theorem w_initO (X : Stand p l e Rm s m args below meth c T locs cells slots) (hx : p.tables.exec = Jvm.exec) {Z : State} {a0 : Array Value} {h : Heap} {own : String} {index : Nat} {a : Addr} (W : Nat) (hZ : Z.Warmed39 s.vm) (hown : s.vm.findClass own = some m.cls) (w1 : (Cond.methodLink own index Lib.objectInit).before a0 Z = true) (w2 : (Cond.instanceMethod Lib.objectInit).before a0 Z = true) (w3 : (Cond.code Lib.objectInit ⟨#[0xb1]⟩ 1 none).before a0 Z = true) (eT : T.heap = h) (hsz : Ls.size = c.maxLocals) (hd : decode c.code pc = .ok (.invokespecial index, 3)) (hf : 1 ≤ Rm.frames) (hW : (st.map fun v => v.category).sum ≤ W) (hl : W + 12 ≤ Rm.locals) (hp : pc + 3 = pc') (K : ∀ T' : State, Stand p l e Rm s m args below meth c T' locs cells slots → T'.heap = h → Runs p e below E (T'.setTop (mkF m pc' Ls st))) : Runs p e below E (T.setTop (mkF m pc Ls (.ref a :: st))) := by
  subst hp
  obtain ⟨T1, X1, e1, st1⟩ := initO X hx hZ hown w1 w2 w3 eT (g := mkF m pc Ls (.ref a :: st)) rfl hsz rfl hd hf (W := W) (by show 2 * 0 + _ ≤ _; omega) hl
  exact (K T1 X1 e1).by st1
theorem w_clone (X : Stand p l e Rm s m args below meth c T locs cells slots) (hx : p.tables.exec = Jvm.exec) {Z : State} {a0 : Array Value} {h : Heap} {own ad : String} {index : Nat} {a : Addr} {k : ClassId} {ty : FieldType} {z : Int32} {vs : List Value} {dv : Value} (W cap : Nat) (hZ : Z.Warmed39 s.vm) (hown : s.vm.findClass own = some m.cls) (w1 : (Cond.methodLink own index ⟨ad, "clone", "()Ljava/lang/Object;"⟩).before a0 Z = true) (w2 : (Cond.sameMethod ad "java/lang/Object" "clone" "()Ljava/lang/Object;").before a0 Z = true) (w3 : (Cond.native ⟨"java/lang/Object", "clone", "()Ljava/lang/Object;"⟩).before a0 Z = true) (w4 : (Cond.instanceMethod ⟨"java/lang/Object", "clone", "()Ljava/lang/Object;"⟩).before a0 Z = true) (w5 : (Cond.selects ad ⟨ad, "clone", "()Ljava/lang/Object;"⟩ ⟨"java/lang/Object", "clone", "()Ljava/lang/Object;"⟩).before a0 Z = true) (w6 : (Cond.castable ad "java/lang/Cloneable").before a0 Z = true) (eT : T.heap = h) (F : Arv Z h a k ty z vs dv) (Ex : Exa Z h a ad) (hsz : Ls.size = c.maxLocals) (hd : decode c.code pc = .ok (.invokevirtual index, 3)) (hf : 1 ≤ Rm.frames) (hW : (st.map fun v => v.category).sum ≤ W) (hl : W + 14 ≤ Rm.locals) (hcap : z.toNatClampNeg ≤ cap) (hc : cells + 1 ≤ Rm.cells) (hsl : slots + cap ≤ Rm.slots) (hp : pc + 3 = pc') (K : ∀ (T' : State) (h' : Heap) (b : Addr), Stand p l e Rm s m args below meth c T' locs (cells + 1) (slots + cap) → T'.heap = h' → Ext h h' → b = h.size → Arv Z h' b k ty z vs dv → Exa Z h' b ad → Runs p e below E (T'.setTop (mkF m pc' Ls (.ref b :: st)))) : Runs p e below E (T.setTop (mkF m pc Ls (.ref a :: st))) := by
  subst hp
  obtain ⟨cl, A, q1, S, q3, H, G⟩ := F
  have FC : FitC Z cl := fitC_of A fun i hi v hv => by rw [H i hi] at hv; cases hv; exact G i hi
  obtain ⟨T1, h1, X1, e1, E1, A1, E2, st1⟩ := cloneA X hx hZ hown w1 w2 w3 w4 w5 w6 eT A Ex FC (g := mkF m pc Ls (.ref a :: st)) rfl hsz rfl hd hf (W := W) (by show 2 * 0 + _ ≤ _; omega) hl (by rw [S]; exact hcap) hc hsl
  exact (K T1 h1 _ X1 e1 E1 rfl ⟨cloneOf cl, A1, q1, S, q3, H, G⟩ E2).by st1
theorem w_lswHit (X : Stand p l e Rm s m args below meth c T locs cells slots) (hx : p.tables.exec = Jvm.exec) {dflt : Int} {pairs : Array (Int × Int)} {len : Nat} {i : Int32} {a o : Int} (hd : decode c.code pc = .ok (.lookupswitch dflt pairs, len)) (hsorted : (pairs.toList.zip (pairs.toList.drop 1)).all (fun (a, next) => a.1 < next.1) = true) (hfind : pairs.find? (·.1 == i.toInt) = some (a, o)) (ho : 0 ≤ (pc : Int) + o) (hp : ((pc : Int) + o).toNat = pc') (K : Runs p e below E (T.setTop (mkF m pc' Ls st))) : Runs p e below E (T.setTop (mkF m pc Ls (.int i :: st))) := by
  subst hp
  exact K.by fun t k => X.lookupswitchHit hx (g := mkF m pc Ls (.int i :: st)) rfl rfl hd hsorted hfind ho t k
theorem w_lswMiss (X : Stand p l e Rm s m args below meth c T locs cells slots) (hx : p.tables.exec = Jvm.exec) {dflt : Int} {pairs : Array (Int × Int)} {len : Nat} {i : Int32} (hd : decode c.code pc = .ok (.lookupswitch dflt pairs, len)) (hsorted : (pairs.toList.zip (pairs.toList.drop 1)).all (fun (a, next) => a.1 < next.1) = true) (hfind : pairs.find? (·.1 == i.toInt) = none) (ho : 0 ≤ (pc : Int) + dflt) (hp : ((pc : Int) + dflt).toNat = pc') (K : Runs p e below E (T.setTop (mkF m pc' Ls st))) : Runs p e below E (T.setTop (mkF m pc Ls (.int i :: st))) := by
  subst hp
  exact K.by fun t k => X.lookupswitchMiss hx (g := mkF m pc Ls (.int i :: st)) rfl rfl hd hsorted hfind ho t k
theorem w_static (X : Stand p l e Rm s m args below meth c T locs cells slots) (hx : p.tables.exec = Jvm.exec) {stk : List Value} {own : String} {index : Nat} {y : MethodName} {bytes : ByteArray} {maxL : Nat} {ret : Option FieldType} {W : Nat} {Pre : Pt → Array Value → Prop} {Post : Pt → Array Value → Option Value → Pt → Prop} (hown : s.vm.findClass own = some m.cls) (hlink : (Cond.methodLink own index y).before args s = true) (hstat : (Cond.static y).before args s = true) (hinit : (Cond.initialized y.cls).before args s = true) (hcode : (Cond.code y bytes maxL ret).before args s = true) (hy : y.cls ≠ "java/lang/invoke/MethodHandle" ∧ y.cls ≠ "java/lang/invoke/VarHandle") (hK : Back l Rm p e below s args y 3 W Pre Post) (hsz : Ls.size = c.maxLocals) (argsL : List Value) (hlen : ∀ sig, parseMethodDescriptor y.desc = some sig → argsL.length = sig.parameters.length) (hst : stk = argsL.reverse ++ st) (hW : (st.map fun v => v.category).sum ≤ W) (hd : decode c.code pc = .ok (.invokestatic index, 3)) (hpre : ∀ vm₁, s.WarmedH vm₁ → Pre ⟨T.setVm vm₁, locs, cells, slots⟩ argsL.toArray) (hp : pc + 3 = pc') (K : ∀ (v : Option Value) (vm₁ : Vm) (B : Pt), Stand p l e Rm s m args below meth c B.U B.locs B.cells B.slots → Post ⟨T.setVm vm₁, locs, cells, slots⟩ argsL.toArray v B → Runs p e below E (B.U.setTop (mkF m pc' Ls (v.toList ++ st)))) : Runs p e below E (T.setTop (mkF m pc Ls stk)) := by
  subst hp
  obtain ⟨v1, vm1, B1, -, X1, q1, st1⟩ := Jvm.LawKit.callS X hx hown hlink hstat hinit hcode hy hK (g := mkF m pc Ls stk) rfl hsz (argsL := argsL) (rest := st) hlen hst (by show 2 * 0 + _ ≤ _; omega) hd hpre
  exact (K v1 vm1 B1 X1 q1).by st1
theorem w_special (X : Stand p l e Rm s m args below meth c T locs cells slots) (hx : p.tables.exec = Jvm.exec) {stk : List Value} {own : String} {index : Nat} {y : MethodName} {bytes : ByteArray} {maxL : Nat} {a : Addr} {W : Nat} {Pre : Pt → Array Value → Prop} {Post : Pt → Array Value → Option Value → Pt → Prop} (hy1 : y.name = "<init>") (hown : s.vm.findClass own = some m.cls) (hlink : (Cond.methodLink own index y).before args s = true) (hinst : (Cond.instanceMethod y).before args s = true) (hcode : (Cond.code y bytes maxL none).before args s = true) (hy : y.cls ≠ "java/lang/invoke/MethodHandle" ∧ y.cls ≠ "java/lang/invoke/VarHandle") (hK : Back l Rm p e below s args y 3 W Pre Post) (hsz : Ls.size = c.maxLocals) (argsL : List Value) (hlen : ∀ sig, parseMethodDescriptor y.desc = some sig → argsL.length = sig.parameters.length) (hst : stk = argsL.reverse ++ .ref a :: st) (hW : (st.map fun v => v.category).sum ≤ W) (hd : decode c.code pc = .ok (.invokespecial index, 3)) (hpre : ∀ vm₁, s.WarmedH vm₁ → Pre ⟨T.setVm vm₁, locs, cells, slots⟩ (.ref a :: argsL).toArray) (hp : pc + 3 = pc') (K : ∀ (v : Option Value) (vm₁ : Vm) (B : Pt), Stand p l e Rm s m args below meth c B.U B.locs B.cells B.slots → Post ⟨T.setVm vm₁, locs, cells, slots⟩ (.ref a :: argsL).toArray v B → Runs p e below E (B.U.setTop (mkF m pc' Ls (v.toList ++ st)))) : Runs p e below E (T.setTop (mkF m pc Ls stk)) := by
  subst hp
  obtain ⟨v1, vm1, B1, -, X1, q1, st1⟩ := X.specialBack hx hy1 hown hlink hinst hcode hy hK (g := mkF m pc Ls stk) rfl hsz (Steps.refl _) (a := a) (argsL := argsL) (rest := st) hlen hst (by show 2 * 0 + _ ≤ _; omega) hd hpre
  exact (K v1 vm1 B1 X1 q1).tr st1
theorem w_virtual (X : Stand p l e Rm s m args below meth c T locs cells slots) (hx : p.tables.exec = Jvm.exec) {stk : List Value} {own C : String} {index : Nat} {y z : MethodName} {b : Addr} {cB : ClassId} {W : Nat} {Pre : Pt → Array Value → Prop} {Post : Pt → Array Value → Option Value → Pt → Prop} (hown : s.vm.findClass own = some m.cls) (hlink : (Cond.methodLink own index y).before args s = true) (hdecl : (Cond.declares y).before args s = true) (hnf : NotFace s y) (hsel : (Cond.selects C y z).before args s = true) (hinst : (Cond.instanceMethod z).before args s = true) (hy : y.cls ≠ "java/lang/invoke/MethodHandle" ∧ y.cls ≠ "java/lang/invoke/VarHandle") (hK : Back l Rm p e below s args z 3 W Pre Post) (hcB : s.vm.findClass C = some cB) (hrecv : IsOf cB T b) (hsz : Ls.size = c.maxLocals) (argsL : List Value) (hlen : ∀ sig, parseMethodDescriptor y.desc = some sig → argsL.length = sig.parameters.length) (hst : stk = argsL.reverse ++ .ref b :: st) (hW : (st.map fun v => v.category).sum ≤ W) (hd : decode c.code pc = .ok (.invokevirtual index, 3)) (hpre : ∀ vm₁, s.WarmedH vm₁ → Pre ⟨T.setVm vm₁, locs, cells, slots⟩ (.ref b :: argsL).toArray) (hp : pc + 3 = pc') (K : ∀ (v : Option Value) (vm₁ : Vm) (B : Pt), Stand p l e Rm s m args below meth c B.U B.locs B.cells B.slots → Post ⟨T.setVm vm₁, locs, cells, slots⟩ (.ref b :: argsL).toArray v B → Runs p e below E (B.U.setTop (mkF m pc' Ls (v.toList ++ st)))) : Runs p e below E (T.setTop (mkF m pc Ls stk)) := by
  subst hp
  obtain ⟨v1, vm1, B1, -, X1, q1, st1⟩ := X.virtualBack hx hown hlink hdecl hnf hsel hinst hy hK hcB hrecv (g := mkF m pc Ls stk) rfl hsz (Steps.refl _) (argsL := argsL) (rest := st) hlen hst (by show 2 * 0 + _ ≤ _; omega) hd hpre
  exact (K v1 vm1 B1 X1 q1).tr st1
theorem w_staticS (X : Stand p l e Rm s m args below meth c T locs cells slots) (hx : p.tables.exec = Jvm.exec) {stk : List Value} {own : String} {index : Nat} {y : MethodName} {bytes : ByteArray} {maxL : Nat} {ret : Option FieldType} {W : Nat} {Pre : Pt → Array Value → Prop} {Post : Pt → Array Value → Option Value → Pt → Prop} (hown : s.vm.findClass own = some m.cls) (hlink : (Cond.methodLink own index y).before args s = true) (hstat : (Cond.static y).before args s = true) (hinit : (Cond.initialized y.cls).before args s = true) (hcode : (Cond.code y bytes maxL ret).before args s = true) (hy : y.cls ≠ "java/lang/invoke/MethodHandle" ∧ y.cls ≠ "java/lang/invoke/VarHandle") (hK : BackS l Rm p e below s args y 3 W Pre Post) (hsz : Ls.size = c.maxLocals) (argsL : List Value) (hlen : ∀ sig, parseMethodDescriptor y.desc = some sig → argsL.length = sig.parameters.length) (hst : stk = argsL.reverse ++ st) (hW : (st.map fun v => v.category).sum ≤ W) (hd : decode c.code pc = .ok (.invokestatic index, 3)) (hpre : ∀ vm₁, s.WarmedH vm₁ → Pre ⟨T.setVm vm₁, locs, cells, slots⟩ argsL.toArray) (hp : pc + 3 = pc') (K : ∀ (v : Option Value) (vm₁ : Vm) (B : Pt), Stand p l e Rm (s.setVm B.U.vm) m args below meth c B.U B.locs B.cells B.slots → s.Since B.U.vm B.U.heap.size → T.heap.size ≤ B.U.heap.size → Post ⟨T.setVm vm₁, locs, cells, slots⟩ argsL.toArray v B → Runs p e below E (B.U.setTop (mkF m pc' Ls (v.toList ++ st)))) : Runs p e below E (T.setTop (mkF m pc Ls stk)) := by
  subst hp
  obtain ⟨v1, vm1, B1, -, X1, s1, g1, q1, st1⟩ := callSS X hx hown hlink hstat hinit hcode hy hK (g := mkF m pc Ls stk) rfl hsz (argsL := argsL) (rest := st) hlen hst (by show 2 * 0 + _ ≤ _; omega) hd hpre
  exact (K v1 vm1 B1 X1 s1 g1 q1).tr st1
theorem w_specialS (X : Stand p l e Rm s m args below meth c T locs cells slots) (hx : p.tables.exec = Jvm.exec) {stk : List Value} {own : String} {index : Nat} {y : MethodName} {bytes : ByteArray} {maxL : Nat} {a : Addr} {W : Nat} {Pre : Pt → Array Value → Prop} {Post : Pt → Array Value → Option Value → Pt → Prop} (hy1 : y.name = "<init>") (hown : s.vm.findClass own = some m.cls) (hlink : (Cond.methodLink own index y).before args s = true) (hinst : (Cond.instanceMethod y).before args s = true) (hcode : (Cond.code y bytes maxL none).before args s = true) (hy : y.cls ≠ "java/lang/invoke/MethodHandle" ∧ y.cls ≠ "java/lang/invoke/VarHandle") (hK : BackS l Rm p e below s args y 3 W Pre Post) (hsz : Ls.size = c.maxLocals) (argsL : List Value) (hlen : ∀ sig, parseMethodDescriptor y.desc = some sig → argsL.length = sig.parameters.length) (hst : stk = argsL.reverse ++ .ref a :: st) (hW : (st.map fun v => v.category).sum ≤ W) (hd : decode c.code pc = .ok (.invokespecial index, 3)) (hpre : ∀ vm₁, s.WarmedH vm₁ → Pre ⟨T.setVm vm₁, locs, cells, slots⟩ (.ref a :: argsL).toArray) (hp : pc + 3 = pc') (K : ∀ (v : Option Value) (vm₁ : Vm) (B : Pt), Stand p l e Rm (s.setVm B.U.vm) m args below meth c B.U B.locs B.cells B.slots → s.Since B.U.vm B.U.heap.size → T.heap.size ≤ B.U.heap.size → Post ⟨T.setVm vm₁, locs, cells, slots⟩ (.ref a :: argsL).toArray v B → Runs p e below E (B.U.setTop (mkF m pc' Ls (v.toList ++ st)))) : Runs p e below E (T.setTop (mkF m pc Ls stk)) := by
  subst hp
  obtain ⟨v1, vm1, B1, -, X1, s1, g1, q1, st1⟩ := X.specialBackS hx hy1 hown hlink hinst hcode hy hK (g := mkF m pc Ls stk) rfl hsz (Steps.refl _) (a := a) (argsL := argsL) (rest := st) hlen hst (by show 2 * 0 + _ ≤ _; omega) hd hpre
  exact (K v1 vm1 B1 X1 s1 g1 q1).tr st1
end W

/-- a body's contract, and how a walk shows it -/
abbrev MetN (l : Launch) (Z : State) (y : MethodName) (bytes : ByteArray) (maxL : Nat) (ret : Option FieldType) (ws : List Cond) (rm : Room) (as' : Array Value) (h : Heap) (Q : Option Value → Heap → List Loc → Prop) : Prop :=
  MetFree l y (head1 (Cond.code y bytes maxL ret :: ws) rm) (fun a U => a = as' ∧ Z.Warmed39 U.vm ∧ U.heap = h) (fun _ _ _ _ _ => True) (fun _ U o U' => ∃ v L, o = .returned v ∧ Q v U'.heap L ∧ FrameEnd U o U' L rm.cells rm.slots)
theorem MetN.of {l : Launch} {Z : State} {y : MethodName} {bytes : ByteArray} {maxL : Nat} {ret : Option FieldType} {ws : List Cond} {rm : Room} {as' : Array Value} {h : Heap} {Q : Option Value → Heap → List Loc → Prop} (hp : plainFor y = true)
    (H : ∀ (p : Program) (e : Env) (s : State) (m : MethodId) (below : List Frame) (meth : Method) (c : Code) (s₁ : State), meth.sig.returnType = ret → p.tables.exec = Jvm.exec → c.code = bytes → c.maxLocals = maxL → s.vm.findClass y.cls = some m.cls → meth.name = y.name → meth.locks = false → Z.Warmed39 s.vm → Stand p l e rm s m as' below meth c s₁ [] 0 0 → s₁.heap = h → Runs p e below (EndN s Q rm.cells rm.slots) (s₁.setTop (entryFrame m as' maxL))) :
    MetN l Z y bytes maxL ret ws rm as' h Q := by
  refine MetFree.of_bodySF hp hisR ?_
  intro p e s m args below meth c s₁ Bd hml hP hK
  obtain ⟨rfl, hZ, hh⟩ := hP
  exact H p e s m below meth c s₁ Bd.returns Bd.exec Bd.bytes hml (findClass_of_methodNamed Bd.named) (name_of_methodNamed Bd.named Bd.method).1 Bd.notSynchronized hZ (Stand.of_body Bd) (by rw [← hh, Bd.state]; rfl)
abbrev MetH (l : Launch) (Z : State) (EL : List (String × Nat)) (y : MethodName) (bytes : ByteArray) (maxL : Nat) (ret : Option FieldType) (ws : List Cond) (rm : Room) (as' : Array Value) (h : Heap) (Q : Option Value → Heap → List Loc → (Addr → Prop) → Prop) (sf : List Addr) : Prop :=
  MetFree l y (head1 (Cond.code y bytes maxL ret :: ws) rm) (fun a U => a = as' ∧ Z.Warmed39 U.vm ∧ U.heap = h ∧ CHv Z EL U.vm h ∧ ∀ x ∈ sf, Safe Z EL U.vm h x) (fun _ _ _ _ _ => True) (fun _ U o U' => ∃ v L, o = .returned v ∧ Q v U'.heap L (Safe Z EL U'.vm U'.heap) ∧ CHr Z EL U.vm U.heap U'.vm U'.heap ∧ ReturnedEndW U o U' L rm.cells rm.slots)
theorem MetH.of {l : Launch} {Z : State} {EL : List (String × Nat)} {y : MethodName} {bytes : ByteArray} {maxL : Nat} {ret : Option FieldType} {ws : List Cond} {rm : Room} {as' : Array Value} {h : Heap} {Q : Option Value → Heap → List Loc → (Addr → Prop) → Prop} {sf : List Addr} (hp : plainFor y = true)
    (H : ∀ (p : Program) (e : Env) (s : State) (m : MethodId) (below : List Frame) (meth : Method) (c : Code) (s₁ : State), meth.sig.returnType = ret → p.tables.exec = Jvm.exec → c.code = bytes → c.maxLocals = maxL → s.vm.findClass y.cls = some m.cls → meth.name = y.name → meth.locks = false → Z.Warmed39 s.vm → Stand p l e rm (s.setVm s.vm) m as' below meth c s₁ [] 0 0 → s₁.heap = h → s.heap = h → CHv Z EL s.vm h → (∀ x ∈ sf, Safe Z EL s.vm h x) → s.Since s.vm h.size → CHr Z EL s.vm h s.vm h → Runs p e below (EndH s Z EL Q rm.cells rm.slots) (s₁.setTop (entryFrame m as' maxL))) :
    MetH l Z EL y bytes maxL ret ws rm as' h Q sf := by
  refine MetFree.of_bodySF hp hisR ?_
  intro p e s m args below meth c s₁ Bd hml hP hK
  obtain ⟨rfl, hZ, hh, hH, hsf⟩ := hP
  exact H p e s m below meth c s₁ Bd.returns Bd.exec Bd.bytes hml (findClass_of_methodNamed Bd.named) (name_of_methodNamed Bd.named Bd.method).1 Bd.notSynchronized hZ (Stand.of_body Bd) (by rw [← hh, Bd.state]; rfl) hh hH hsf ((State.WarmedH.refl s).since _) (CHr.refl hH)
end Jvm.RoadKit
namespace Jvm.Pilot.@@N@@
open Jvm Jvm.ClassFile Sem Op Lib Jvm.Free Jvm.Stand Jvm.LawKit Jvm.RoadKit Bundle Jvm.Pilot.@@N@@.Jvm.D
set_option maxRecDepth 65536
set_option maxHeartbeats 40000000
abbrev kc0 : String := "java/lang/String"
abbrev kc1 : String := "com/example/seshat/seshat/StoredResponse"
abbrev kc2 : String := "java/lang/Integer"
abbrev kc3 : String := "java/lang/Object"
abbrev kc4 : String := "java/lang/Integer$IntegerCache"
abbrev EL : List (String × Nat) := [("com/example/seshat/seshat/StoredResponse", 20), ("java/lang/String", 7)]
theorem own_and255 (x : Int32) : ¬ ((x &&& (255 : Int32)).toUInt32.toUInt16.toUInt32.toInt32) < 0 ∧ ¬ (255 : Int32) < ((x &&& (255 : Int32)).toUInt32.toUInt16.toUInt32.toInt32) := by
  have t : ∀ k : Fin 256, ¬ ((Int32.ofNat k.val).toUInt32.toUInt16.toUInt32.toInt32) < 0 ∧ ¬ (255 : Int32) < ((Int32.ofNat k.val).toUInt32.toUInt16.toUInt32.toInt32) := by decide +kernel
  have h : (x &&& 255).toBitVec.toNat < 256 := by
    rw [Int32.toBitVec_and, BitVec.toNat_and]
    exact Nat.lt_succ_of_le Nat.and_le_right
  have e : (x &&& 255) = Int32.ofNat (x &&& 255).toBitVec.toNat := by
    apply Int32.toBitVec_inj.mp
    show _ = BitVec.ofNat 32 _
    rw [BitVec.ofNat_toNat]; simp
  rw [e]
  exact t ⟨_, h⟩
theorem own_lat (x : Int32) : (((((x &&& (255 : Int32)).toUInt32.toUInt16.toUInt32.toInt32).toInt8.toInt32) &&& (255 : Int32)).toUInt32.toUInt16.toUInt32.toInt32) = ((x &&& (255 : Int32)).toUInt32.toUInt16.toUInt32.toInt32) := by
  have t : ∀ k : Fin 256, (((((Int32.ofNat k.val).toUInt32.toUInt16.toUInt32.toInt32).toInt8.toInt32) &&& (255 : Int32)).toUInt32.toUInt16.toUInt32.toInt32) = ((Int32.ofNat k.val).toUInt32.toUInt16.toUInt32.toInt32) := by decide +kernel
  have h : (x &&& 255).toBitVec.toNat < 256 := by
    rw [Int32.toBitVec_and, BitVec.toNat_and]
    exact Nat.lt_succ_of_le Nat.and_le_right
  have e : (x &&& 255) = Int32.ofNat (x &&& 255).toBitVec.toNat := by
    apply Int32.toBitVec_inj.mp
    show _ = BitVec.ofNat 32 _
    rw [BitVec.ofNat_toNat]; simp
  rw [e]
  exact t ⟨_, h⟩
theorem own_ch0 (x : Int32) : ¬ (x.toUInt32.toUInt16.toUInt32.toInt32) < 0 := by
  have q := (c_i2c x).2.1
  rw [Int32.lt_iff_toInt_lt]
  have e0 : (0 : Int32).toInt = 0 := rfl
  omega
theorem own_le127 {x : Int32} (h : ¬ (127 : Int32) < x) : x < (128 : Int32) := by
  rw [Int32.lt_iff_toInt_lt] at h ⊢
  have e1 : (127 : Int32).toInt = 127 := rfl
  have e2 : (128 : Int32).toInt = 128 := rfl
  omega
def mI (l : List Int32) : List Value := l.map Value.int
def tn (m : Int32) : Int32 := if m = 1 then 0 else if m = 2 then 1 else 2
def tl (p0 m : Int32) : List Int32 := if m = 1 then [] else if m = 2 then [(((p0 &&& (255 : Int32)).toUInt32.toUInt16.toUInt32.toInt32).toInt8.toInt32)] else [(((p0 &&& (255 : Int32)).toUInt32.toUInt16.toUInt32.toInt32).toInt8.toInt32), (((((p0.toUInt32 >>> ((8 : Int32) &&& 31).toUInt32).toInt32) &&& (255 : Int32)).toUInt32.toUInt16.toUInt32.toInt32).toInt8.toInt32)]
def bn (m : Int32) : Int32 := if m = 0 then 0 else if m = 1 then 1 else if m = 2 then 2 else 3
def bl (q0 : Int64) (m : Int32) : List Int32 := if m = 0 then [] else if m = 1 then [((q0.toInt32).toInt8.toInt32)] else if m = 2 then [((q0.toInt32).toInt8.toInt32), ((((q0.toUInt64 >>> ((8 : Int32) &&& 0x3f).toInt64.toUInt64).toInt64).toInt32).toInt8.toInt32)] else [((q0.toInt32).toInt8.toInt32), ((((q0.toUInt64 >>> ((8 : Int32) &&& 0x3f).toInt64.toUInt64).toInt64).toInt32).toInt8.toInt32), ((((q0.toUInt64 >>> ((16 : Int32) &&& 0x3f).toInt64.toUInt64).toInt64).toInt32).toInt8.toInt32)]
theorem tn_e {m : Int32} (h1 : ¬ m = 1) (h2 : ¬ m = 2) : tn m = 2 := by unfold tn; rw [if_neg h1, if_neg h2]
theorem tl_e {p0 m : Int32} (h1 : ¬ m = 1) (h2 : ¬ m = 2) : tl p0 m = [(((p0 &&& (255 : Int32)).toUInt32.toUInt16.toUInt32.toInt32).toInt8.toInt32), (((((p0.toUInt32 >>> ((8 : Int32) &&& 31).toUInt32).toInt32) &&& (255 : Int32)).toUInt32.toUInt16.toUInt32.toInt32).toInt8.toInt32)] := by unfold tl; rw [if_neg h1, if_neg h2]
theorem bn_e {m : Int32} (h0 : ¬ m = 0) (h1 : ¬ m = 1) (h2 : ¬ m = 2) : bn m = 3 := by unfold bn; rw [if_neg h0, if_neg h1, if_neg h2]
theorem bl_e {q0 : Int64} {m : Int32} (h0 : ¬ m = 0) (h1 : ¬ m = 1) (h2 : ¬ m = 2) : bl q0 m = [((q0.toInt32).toInt8.toInt32), ((((q0.toUInt64 >>> ((8 : Int32) &&& 0x3f).toInt64.toUInt64).toInt64).toInt32).toInt8.toInt32), ((((q0.toUInt64 >>> ((16 : Int32) &&& 0x3f).toInt64.toUInt64).toInt64).toInt32).toInt8.toInt32)] := by unfold bl; rw [if_neg h0, if_neg h1, if_neg h2]
def hS : List Int32 → Int32
  | [] => (0 : Int32)
  | [x1] => (x1 &&& (255 : Int32))
  | [x1, x2] => (((31 : Int32) * ((0 : Int32) + (x1 &&& (255 : Int32)))) + (x2 &&& (255 : Int32)))
  | _ => 0
def hB : List Int32 → Int32
  | [] => (1 : Int32)
  | [x1] => ((31 : Int32) + x1)
  | [x1, x2] => (((31 : Int32) * ((31 : Int32) + x1)) + x2)
  | [x1, x2, x3] => (((31 : Int32) * (((31 : Int32) * ((31 : Int32) + x1)) + x2)) + x3)
  | _ => 0
def TS (n : Int32) (L : List Int32) : Prop := (n = 0 ∧ L = []) ∨ (∃ a, n = 1 ∧ L = [a]) ∨ (∃ a b, n = 2 ∧ L = [a, b])
def TB (n : Int32) (L : List Int32) : Prop := (n = 0 ∧ L = []) ∨ (∃ a, n = 1 ∧ L = [a]) ∨ (∃ a b, n = 2 ∧ L = [a, b]) ∨ (∃ a b c, n = 3 ∧ L = [a, b, c])
theorem own_TS (p0 m : Int32) : TS (tn m) (tl p0 m) := by
  by_cases h1 : m = 1
  · subst h1; exact Or.inl ⟨rfl, rfl⟩
  · by_cases h2 : m = 2
    · subst h2; exact Or.inr (Or.inl ⟨_, rfl, rfl⟩)
    · exact Or.inr (Or.inr ⟨_, _, tn_e h1 h2, tl_e h1 h2⟩)
theorem own_TB (q0 : Int64) (m : Int32) : TB (bn m) (bl q0 m) := by
  by_cases h0 : m = 0
  · subst h0; exact Or.inl ⟨rfl, rfl⟩
  · by_cases h1 : m = 1
    · subst h1; exact Or.inr (Or.inl ⟨_, rfl, rfl⟩)
    · by_cases h2 : m = 2
      · subst h2; exact Or.inr (Or.inr (Or.inl ⟨_, _, rfl, rfl⟩))
      · exact Or.inr (Or.inr (Or.inr ⟨_, _, _, bn_e h0 h1 h2, bl_e h0 h1 h2⟩))
theorem own_bn3 (m : Int32) : (bn m).toNatClampNeg ≤ 3 := by
  unfold bn
  split
  · decide
  · split
    · decide
    · split
      · decide
      · decide
def HOK (x z k : Int32) : Prop := (x = 0 ∧ z = 0) ∨ (x = k ∧ z = (if k = (0 : Int32) then (1 : Int32) else (0 : Int32)))
theorem own_hok1 {x z k : Int32} (h : HOK x z k) (q : ¬ x = 0) : x = k ∧ z = (if k = (0 : Int32) then (1 : Int32) else (0 : Int32)) := Or.resolve_left h fun r => q r.1
theorem own_hok2 {x z k : Int32} (h : HOK x z k) (q : ¬ z = 0) : x = k ∧ z = (if k = (0 : Int32) then (1 : Int32) else (0 : Int32)) := Or.resolve_left h fun r => q r.2
theorem own_box {x : Int32} (h1 : ¬ x < (-128 : Int32)) (h2 : ¬ (127 : Int32) < x) : ¬ (x + (128 : Int32)) < 0 ∧ (x + (128 : Int32)) < 256 := by
  have a := c_iadd x 128
  have r := rng32 (x + 128)
  simp only [Int32.lt_iff_toInt_lt] at h1 h2 ⊢
  have e1 : (-128 : Int32).toInt = -128 := rfl
  have e2 : (127 : Int32).toInt = 127 := rfl
  have e3 : (128 : Int32).toInt = 128 := rfl
  have e4 : (256 : Int32).toInt = 256 := rfl
  have e5 : (0 : Int32).toInt = 0 := rfl
  omega
theorem own_addsub (x : Int32) : ((x + (128 : Int32)) - (128 : Int32)) = x := by
  have a := c_iadd x 128
  have b := c_isub (x + 128) 128
  have r := rng32 x
  have r2 := rng32 (x + 128 - 128)
  have e3 : (128 : Int32).toInt = 128 := rfl
  exact Int32.toInt_inj.mp (by omega)
abbrev DC (b : ByteArray) (p : Nat) (i : Instr) (n : Nat) : Prop := ∀ {c : Code}, c.code = b → decode c.code p = .ok (i, n)
abbrev WD (w : Jvm.Cond) : Prop := ∀ {Z : State} {a0 : Array Value}, (∀ d ∈ tables_1, d.before a0 Z = true) → w.before a0 Z = true
theorem own_wd (i : Nat) {w : Jvm.Cond} (h : tables_1[i]? = some w) {Z : State} {a0 : Array Value} (hw : ∀ d ∈ tables_1, d.before a0 Z = true) : w.before a0 Z = true := hw _ (List.mem_of_getElem? h)
abbrev yn_1 : MethodName := ⟨"com/example/seshat/seshat/StoredResponseHashCodePinLaw", "make", "(IIIJI)Lcom/example/seshat/seshat/StoredResponse;"⟩
abbrev yn_2 : MethodName := ⟨"com/example/seshat/seshat/StoredResponseHashCodePinLaw", "text", "(II)Ljava/lang/String;"⟩
abbrev yn_3 : MethodName := ⟨"com/example/seshat/seshat/StoredResponseHashCodePinLaw", "bytes", "(JI)[B"⟩
abbrev yn_4 : MethodName := ⟨"com/example/seshat/seshat/StoredResponse", "<init>", "(ILjava/lang/String;Ljava/lang/String;[B)V"⟩
abbrev yn_6 : MethodName := ⟨"java/util/Objects", "requireNonNull", "(Ljava/lang/Object;Ljava/lang/String;)Ljava/lang/Object;"⟩
abbrev yn_7 : MethodName := ⟨"com/example/seshat/seshat/StoredResponse", "hashCode", "()I"⟩
abbrev yn_8 : MethodName := ⟨"java/lang/Integer", "valueOf", "(I)Ljava/lang/Integer;"⟩
abbrev yn_9 : MethodName := ⟨"java/util/Arrays", "hashCode", "([B)I"⟩
abbrev yn_10 : MethodName := ⟨"java/util/Objects", "hash", "([Ljava/lang/Object;)I"⟩
abbrev yn_11 : MethodName := ⟨"java/util/Arrays", "hashCode", "([Ljava/lang/Object;)I"⟩
abbrev yn_12 : MethodName := ⟨"java/lang/Integer", "hashCode", "()I"⟩
abbrev yn_13 : MethodName := ⟨"java/lang/Integer", "hashCode", "(I)I"⟩
abbrev yn_14 : MethodName := ⟨"com/example/seshat/seshat/StoredResponse", "equals", "(Ljava/lang/Object;)Z"⟩
abbrev yn_15 : MethodName := ⟨"java/util/Objects", "equals", "(Ljava/lang/Object;Ljava/lang/Object;)Z"⟩
abbrev yn_16 : MethodName := ⟨"java/util/Arrays", "equals", "([B[B)Z"⟩
abbrev yn_17 : MethodName := ⟨"jdk/internal/util/ArraysSupport", "mismatch", "([B[BI)I"⟩
abbrev yn_18 : MethodName := ⟨"java/lang/String", "<init>", "([C)V"⟩
abbrev yn_19 : MethodName := ⟨"java/lang/String", "<init>", "([CIILjava/lang/Void;)V"⟩
abbrev yn_20 : MethodName := ⟨"java/lang/StringUTF16", "compress", "([CII)[B"⟩
abbrev yn_21 : MethodName := ⟨"java/lang/StringUTF16", "compress", "([CI[BII)I"⟩
abbrev yn_22 : MethodName := ⟨"java/lang/StringUTF16", "coderFromArrayLen", "([BI)B"⟩
abbrev yn_23 : MethodName := ⟨"java/lang/String", "hashCode", "()I"⟩
abbrev yn_24 : MethodName := ⟨"java/lang/String", "isLatin1", "()Z"⟩
abbrev yn_25 : MethodName := ⟨"java/lang/StringLatin1", "hashCode", "([B)I"⟩
abbrev yn_26 : MethodName := ⟨"jdk/internal/util/ArraysSupport", "vectorizedHashCode", "(Ljava/lang/Object;IIII)I"⟩
abbrev yn_27 : MethodName := ⟨"jdk/internal/util/ArraysSupport", "signedHashCode", "(I[BII)I"⟩
abbrev yn_28 : MethodName := ⟨"java/lang/String", "equals", "(Ljava/lang/Object;)Z"⟩
abbrev yn_29 : MethodName := ⟨"java/lang/StringLatin1", "equals", "([B[B)Z"⟩
abbrev yn_30 : MethodName := ⟨"java/lang/Integer", "<init>", "(I)V"⟩
abbrev yn_31 : MethodName := ⟨"java/lang/Number", "<init>", "()V"⟩
abbrev yn_32 : MethodName := ⟨"jdk/internal/util/ArraysSupport", "hashCode", "(I[BII)I"⟩
theorem d31_0 : DC jdk_18_method_1_code 0 (.aload_n 0) 1 := fun h => hb h (by decide +kernel)
theorem d31_1 : DC jdk_18_method_1_code 1 (.invokespecial 1) 3 := fun h => hb h (by decide +kernel)
theorem d31_4 : DC jdk_18_method_1_code 4 (.return_) 1 := fun h => hb h (by decide +kernel)
theorem d6_0 : DC jdk_31_method_11_code 0 (.aload_n 0) 1 := fun h => hb h (by decide +kernel)
theorem d6_1 : DC jdk_31_method_11_code 1 (.ifnonnull 12) 3 := fun h => hb h (by decide +kernel)
theorem d6_13 : DC jdk_31_method_11_code 13 (.aload_n 0) 1 := fun h => hb h (by decide +kernel)
theorem d6_14 : DC jdk_31_method_11_code 14 (.areturn) 1 := fun h => hb h (by decide +kernel)
theorem d15_0 : DC jdk_31_method_2_code 0 (.aload_n 0) 1 := fun h => hb h (by decide +kernel)
theorem d15_1 : DC jdk_31_method_2_code 1 (.aload_n 1) 1 := fun h => hb h (by decide +kernel)
theorem d15_2 : DC jdk_31_method_2_code 2 (.if_acmp .eq 15) 3 := fun h => hb h (by decide +kernel)
theorem d15_5 : DC jdk_31_method_2_code 5 (.aload_n 0) 1 := fun h => hb h (by decide +kernel)
theorem d15_6 : DC jdk_31_method_2_code 6 (.ifnull 15) 3 := fun h => hb h (by decide +kernel)
theorem d15_9 : DC jdk_31_method_2_code 9 (.aload_n 0) 1 := fun h => hb h (by decide +kernel)
theorem d15_10 : DC jdk_31_method_2_code 10 (.aload_n 1) 1 := fun h => hb h (by decide +kernel)
theorem d15_11 : DC jdk_31_method_2_code 11 (.invokevirtual 14) 3 := fun h => hb h (by decide +kernel)
theorem d15_14 : DC jdk_31_method_2_code 14 (.ifCond .eq 7) 3 := fun h => hb h (by decide +kernel)
theorem d15_17 : DC jdk_31_method_2_code 17 (.iconst 1) 1 := fun h => hb h (by decide +kernel)
theorem d15_18 : DC jdk_31_method_2_code 18 (.goto 4) 3 := fun h => hb h (by decide +kernel)
theorem d15_22 : DC jdk_31_method_2_code 22 (.ireturn) 1 := fun h => hb h (by decide +kernel)
theorem d10_0 : DC jdk_31_method_5_code 0 (.aload_n 0) 1 := fun h => hb h (by decide +kernel)
theorem d10_1 : DC jdk_31_method_5_code 1 (.invokestatic 28) 3 := fun h => hb h (by decide +kernel)
theorem d10_4 : DC jdk_31_method_5_code 4 (.ireturn) 1 := fun h => hb h (by decide +kernel)
theorem d8_0 : DC jdk_33_method_22_code 0 (.iload_n 0) 1 := fun h => hb h (by decide +kernel)
theorem d8_1 : DC jdk_33_method_22_code 1 (.bipush (-128)) 2 := fun h => hb h (by decide +kernel)
theorem d8_3 : DC jdk_33_method_22_code 3 (.if_icmp .lt 20) 3 := fun h => hb h (by decide +kernel)
theorem d8_6 : DC jdk_33_method_22_code 6 (.iload_n 0) 1 := fun h => hb h (by decide +kernel)
theorem d8_7 : DC jdk_33_method_22_code 7 (.getstatic 191) 3 := fun h => hb h (by decide +kernel)
theorem d8_10 : DC jdk_33_method_22_code 10 (.if_icmp .gt 13) 3 := fun h => hb h (by decide +kernel)
theorem d8_13 : DC jdk_33_method_22_code 13 (.getstatic 195) 3 := fun h => hb h (by decide +kernel)
theorem d8_16 : DC jdk_33_method_22_code 16 (.iload_n 0) 1 := fun h => hb h (by decide +kernel)
theorem d8_17 : DC jdk_33_method_22_code 17 (.sipush 128) 3 := fun h => hb h (by decide +kernel)
theorem d8_20 : DC jdk_33_method_22_code 20 (.iadd) 1 := fun h => hb h (by decide +kernel)
theorem d8_21 : DC jdk_33_method_22_code 21 (.aaload) 1 := fun h => hb h (by decide +kernel)
theorem d8_22 : DC jdk_33_method_22_code 22 (.areturn) 1 := fun h => hb h (by decide +kernel)
theorem d8_23 : DC jdk_33_method_22_code 23 (.new 1) 3 := fun h => hb h (by decide +kernel)
theorem d8_26 : DC jdk_33_method_22_code 26 (.dup) 1 := fun h => hb h (by decide +kernel)
theorem d8_27 : DC jdk_33_method_22_code 27 (.iload_n 0) 1 := fun h => hb h (by decide +kernel)
theorem d8_28 : DC jdk_33_method_22_code 28 (.invokespecial 199) 3 := fun h => hb h (by decide +kernel)
theorem d8_31 : DC jdk_33_method_22_code 31 (.areturn) 1 := fun h => hb h (by decide +kernel)
theorem d30_0 : DC jdk_33_method_23_code 0 (.aload_n 0) 1 := fun h => hb h (by decide +kernel)
theorem d30_1 : DC jdk_33_method_23_code 1 (.invokespecial 202) 3 := fun h => hb h (by decide +kernel)
theorem d30_4 : DC jdk_33_method_23_code 4 (.aload_n 0) 1 := fun h => hb h (by decide +kernel)
theorem d30_5 : DC jdk_33_method_23_code 5 (.iload_n 1) 1 := fun h => hb h (by decide +kernel)
theorem d30_6 : DC jdk_33_method_23_code 6 (.putfield 205) 3 := fun h => hb h (by decide +kernel)
theorem d30_9 : DC jdk_33_method_23_code 9 (.return_) 1 := fun h => hb h (by decide +kernel)
theorem d12_0 : DC jdk_33_method_32_code 0 (.aload_n 0) 1 := fun h => hb h (by decide +kernel)
theorem d12_1 : DC jdk_33_method_32_code 1 (.getfield 205) 3 := fun h => hb h (by decide +kernel)
theorem d12_4 : DC jdk_33_method_32_code 4 (.invokestatic 208) 3 := fun h => hb h (by decide +kernel)
theorem d12_7 : DC jdk_33_method_32_code 7 (.ireturn) 1 := fun h => hb h (by decide +kernel)
theorem d13_0 : DC jdk_33_method_33_code 0 (.iload_n 0) 1 := fun h => hb h (by decide +kernel)
theorem d13_1 : DC jdk_33_method_33_code 1 (.ireturn) 1 := fun h => hb h (by decide +kernel)
theorem d19_0 : DC jdk_42_method_149_code 0 (.aload_n 0) 1 := fun h => hb h (by decide +kernel)
theorem d19_1 : DC jdk_42_method_149_code 1 (.invokespecial 1) 3 := fun h => hb h (by decide +kernel)
theorem d19_4 : DC jdk_42_method_149_code 4 (.iload_n 3) 1 := fun h => hb h (by decide +kernel)
theorem d19_5 : DC jdk_42_method_149_code 5 (.ifCond .ne 22) 3 := fun h => hb h (by decide +kernel)
theorem d19_8 : DC jdk_42_method_149_code 8 (.aload_n 0) 1 := fun h => hb h (by decide +kernel)
theorem d19_9 : DC jdk_42_method_149_code 9 (.ldc 7) 2 := fun h => hb h (by decide +kernel)
theorem d19_11 : DC jdk_42_method_149_code 11 (.getfield 9) 3 := fun h => hb h (by decide +kernel)
theorem d19_14 : DC jdk_42_method_149_code 14 (.putfield 9) 3 := fun h => hb h (by decide +kernel)
theorem d19_17 : DC jdk_42_method_149_code 17 (.aload_n 0) 1 := fun h => hb h (by decide +kernel)
theorem d19_18 : DC jdk_42_method_149_code 18 (.ldc 7) 2 := fun h => hb h (by decide +kernel)
theorem d19_20 : DC jdk_42_method_149_code 20 (.getfield 15) 3 := fun h => hb h (by decide +kernel)
theorem d19_23 : DC jdk_42_method_149_code 23 (.putfield 15) 3 := fun h => hb h (by decide +kernel)
theorem d19_26 : DC jdk_42_method_149_code 26 (.return_) 1 := fun h => hb h (by decide +kernel)
theorem d19_27 : DC jdk_42_method_149_code 27 (.getstatic 38) 3 := fun h => hb h (by decide +kernel)
theorem d19_30 : DC jdk_42_method_149_code 30 (.ifCond .eq 28) 3 := fun h => hb h (by decide +kernel)
theorem d19_33 : DC jdk_42_method_149_code 33 (.aload_n 1) 1 := fun h => hb h (by decide +kernel)
theorem d19_34 : DC jdk_42_method_149_code 34 (.iload_n 2) 1 := fun h => hb h (by decide +kernel)
theorem d19_35 : DC jdk_42_method_149_code 35 (.iload_n 3) 1 := fun h => hb h (by decide +kernel)
theorem d19_36 : DC jdk_42_method_149_code 36 (.invokestatic 177) 3 := fun h => hb h (by decide +kernel)
theorem d19_39 : DC jdk_42_method_149_code 39 (.astore 5) 2 := fun h => hb h (by decide +kernel)
theorem d19_41 : DC jdk_42_method_149_code 41 (.aload_n 0) 1 := fun h => hb h (by decide +kernel)
theorem d19_42 : DC jdk_42_method_149_code 42 (.aload 5) 2 := fun h => hb h (by decide +kernel)
theorem d19_44 : DC jdk_42_method_149_code 44 (.iload_n 3) 1 := fun h => hb h (by decide +kernel)
theorem d19_45 : DC jdk_42_method_149_code 45 (.invokestatic 47) 3 := fun h => hb h (by decide +kernel)
theorem d19_48 : DC jdk_42_method_149_code 48 (.putfield 15) 3 := fun h => hb h (by decide +kernel)
theorem d19_51 : DC jdk_42_method_149_code 51 (.aload_n 0) 1 := fun h => hb h (by decide +kernel)
theorem d19_52 : DC jdk_42_method_149_code 52 (.aload 5) 2 := fun h => hb h (by decide +kernel)
theorem d19_54 : DC jdk_42_method_149_code 54 (.putfield 9) 3 := fun h => hb h (by decide +kernel)
theorem d19_57 : DC jdk_42_method_149_code 57 (.return_) 1 := fun h => hb h (by decide +kernel)
theorem d24_0 : DC jdk_42_method_154_code 0 (.getstatic 38) 3 := fun h => hb h (by decide +kernel)
theorem d24_3 : DC jdk_42_method_154_code 3 (.ifCond .eq 14) 3 := fun h => hb h (by decide +kernel)
theorem d24_6 : DC jdk_42_method_154_code 6 (.aload_n 0) 1 := fun h => hb h (by decide +kernel)
theorem d24_7 : DC jdk_42_method_154_code 7 (.getfield 15) 3 := fun h => hb h (by decide +kernel)
theorem d24_10 : DC jdk_42_method_154_code 10 (.ifCond .ne 7) 3 := fun h => hb h (by decide +kernel)
theorem d24_13 : DC jdk_42_method_154_code 13 (.iconst 1) 1 := fun h => hb h (by decide +kernel)
theorem d24_14 : DC jdk_42_method_154_code 14 (.goto 4) 3 := fun h => hb h (by decide +kernel)
theorem d24_18 : DC jdk_42_method_154_code 18 (.ireturn) 1 := fun h => hb h (by decide +kernel)
theorem d18_0 : DC jdk_42_method_3_code 0 (.aload_n 0) 1 := fun h => hb h (by decide +kernel)
theorem d18_1 : DC jdk_42_method_3_code 1 (.aload_n 1) 1 := fun h => hb h (by decide +kernel)
theorem d18_2 : DC jdk_42_method_3_code 2 (.iconst 0) 1 := fun h => hb h (by decide +kernel)
theorem d18_3 : DC jdk_42_method_3_code 3 (.aload_n 1) 1 := fun h => hb h (by decide +kernel)
theorem d18_4 : DC jdk_42_method_3_code 4 (.arraylength) 1 := fun h => hb h (by decide +kernel)
theorem d18_5 : DC jdk_42_method_3_code 5 (.aconst_null) 1 := fun h => hb h (by decide +kernel)
theorem d18_6 : DC jdk_42_method_3_code 6 (.invokespecial 27) 3 := fun h => hb h (by decide +kernel)
theorem d18_9 : DC jdk_42_method_3_code 9 (.return_) 1 := fun h => hb h (by decide +kernel)
theorem d28_0 : DC jdk_42_method_66_code 0 (.aload_n 0) 1 := fun h => hb h (by decide +kernel)
theorem d28_1 : DC jdk_42_method_66_code 1 (.aload_n 1) 1 := fun h => hb h (by decide +kernel)
theorem d28_2 : DC jdk_42_method_66_code 2 (.if_acmp .ne 5) 3 := fun h => hb h (by decide +kernel)
theorem d28_7 : DC jdk_42_method_66_code 7 (.aload_n 1) 1 := fun h => hb h (by decide +kernel)
theorem d28_8 : DC jdk_42_method_66_code 8 (.instanceof 10) 3 := fun h => hb h (by decide +kernel)
theorem d28_11 : DC jdk_42_method_66_code 11 (.ifCond .eq 43) 3 := fun h => hb h (by decide +kernel)
theorem d28_14 : DC jdk_42_method_66_code 14 (.aload_n 1) 1 := fun h => hb h (by decide +kernel)
theorem d28_15 : DC jdk_42_method_66_code 15 (.checkcast 10) 3 := fun h => hb h (by decide +kernel)
theorem d28_18 : DC jdk_42_method_66_code 18 (.astore_n 2) 1 := fun h => hb h (by decide +kernel)
theorem d28_19 : DC jdk_42_method_66_code 19 (.getstatic 38) 3 := fun h => hb h (by decide +kernel)
theorem d28_22 : DC jdk_42_method_66_code 22 (.ifCond .eq 14) 3 := fun h => hb h (by decide +kernel)
theorem d28_25 : DC jdk_42_method_66_code 25 (.aload_n 0) 1 := fun h => hb h (by decide +kernel)
theorem d28_26 : DC jdk_42_method_66_code 26 (.getfield 15) 3 := fun h => hb h (by decide +kernel)
theorem d28_29 : DC jdk_42_method_66_code 29 (.aload_n 2) 1 := fun h => hb h (by decide +kernel)
theorem d28_30 : DC jdk_42_method_66_code 30 (.getfield 15) 3 := fun h => hb h (by decide +kernel)
theorem d28_33 : DC jdk_42_method_66_code 33 (.if_icmp .ne 21) 3 := fun h => hb h (by decide +kernel)
theorem d28_36 : DC jdk_42_method_66_code 36 (.aload_n 0) 1 := fun h => hb h (by decide +kernel)
theorem d28_37 : DC jdk_42_method_66_code 37 (.getfield 9) 3 := fun h => hb h (by decide +kernel)
theorem d28_40 : DC jdk_42_method_66_code 40 (.aload_n 2) 1 := fun h => hb h (by decide +kernel)
theorem d28_41 : DC jdk_42_method_66_code 41 (.getfield 9) 3 := fun h => hb h (by decide +kernel)
theorem d28_44 : DC jdk_42_method_66_code 44 (.invokestatic 541) 3 := fun h => hb h (by decide +kernel)
theorem d28_47 : DC jdk_42_method_66_code 47 (.ifCond .eq 7) 3 := fun h => hb h (by decide +kernel)
theorem d28_50 : DC jdk_42_method_66_code 50 (.iconst 1) 1 := fun h => hb h (by decide +kernel)
theorem d28_51 : DC jdk_42_method_66_code 51 (.goto 4) 3 := fun h => hb h (by decide +kernel)
theorem d28_55 : DC jdk_42_method_66_code 55 (.ireturn) 1 := fun h => hb h (by decide +kernel)
theorem d23_0 : DC jdk_42_method_78_code 0 (.aload_n 0) 1 := fun h => hb h (by decide +kernel)
theorem d23_1 : DC jdk_42_method_78_code 1 (.getfield 19) 3 := fun h => hb h (by decide +kernel)
theorem d23_4 : DC jdk_42_method_78_code 4 (.istore_n 1) 1 := fun h => hb h (by decide +kernel)
theorem d23_5 : DC jdk_42_method_78_code 5 (.iload_n 1) 1 := fun h => hb h (by decide +kernel)
theorem d23_6 : DC jdk_42_method_78_code 6 (.ifCond .ne 52) 3 := fun h => hb h (by decide +kernel)
theorem d23_9 : DC jdk_42_method_78_code 9 (.aload_n 0) 1 := fun h => hb h (by decide +kernel)
theorem d23_10 : DC jdk_42_method_78_code 10 (.getfield 23) 3 := fun h => hb h (by decide +kernel)
theorem d23_13 : DC jdk_42_method_78_code 13 (.ifCond .ne 45) 3 := fun h => hb h (by decide +kernel)
theorem d23_16 : DC jdk_42_method_78_code 16 (.aload_n 0) 1 := fun h => hb h (by decide +kernel)
theorem d23_17 : DC jdk_42_method_78_code 17 (.invokevirtual 492) 3 := fun h => hb h (by decide +kernel)
theorem d23_20 : DC jdk_42_method_78_code 20 (.ifCond .eq 13) 3 := fun h => hb h (by decide +kernel)
theorem d23_23 : DC jdk_42_method_78_code 23 (.aload_n 0) 1 := fun h => hb h (by decide +kernel)
theorem d23_24 : DC jdk_42_method_78_code 24 (.getfield 9) 3 := fun h => hb h (by decide +kernel)
theorem d23_27 : DC jdk_42_method_78_code 27 (.invokestatic 628) 3 := fun h => hb h (by decide +kernel)
theorem d23_30 : DC jdk_42_method_78_code 30 (.goto 10) 3 := fun h => hb h (by decide +kernel)
theorem d23_40 : DC jdk_42_method_78_code 40 (.istore_n 1) 1 := fun h => hb h (by decide +kernel)
theorem d23_41 : DC jdk_42_method_78_code 41 (.iload_n 1) 1 := fun h => hb h (by decide +kernel)
theorem d23_42 : DC jdk_42_method_78_code 42 (.ifCond .ne 11) 3 := fun h => hb h (by decide +kernel)
theorem d23_45 : DC jdk_42_method_78_code 45 (.aload_n 0) 1 := fun h => hb h (by decide +kernel)
theorem d23_46 : DC jdk_42_method_78_code 46 (.iconst 1) 1 := fun h => hb h (by decide +kernel)
theorem d23_47 : DC jdk_42_method_78_code 47 (.putfield 23) 3 := fun h => hb h (by decide +kernel)
theorem d23_50 : DC jdk_42_method_78_code 50 (.goto 8) 3 := fun h => hb h (by decide +kernel)
theorem d23_53 : DC jdk_42_method_78_code 53 (.aload_n 0) 1 := fun h => hb h (by decide +kernel)
theorem d23_54 : DC jdk_42_method_78_code 54 (.iload_n 1) 1 := fun h => hb h (by decide +kernel)
theorem d23_55 : DC jdk_42_method_78_code 55 (.putfield 19) 3 := fun h => hb h (by decide +kernel)
theorem d23_58 : DC jdk_42_method_78_code 58 (.iload_n 1) 1 := fun h => hb h (by decide +kernel)
theorem d23_59 : DC jdk_42_method_78_code 59 (.ireturn) 1 := fun h => hb h (by decide +kernel)
theorem d29_0 : DC jdk_43_method_13_code 0 (.aload_n 0) 1 := fun h => hb h (by decide +kernel)
theorem d29_1 : DC jdk_43_method_13_code 1 (.arraylength) 1 := fun h => hb h (by decide +kernel)
theorem d29_2 : DC jdk_43_method_13_code 2 (.aload_n 1) 1 := fun h => hb h (by decide +kernel)
theorem d29_3 : DC jdk_43_method_13_code 3 (.arraylength) 1 := fun h => hb h (by decide +kernel)
theorem d29_4 : DC jdk_43_method_13_code 4 (.if_icmp .ne 30) 3 := fun h => hb h (by decide +kernel)
theorem d29_7 : DC jdk_43_method_13_code 7 (.iconst 0) 1 := fun h => hb h (by decide +kernel)
theorem d29_8 : DC jdk_43_method_13_code 8 (.istore_n 2) 1 := fun h => hb h (by decide +kernel)
theorem d29_9 : DC jdk_43_method_13_code 9 (.iload_n 2) 1 := fun h => hb h (by decide +kernel)
theorem d29_10 : DC jdk_43_method_13_code 10 (.aload_n 0) 1 := fun h => hb h (by decide +kernel)
theorem d29_11 : DC jdk_43_method_13_code 11 (.arraylength) 1 := fun h => hb h (by decide +kernel)
theorem d29_12 : DC jdk_43_method_13_code 12 (.if_icmp .ge 20) 3 := fun h => hb h (by decide +kernel)
theorem d29_15 : DC jdk_43_method_13_code 15 (.aload_n 0) 1 := fun h => hb h (by decide +kernel)
theorem d29_16 : DC jdk_43_method_13_code 16 (.iload_n 2) 1 := fun h => hb h (by decide +kernel)
theorem d29_17 : DC jdk_43_method_13_code 17 (.baload) 1 := fun h => hb h (by decide +kernel)
theorem d29_18 : DC jdk_43_method_13_code 18 (.aload_n 1) 1 := fun h => hb h (by decide +kernel)
theorem d29_19 : DC jdk_43_method_13_code 19 (.iload_n 2) 1 := fun h => hb h (by decide +kernel)
theorem d29_20 : DC jdk_43_method_13_code 20 (.baload) 1 := fun h => hb h (by decide +kernel)
theorem d29_21 : DC jdk_43_method_13_code 21 (.if_icmp .eq 5) 3 := fun h => hb h (by decide +kernel)
theorem d29_26 : DC jdk_43_method_13_code 26 (.iinc 2 1) 3 := fun h => hb h (by decide +kernel)
theorem d29_29 : DC jdk_43_method_13_code 29 (.goto (-20)) 3 := fun h => hb h (by decide +kernel)
theorem d29_32 : DC jdk_43_method_13_code 32 (.iconst 1) 1 := fun h => hb h (by decide +kernel)
theorem d29_33 : DC jdk_43_method_13_code 33 (.ireturn) 1 := fun h => hb h (by decide +kernel)
theorem d25_0 : DC jdk_43_method_21_code 0 (.aload_n 0) 1 := fun h => hb h (by decide +kernel)
theorem d25_1 : DC jdk_43_method_21_code 1 (.arraylength) 1 := fun h => hb h (by decide +kernel)
theorem d25_2 : DC jdk_43_method_21_code 2 (.lookupswitch 40 #[(0, 26), (1, 30)]) 26 := fun h => hb h (by decide +kernel)
theorem d25_28 : DC jdk_43_method_21_code 28 (.iconst 0) 1 := fun h => hb h (by decide +kernel)
theorem d25_29 : DC jdk_43_method_21_code 29 (.goto 22) 3 := fun h => hb h (by decide +kernel)
theorem d25_32 : DC jdk_43_method_21_code 32 (.aload_n 0) 1 := fun h => hb h (by decide +kernel)
theorem d25_33 : DC jdk_43_method_21_code 33 (.iconst 0) 1 := fun h => hb h (by decide +kernel)
theorem d25_34 : DC jdk_43_method_21_code 34 (.baload) 1 := fun h => hb h (by decide +kernel)
theorem d25_35 : DC jdk_43_method_21_code 35 (.sipush 255) 3 := fun h => hb h (by decide +kernel)
theorem d25_38 : DC jdk_43_method_21_code 38 (.iand) 1 := fun h => hb h (by decide +kernel)
theorem d25_39 : DC jdk_43_method_21_code 39 (.goto 12) 3 := fun h => hb h (by decide +kernel)
theorem d25_42 : DC jdk_43_method_21_code 42 (.aload_n 0) 1 := fun h => hb h (by decide +kernel)
theorem d25_43 : DC jdk_43_method_21_code 43 (.iconst 0) 1 := fun h => hb h (by decide +kernel)
theorem d25_44 : DC jdk_43_method_21_code 44 (.aload_n 0) 1 := fun h => hb h (by decide +kernel)
theorem d25_45 : DC jdk_43_method_21_code 45 (.arraylength) 1 := fun h => hb h (by decide +kernel)
theorem d25_46 : DC jdk_43_method_21_code 46 (.iconst 0) 1 := fun h => hb h (by decide +kernel)
theorem d25_47 : DC jdk_43_method_21_code 47 (.iconst 4) 1 := fun h => hb h (by decide +kernel)
theorem d25_48 : DC jdk_43_method_21_code 48 (.invokestatic 84) 3 := fun h => hb h (by decide +kernel)
theorem d25_51 : DC jdk_43_method_21_code 51 (.ireturn) 1 := fun h => hb h (by decide +kernel)
theorem d17_0 : DC jdk_48_method_13_code 0 (.iconst 0) 1 := fun h => hb h (by decide +kernel)
theorem d17_1 : DC jdk_48_method_13_code 1 (.istore_n 3) 1 := fun h => hb h (by decide +kernel)
theorem d17_2 : DC jdk_48_method_13_code 2 (.iload_n 2) 1 := fun h => hb h (by decide +kernel)
theorem d17_3 : DC jdk_48_method_13_code 3 (.bipush 7) 2 := fun h => hb h (by decide +kernel)
theorem d17_5 : DC jdk_48_method_13_code 5 (.if_icmp .le 44) 3 := fun h => hb h (by decide +kernel)
theorem d17_49 : DC jdk_48_method_13_code 49 (.iload_n 3) 1 := fun h => hb h (by decide +kernel)
theorem d17_50 : DC jdk_48_method_13_code 50 (.iload_n 2) 1 := fun h => hb h (by decide +kernel)
theorem d17_51 : DC jdk_48_method_13_code 51 (.if_icmp .ge 20) 3 := fun h => hb h (by decide +kernel)
theorem d17_54 : DC jdk_48_method_13_code 54 (.aload_n 0) 1 := fun h => hb h (by decide +kernel)
theorem d17_55 : DC jdk_48_method_13_code 55 (.iload_n 3) 1 := fun h => hb h (by decide +kernel)
theorem d17_56 : DC jdk_48_method_13_code 56 (.baload) 1 := fun h => hb h (by decide +kernel)
theorem d17_57 : DC jdk_48_method_13_code 57 (.aload_n 1) 1 := fun h => hb h (by decide +kernel)
theorem d17_58 : DC jdk_48_method_13_code 58 (.iload_n 3) 1 := fun h => hb h (by decide +kernel)
theorem d17_59 : DC jdk_48_method_13_code 59 (.baload) 1 := fun h => hb h (by decide +kernel)
theorem d17_60 : DC jdk_48_method_13_code 60 (.if_icmp .eq 5) 3 := fun h => hb h (by decide +kernel)
theorem d17_65 : DC jdk_48_method_13_code 65 (.iinc 3 1) 3 := fun h => hb h (by decide +kernel)
theorem d17_68 : DC jdk_48_method_13_code 68 (.goto (-19)) 3 := fun h => hb h (by decide +kernel)
theorem d17_71 : DC jdk_48_method_13_code 71 (.iconst (-1)) 1 := fun h => hb h (by decide +kernel)
theorem d17_72 : DC jdk_48_method_13_code 72 (.ireturn) 1 := fun h => hb h (by decide +kernel)
theorem d26_0 : DC jdk_48_method_4_code 0 (.iload 4) 2 := fun h => hb h (by decide +kernel)
theorem d26_2 : DC jdk_48_method_4_code 2 (.tableswitch 127 4 10 #[42, 55, 127, 127, 88, 101, 114]) 42 := fun h => hb h (by decide +kernel)
theorem d26_44 : DC jdk_48_method_4_code 44 (.iload_n 3) 1 := fun h => hb h (by decide +kernel)
theorem d26_45 : DC jdk_48_method_4_code 45 (.aload_n 0) 1 := fun h => hb h (by decide +kernel)
theorem d26_46 : DC jdk_48_method_4_code 46 (.checkcast 60) 3 := fun h => hb h (by decide +kernel)
theorem d26_49 : DC jdk_48_method_4_code 49 (.iload_n 1) 1 := fun h => hb h (by decide +kernel)
theorem d26_50 : DC jdk_48_method_4_code 50 (.iload_n 2) 1 := fun h => hb h (by decide +kernel)
theorem d26_51 : DC jdk_48_method_4_code 51 (.invokestatic 62) 3 := fun h => hb h (by decide +kernel)
theorem d26_54 : DC jdk_48_method_4_code 54 (.goto 103) 3 := fun h => hb h (by decide +kernel)
theorem d26_90 : DC jdk_48_method_4_code 90 (.iload_n 3) 1 := fun h => hb h (by decide +kernel)
theorem d26_91 : DC jdk_48_method_4_code 91 (.aload_n 0) 1 := fun h => hb h (by decide +kernel)
theorem d26_92 : DC jdk_48_method_4_code 92 (.checkcast 60) 3 := fun h => hb h (by decide +kernel)
theorem d26_95 : DC jdk_48_method_4_code 95 (.iload_n 1) 1 := fun h => hb h (by decide +kernel)
theorem d26_96 : DC jdk_48_method_4_code 96 (.iload_n 2) 1 := fun h => hb h (by decide +kernel)
theorem d26_97 : DC jdk_48_method_4_code 97 (.invokestatic 75) 3 := fun h => hb h (by decide +kernel)
theorem d26_100 : DC jdk_48_method_4_code 100 (.goto 57) 3 := fun h => hb h (by decide +kernel)
theorem d26_157 : DC jdk_48_method_4_code 157 (.ireturn) 1 := fun h => hb h (by decide +kernel)
theorem d27_0 : DC jdk_48_method_5_code 0 (.iload_n 2) 1 := fun h => hb h (by decide +kernel)
theorem d27_1 : DC jdk_48_method_5_code 1 (.iload_n 3) 1 := fun h => hb h (by decide +kernel)
theorem d27_2 : DC jdk_48_method_5_code 2 (.iadd) 1 := fun h => hb h (by decide +kernel)
theorem d27_3 : DC jdk_48_method_5_code 3 (.istore 4) 2 := fun h => hb h (by decide +kernel)
theorem d27_5 : DC jdk_48_method_5_code 5 (.iload_n 2) 1 := fun h => hb h (by decide +kernel)
theorem d27_6 : DC jdk_48_method_5_code 6 (.istore 5) 2 := fun h => hb h (by decide +kernel)
theorem d27_8 : DC jdk_48_method_5_code 8 (.iload 5) 2 := fun h => hb h (by decide +kernel)
theorem d27_10 : DC jdk_48_method_5_code 10 (.iload 4) 2 := fun h => hb h (by decide +kernel)
theorem d27_12 : DC jdk_48_method_5_code 12 (.if_icmp .ge 23) 3 := fun h => hb h (by decide +kernel)
theorem d27_15 : DC jdk_48_method_5_code 15 (.bipush 31) 2 := fun h => hb h (by decide +kernel)
theorem d27_17 : DC jdk_48_method_5_code 17 (.iload_n 0) 1 := fun h => hb h (by decide +kernel)
theorem d27_18 : DC jdk_48_method_5_code 18 (.imul) 1 := fun h => hb h (by decide +kernel)
theorem d27_19 : DC jdk_48_method_5_code 19 (.aload_n 1) 1 := fun h => hb h (by decide +kernel)
theorem d27_20 : DC jdk_48_method_5_code 20 (.iload 5) 2 := fun h => hb h (by decide +kernel)
theorem d27_22 : DC jdk_48_method_5_code 22 (.baload) 1 := fun h => hb h (by decide +kernel)
theorem d27_23 : DC jdk_48_method_5_code 23 (.sipush 255) 3 := fun h => hb h (by decide +kernel)
theorem d27_26 : DC jdk_48_method_5_code 26 (.iand) 1 := fun h => hb h (by decide +kernel)
theorem d27_27 : DC jdk_48_method_5_code 27 (.iadd) 1 := fun h => hb h (by decide +kernel)
theorem d27_28 : DC jdk_48_method_5_code 28 (.istore_n 0) 1 := fun h => hb h (by decide +kernel)
theorem d27_29 : DC jdk_48_method_5_code 29 (.iinc 5 1) 3 := fun h => hb h (by decide +kernel)
theorem d27_32 : DC jdk_48_method_5_code 32 (.goto (-24)) 3 := fun h => hb h (by decide +kernel)
theorem d27_35 : DC jdk_48_method_5_code 35 (.iload_n 0) 1 := fun h => hb h (by decide +kernel)
theorem d27_36 : DC jdk_48_method_5_code 36 (.ireturn) 1 := fun h => hb h (by decide +kernel)
theorem d32_0 : DC jdk_48_method_6_code 0 (.iload_n 2) 1 := fun h => hb h (by decide +kernel)
theorem d32_1 : DC jdk_48_method_6_code 1 (.iload_n 3) 1 := fun h => hb h (by decide +kernel)
theorem d32_2 : DC jdk_48_method_6_code 2 (.iadd) 1 := fun h => hb h (by decide +kernel)
theorem d32_3 : DC jdk_48_method_6_code 3 (.istore 4) 2 := fun h => hb h (by decide +kernel)
theorem d32_5 : DC jdk_48_method_6_code 5 (.iload_n 2) 1 := fun h => hb h (by decide +kernel)
theorem d32_6 : DC jdk_48_method_6_code 6 (.istore 5) 2 := fun h => hb h (by decide +kernel)
theorem d32_8 : DC jdk_48_method_6_code 8 (.iload 5) 2 := fun h => hb h (by decide +kernel)
theorem d32_10 : DC jdk_48_method_6_code 10 (.iload 4) 2 := fun h => hb h (by decide +kernel)
theorem d32_12 : DC jdk_48_method_6_code 12 (.if_icmp .ge 19) 3 := fun h => hb h (by decide +kernel)
theorem d32_15 : DC jdk_48_method_6_code 15 (.bipush 31) 2 := fun h => hb h (by decide +kernel)
theorem d32_17 : DC jdk_48_method_6_code 17 (.iload_n 0) 1 := fun h => hb h (by decide +kernel)
theorem d32_18 : DC jdk_48_method_6_code 18 (.imul) 1 := fun h => hb h (by decide +kernel)
theorem d32_19 : DC jdk_48_method_6_code 19 (.aload_n 1) 1 := fun h => hb h (by decide +kernel)
theorem d32_20 : DC jdk_48_method_6_code 20 (.iload 5) 2 := fun h => hb h (by decide +kernel)
theorem d32_22 : DC jdk_48_method_6_code 22 (.baload) 1 := fun h => hb h (by decide +kernel)
theorem d32_23 : DC jdk_48_method_6_code 23 (.iadd) 1 := fun h => hb h (by decide +kernel)
theorem d32_24 : DC jdk_48_method_6_code 24 (.istore_n 0) 1 := fun h => hb h (by decide +kernel)
theorem d32_25 : DC jdk_48_method_6_code 25 (.iinc 5 1) 3 := fun h => hb h (by decide +kernel)
theorem d32_28 : DC jdk_48_method_6_code 28 (.goto (-20)) 3 := fun h => hb h (by decide +kernel)
theorem d32_31 : DC jdk_48_method_6_code 31 (.iload_n 0) 1 := fun h => hb h (by decide +kernel)
theorem d32_32 : DC jdk_48_method_6_code 32 (.ireturn) 1 := fun h => hb h (by decide +kernel)
theorem d22_0 : DC jdk_52_method_15_code 0 (.iload_n 1) 1 := fun h => hb h (by decide +kernel)
theorem d22_1 : DC jdk_52_method_15_code 1 (.aload_n 0) 1 := fun h => hb h (by decide +kernel)
theorem d22_2 : DC jdk_52_method_15_code 2 (.arraylength) 1 := fun h => hb h (by decide +kernel)
theorem d22_3 : DC jdk_52_method_15_code 3 (.isub) 1 := fun h => hb h (by decide +kernel)
theorem d22_4 : DC jdk_52_method_15_code 4 (.bipush 31) 2 := fun h => hb h (by decide +kernel)
theorem d22_6 : DC jdk_52_method_15_code 6 (.iushr) 1 := fun h => hb h (by decide +kernel)
theorem d22_7 : DC jdk_52_method_15_code 7 (.i2b) 1 := fun h => hb h (by decide +kernel)
theorem d22_8 : DC jdk_52_method_15_code 8 (.ireturn) 1 := fun h => hb h (by decide +kernel)
theorem d20_0 : DC jdk_52_method_16_code 0 (.iload_n 2) 1 := fun h => hb h (by decide +kernel)
theorem d20_1 : DC jdk_52_method_16_code 1 (.newarray .byte) 2 := fun h => hb h (by decide +kernel)
theorem d20_3 : DC jdk_52_method_16_code 3 (.astore_n 3) 1 := fun h => hb h (by decide +kernel)
theorem d20_4 : DC jdk_52_method_16_code 4 (.aload_n 0) 1 := fun h => hb h (by decide +kernel)
theorem d20_5 : DC jdk_52_method_16_code 5 (.iload_n 1) 1 := fun h => hb h (by decide +kernel)
theorem d20_6 : DC jdk_52_method_16_code 6 (.aload_n 3) 1 := fun h => hb h (by decide +kernel)
theorem d20_7 : DC jdk_52_method_16_code 7 (.iconst 0) 1 := fun h => hb h (by decide +kernel)
theorem d20_8 : DC jdk_52_method_16_code 8 (.iload_n 2) 1 := fun h => hb h (by decide +kernel)
theorem d20_9 : DC jdk_52_method_16_code 9 (.invokestatic 115) 3 := fun h => hb h (by decide +kernel)
theorem d20_12 : DC jdk_52_method_16_code 12 (.istore 4) 2 := fun h => hb h (by decide +kernel)
theorem d20_14 : DC jdk_52_method_16_code 14 (.iload 4) 2 := fun h => hb h (by decide +kernel)
theorem d20_16 : DC jdk_52_method_16_code 16 (.iload_n 2) 1 := fun h => hb h (by decide +kernel)
theorem d20_17 : DC jdk_52_method_16_code 17 (.if_icmp .eq 40) 3 := fun h => hb h (by decide +kernel)
theorem d20_57 : DC jdk_52_method_16_code 57 (.aload_n 3) 1 := fun h => hb h (by decide +kernel)
theorem d20_58 : DC jdk_52_method_16_code 58 (.areturn) 1 := fun h => hb h (by decide +kernel)
theorem d21_0 : DC jdk_52_method_21_code 0 (.iconst 0) 1 := fun h => hb h (by decide +kernel)
theorem d21_1 : DC jdk_52_method_21_code 1 (.istore 5) 2 := fun h => hb h (by decide +kernel)
theorem d21_3 : DC jdk_52_method_21_code 3 (.iload 5) 2 := fun h => hb h (by decide +kernel)
theorem d21_5 : DC jdk_52_method_21_code 5 (.iload 4) 2 := fun h => hb h (by decide +kernel)
theorem d21_7 : DC jdk_52_method_21_code 7 (.if_icmp .ge 37) 3 := fun h => hb h (by decide +kernel)
theorem d21_10 : DC jdk_52_method_21_code 10 (.aload_n 0) 1 := fun h => hb h (by decide +kernel)
theorem d21_11 : DC jdk_52_method_21_code 11 (.iload_n 1) 1 := fun h => hb h (by decide +kernel)
theorem d21_12 : DC jdk_52_method_21_code 12 (.caload) 1 := fun h => hb h (by decide +kernel)
theorem d21_13 : DC jdk_52_method_21_code 13 (.istore 6) 2 := fun h => hb h (by decide +kernel)
theorem d21_15 : DC jdk_52_method_21_code 15 (.iload 6) 2 := fun h => hb h (by decide +kernel)
theorem d21_17 : DC jdk_52_method_21_code 17 (.sipush 255) 3 := fun h => hb h (by decide +kernel)
theorem d21_20 : DC jdk_52_method_21_code 20 (.if_icmp .le 6) 3 := fun h => hb h (by decide +kernel)
theorem d21_26 : DC jdk_52_method_21_code 26 (.aload_n 2) 1 := fun h => hb h (by decide +kernel)
theorem d21_27 : DC jdk_52_method_21_code 27 (.iload_n 3) 1 := fun h => hb h (by decide +kernel)
theorem d21_28 : DC jdk_52_method_21_code 28 (.iload 6) 2 := fun h => hb h (by decide +kernel)
theorem d21_30 : DC jdk_52_method_21_code 30 (.i2b) 1 := fun h => hb h (by decide +kernel)
theorem d21_31 : DC jdk_52_method_21_code 31 (.bastore) 1 := fun h => hb h (by decide +kernel)
theorem d21_32 : DC jdk_52_method_21_code 32 (.iinc 1 1) 3 := fun h => hb h (by decide +kernel)
theorem d21_35 : DC jdk_52_method_21_code 35 (.iinc 3 1) 3 := fun h => hb h (by decide +kernel)
theorem d21_38 : DC jdk_52_method_21_code 38 (.iinc 5 1) 3 := fun h => hb h (by decide +kernel)
theorem d21_41 : DC jdk_52_method_21_code 41 (.goto (-38)) 3 := fun h => hb h (by decide +kernel)
theorem d21_44 : DC jdk_52_method_21_code 44 (.iload 4) 2 := fun h => hb h (by decide +kernel)
theorem d21_46 : DC jdk_52_method_21_code 46 (.ireturn) 1 := fun h => hb h (by decide +kernel)
theorem d9_0 : DC jdk_65_method_153_code 0 (.aload_n 0) 1 := fun h => hb h (by decide +kernel)
theorem d9_1 : DC jdk_65_method_153_code 1 (.ifnonnull 5) 3 := fun h => hb h (by decide +kernel)
theorem d9_6 : DC jdk_65_method_153_code 6 (.aload_n 0) 1 := fun h => hb h (by decide +kernel)
theorem d9_7 : DC jdk_65_method_153_code 7 (.arraylength) 1 := fun h => hb h (by decide +kernel)
theorem d9_8 : DC jdk_65_method_153_code 8 (.lookupswitch 41 #[(0, 28), (1, 32)]) 28 := fun h => hb h (by decide +kernel)
theorem d9_36 : DC jdk_65_method_153_code 36 (.iconst 1) 1 := fun h => hb h (by decide +kernel)
theorem d9_37 : DC jdk_65_method_153_code 37 (.goto 22) 3 := fun h => hb h (by decide +kernel)
theorem d9_40 : DC jdk_65_method_153_code 40 (.bipush 31) 2 := fun h => hb h (by decide +kernel)
theorem d9_42 : DC jdk_65_method_153_code 42 (.aload_n 0) 1 := fun h => hb h (by decide +kernel)
theorem d9_43 : DC jdk_65_method_153_code 43 (.iconst 0) 1 := fun h => hb h (by decide +kernel)
theorem d9_44 : DC jdk_65_method_153_code 44 (.baload) 1 := fun h => hb h (by decide +kernel)
theorem d9_45 : DC jdk_65_method_153_code 45 (.iadd) 1 := fun h => hb h (by decide +kernel)
theorem d9_46 : DC jdk_65_method_153_code 46 (.goto 13) 3 := fun h => hb h (by decide +kernel)
theorem d9_49 : DC jdk_65_method_153_code 49 (.aload_n 0) 1 := fun h => hb h (by decide +kernel)
theorem d9_50 : DC jdk_65_method_153_code 50 (.iconst 0) 1 := fun h => hb h (by decide +kernel)
theorem d9_51 : DC jdk_65_method_153_code 51 (.aload_n 0) 1 := fun h => hb h (by decide +kernel)
theorem d9_52 : DC jdk_65_method_153_code 52 (.arraylength) 1 := fun h => hb h (by decide +kernel)
theorem d9_53 : DC jdk_65_method_153_code 53 (.iconst 1) 1 := fun h => hb h (by decide +kernel)
theorem d9_54 : DC jdk_65_method_153_code 54 (.bipush 8) 2 := fun h => hb h (by decide +kernel)
theorem d9_56 : DC jdk_65_method_153_code 56 (.invokestatic 379) 3 := fun h => hb h (by decide +kernel)
theorem d9_59 : DC jdk_65_method_153_code 59 (.ireturn) 1 := fun h => hb h (by decide +kernel)
theorem d11_0 : DC jdk_65_method_157_code 0 (.aload_n 0) 1 := fun h => hb h (by decide +kernel)
theorem d11_1 : DC jdk_65_method_157_code 1 (.ifnonnull 5) 3 := fun h => hb h (by decide +kernel)
theorem d11_6 : DC jdk_65_method_157_code 6 (.iconst 1) 1 := fun h => hb h (by decide +kernel)
theorem d11_7 : DC jdk_65_method_157_code 7 (.istore_n 1) 1 := fun h => hb h (by decide +kernel)
theorem d11_8 : DC jdk_65_method_157_code 8 (.aload_n 0) 1 := fun h => hb h (by decide +kernel)
theorem d11_9 : DC jdk_65_method_157_code 9 (.astore_n 2) 1 := fun h => hb h (by decide +kernel)
theorem d11_10 : DC jdk_65_method_157_code 10 (.aload_n 2) 1 := fun h => hb h (by decide +kernel)
theorem d11_11 : DC jdk_65_method_157_code 11 (.arraylength) 1 := fun h => hb h (by decide +kernel)
theorem d11_12 : DC jdk_65_method_157_code 12 (.istore_n 3) 1 := fun h => hb h (by decide +kernel)
theorem d11_13 : DC jdk_65_method_157_code 13 (.iconst 0) 1 := fun h => hb h (by decide +kernel)
theorem d11_14 : DC jdk_65_method_157_code 14 (.istore 4) 2 := fun h => hb h (by decide +kernel)
theorem d11_16 : DC jdk_65_method_157_code 16 (.iload 4) 2 := fun h => hb h (by decide +kernel)
theorem d11_18 : DC jdk_65_method_157_code 18 (.iload_n 3) 1 := fun h => hb h (by decide +kernel)
theorem d11_19 : DC jdk_65_method_157_code 19 (.if_icmp .ge 35) 3 := fun h => hb h (by decide +kernel)
theorem d11_22 : DC jdk_65_method_157_code 22 (.aload_n 2) 1 := fun h => hb h (by decide +kernel)
theorem d11_23 : DC jdk_65_method_157_code 23 (.iload 4) 2 := fun h => hb h (by decide +kernel)
theorem d11_25 : DC jdk_65_method_157_code 25 (.aaload) 1 := fun h => hb h (by decide +kernel)
theorem d11_26 : DC jdk_65_method_157_code 26 (.astore 5) 2 := fun h => hb h (by decide +kernel)
theorem d11_28 : DC jdk_65_method_157_code 28 (.bipush 31) 2 := fun h => hb h (by decide +kernel)
theorem d11_30 : DC jdk_65_method_157_code 30 (.iload_n 1) 1 := fun h => hb h (by decide +kernel)
theorem d11_31 : DC jdk_65_method_157_code 31 (.imul) 1 := fun h => hb h (by decide +kernel)
theorem d11_32 : DC jdk_65_method_157_code 32 (.aload 5) 2 := fun h => hb h (by decide +kernel)
theorem d11_34 : DC jdk_65_method_157_code 34 (.ifnonnull 7) 3 := fun h => hb h (by decide +kernel)
theorem d11_37 : DC jdk_65_method_157_code 37 (.iconst 0) 1 := fun h => hb h (by decide +kernel)
theorem d11_38 : DC jdk_65_method_157_code 38 (.goto 8) 3 := fun h => hb h (by decide +kernel)
theorem d11_41 : DC jdk_65_method_157_code 41 (.aload 5) 2 := fun h => hb h (by decide +kernel)
theorem d11_43 : DC jdk_65_method_157_code 43 (.invokevirtual 383) 3 := fun h => hb h (by decide +kernel)
theorem d11_46 : DC jdk_65_method_157_code 46 (.iadd) 1 := fun h => hb h (by decide +kernel)
theorem d11_47 : DC jdk_65_method_157_code 47 (.istore_n 1) 1 := fun h => hb h (by decide +kernel)
theorem d11_48 : DC jdk_65_method_157_code 48 (.iinc 4 1) 3 := fun h => hb h (by decide +kernel)
theorem d11_51 : DC jdk_65_method_157_code 51 (.goto (-35)) 3 := fun h => hb h (by decide +kernel)
theorem d11_54 : DC jdk_65_method_157_code 54 (.iload_n 1) 1 := fun h => hb h (by decide +kernel)
theorem d11_55 : DC jdk_65_method_157_code 55 (.ireturn) 1 := fun h => hb h (by decide +kernel)
theorem d16_0 : DC jdk_65_method_89_code 0 (.aload_n 0) 1 := fun h => hb h (by decide +kernel)
theorem d16_1 : DC jdk_65_method_89_code 1 (.aload_n 1) 1 := fun h => hb h (by decide +kernel)
theorem d16_2 : DC jdk_65_method_89_code 2 (.if_acmp .ne 5) 3 := fun h => hb h (by decide +kernel)
theorem d16_7 : DC jdk_65_method_89_code 7 (.aload_n 0) 1 := fun h => hb h (by decide +kernel)
theorem d16_8 : DC jdk_65_method_89_code 8 (.ifnull 7) 3 := fun h => hb h (by decide +kernel)
theorem d16_11 : DC jdk_65_method_89_code 11 (.aload_n 1) 1 := fun h => hb h (by decide +kernel)
theorem d16_12 : DC jdk_65_method_89_code 12 (.ifnonnull 5) 3 := fun h => hb h (by decide +kernel)
theorem d16_17 : DC jdk_65_method_89_code 17 (.aload_n 0) 1 := fun h => hb h (by decide +kernel)
theorem d16_18 : DC jdk_65_method_89_code 18 (.arraylength) 1 := fun h => hb h (by decide +kernel)
theorem d16_19 : DC jdk_65_method_89_code 19 (.istore_n 2) 1 := fun h => hb h (by decide +kernel)
theorem d16_20 : DC jdk_65_method_89_code 20 (.aload_n 1) 1 := fun h => hb h (by decide +kernel)
theorem d16_21 : DC jdk_65_method_89_code 21 (.arraylength) 1 := fun h => hb h (by decide +kernel)
theorem d16_22 : DC jdk_65_method_89_code 22 (.iload_n 2) 1 := fun h => hb h (by decide +kernel)
theorem d16_23 : DC jdk_65_method_89_code 23 (.if_icmp .eq 5) 3 := fun h => hb h (by decide +kernel)
theorem d16_28 : DC jdk_65_method_89_code 28 (.aload_n 0) 1 := fun h => hb h (by decide +kernel)
theorem d16_29 : DC jdk_65_method_89_code 29 (.aload_n 1) 1 := fun h => hb h (by decide +kernel)
theorem d16_30 : DC jdk_65_method_89_code 30 (.iload_n 2) 1 := fun h => hb h (by decide +kernel)
theorem d16_31 : DC jdk_65_method_89_code 31 (.invokestatic 272) 3 := fun h => hb h (by decide +kernel)
theorem d16_34 : DC jdk_65_method_89_code 34 (.ifCond .ge 7) 3 := fun h => hb h (by decide +kernel)
theorem d16_37 : DC jdk_65_method_89_code 37 (.iconst 1) 1 := fun h => hb h (by decide +kernel)
theorem d16_38 : DC jdk_65_method_89_code 38 (.goto 4) 3 := fun h => hb h (by decide +kernel)
theorem d16_42 : DC jdk_65_method_89_code 42 (.ireturn) 1 := fun h => hb h (by decide +kernel)
theorem d1_0 : DC method_3_code 0 (.iload_n 1) 1 := fun h => hb h (by decide +kernel)
theorem d1_1 : DC method_3_code 1 (.iload 5) 2 := fun h => hb h (by decide +kernel)
theorem d1_3 : DC method_3_code 3 (.iconst 3) 1 := fun h => hb h (by decide +kernel)
theorem d1_4 : DC method_3_code 4 (.iand) 1 := fun h => hb h (by decide +kernel)
theorem d1_5 : DC method_3_code 5 (.invokestatic 23) 3 := fun h => hb h (by decide +kernel)
theorem d1_8 : DC method_3_code 8 (.astore 6) 2 := fun h => hb h (by decide +kernel)
theorem d1_10 : DC method_3_code 10 (.iload_n 2) 1 := fun h => hb h (by decide +kernel)
theorem d1_11 : DC method_3_code 11 (.iload 5) 2 := fun h => hb h (by decide +kernel)
theorem d1_13 : DC method_3_code 13 (.iconst 2) 1 := fun h => hb h (by decide +kernel)
theorem d1_14 : DC method_3_code 14 (.iushr) 1 := fun h => hb h (by decide +kernel)
theorem d1_15 : DC method_3_code 15 (.iconst 3) 1 := fun h => hb h (by decide +kernel)
theorem d1_16 : DC method_3_code 16 (.iand) 1 := fun h => hb h (by decide +kernel)
theorem d1_17 : DC method_3_code 17 (.invokestatic 23) 3 := fun h => hb h (by decide +kernel)
theorem d1_20 : DC method_3_code 20 (.astore 7) 2 := fun h => hb h (by decide +kernel)
theorem d1_22 : DC method_3_code 22 (.lload_n 3) 1 := fun h => hb h (by decide +kernel)
theorem d1_23 : DC method_3_code 23 (.iload 5) 2 := fun h => hb h (by decide +kernel)
theorem d1_25 : DC method_3_code 25 (.iconst 4) 1 := fun h => hb h (by decide +kernel)
theorem d1_26 : DC method_3_code 26 (.iushr) 1 := fun h => hb h (by decide +kernel)
theorem d1_27 : DC method_3_code 27 (.iconst 3) 1 := fun h => hb h (by decide +kernel)
theorem d1_28 : DC method_3_code 28 (.iand) 1 := fun h => hb h (by decide +kernel)
theorem d1_29 : DC method_3_code 29 (.invokestatic 27) 3 := fun h => hb h (by decide +kernel)
theorem d1_32 : DC method_3_code 32 (.astore 8) 2 := fun h => hb h (by decide +kernel)
theorem d1_34 : DC method_3_code 34 (.new 14) 3 := fun h => hb h (by decide +kernel)
theorem d1_37 : DC method_3_code 37 (.dup) 1 := fun h => hb h (by decide +kernel)
theorem d1_38 : DC method_3_code 38 (.iload_n 0) 1 := fun h => hb h (by decide +kernel)
theorem d1_39 : DC method_3_code 39 (.aload 6) 2 := fun h => hb h (by decide +kernel)
theorem d1_41 : DC method_3_code 41 (.aload 7) 2 := fun h => hb h (by decide +kernel)
theorem d1_43 : DC method_3_code 43 (.aload 8) 2 := fun h => hb h (by decide +kernel)
theorem d1_45 : DC method_3_code 45 (.invokespecial 31) 3 := fun h => hb h (by decide +kernel)
theorem d1_48 : DC method_3_code 48 (.areturn) 1 := fun h => hb h (by decide +kernel)
theorem d2_0 : DC method_4_code 0 (.iload_n 1) 1 := fun h => hb h (by decide +kernel)
theorem d2_1 : DC method_4_code 1 (.ifCond .ne 5) 3 := fun h => hb h (by decide +kernel)
theorem d2_4 : DC method_4_code 4 (.aconst_null) 1 := fun h => hb h (by decide +kernel)
theorem d2_5 : DC method_4_code 5 (.areturn) 1 := fun h => hb h (by decide +kernel)
theorem d2_6 : DC method_4_code 6 (.iload_n 1) 1 := fun h => hb h (by decide +kernel)
theorem d2_7 : DC method_4_code 7 (.iconst 1) 1 := fun h => hb h (by decide +kernel)
theorem d2_8 : DC method_4_code 8 (.if_icmp .ne 14) 3 := fun h => hb h (by decide +kernel)
theorem d2_11 : DC method_4_code 11 (.new 34) 3 := fun h => hb h (by decide +kernel)
theorem d2_14 : DC method_4_code 14 (.dup) 1 := fun h => hb h (by decide +kernel)
theorem d2_15 : DC method_4_code 15 (.iconst 0) 1 := fun h => hb h (by decide +kernel)
theorem d2_16 : DC method_4_code 16 (.newarray .char) 2 := fun h => hb h (by decide +kernel)
theorem d2_18 : DC method_4_code 18 (.invokespecial 36) 3 := fun h => hb h (by decide +kernel)
theorem d2_21 : DC method_4_code 21 (.areturn) 1 := fun h => hb h (by decide +kernel)
theorem d2_22 : DC method_4_code 22 (.iload_n 1) 1 := fun h => hb h (by decide +kernel)
theorem d2_23 : DC method_4_code 23 (.iconst 2) 1 := fun h => hb h (by decide +kernel)
theorem d2_24 : DC method_4_code 24 (.if_icmp .ne 25) 3 := fun h => hb h (by decide +kernel)
theorem d2_27 : DC method_4_code 27 (.iconst 1) 1 := fun h => hb h (by decide +kernel)
theorem d2_28 : DC method_4_code 28 (.newarray .char) 2 := fun h => hb h (by decide +kernel)
theorem d2_30 : DC method_4_code 30 (.astore_n 2) 1 := fun h => hb h (by decide +kernel)
theorem d2_31 : DC method_4_code 31 (.aload_n 2) 1 := fun h => hb h (by decide +kernel)
theorem d2_32 : DC method_4_code 32 (.iconst 0) 1 := fun h => hb h (by decide +kernel)
theorem d2_33 : DC method_4_code 33 (.iload_n 0) 1 := fun h => hb h (by decide +kernel)
theorem d2_34 : DC method_4_code 34 (.sipush 255) 3 := fun h => hb h (by decide +kernel)
theorem d2_37 : DC method_4_code 37 (.iand) 1 := fun h => hb h (by decide +kernel)
theorem d2_38 : DC method_4_code 38 (.i2c) 1 := fun h => hb h (by decide +kernel)
theorem d2_39 : DC method_4_code 39 (.castore) 1 := fun h => hb h (by decide +kernel)
theorem d2_40 : DC method_4_code 40 (.new 34) 3 := fun h => hb h (by decide +kernel)
theorem d2_43 : DC method_4_code 43 (.dup) 1 := fun h => hb h (by decide +kernel)
theorem d2_44 : DC method_4_code 44 (.aload_n 2) 1 := fun h => hb h (by decide +kernel)
theorem d2_45 : DC method_4_code 45 (.invokespecial 36) 3 := fun h => hb h (by decide +kernel)
theorem d2_48 : DC method_4_code 48 (.areturn) 1 := fun h => hb h (by decide +kernel)
theorem d2_49 : DC method_4_code 49 (.iconst 2) 1 := fun h => hb h (by decide +kernel)
theorem d2_50 : DC method_4_code 50 (.newarray .char) 2 := fun h => hb h (by decide +kernel)
theorem d2_52 : DC method_4_code 52 (.astore_n 2) 1 := fun h => hb h (by decide +kernel)
theorem d2_53 : DC method_4_code 53 (.aload_n 2) 1 := fun h => hb h (by decide +kernel)
theorem d2_54 : DC method_4_code 54 (.iconst 0) 1 := fun h => hb h (by decide +kernel)
theorem d2_55 : DC method_4_code 55 (.iload_n 0) 1 := fun h => hb h (by decide +kernel)
theorem d2_56 : DC method_4_code 56 (.sipush 255) 3 := fun h => hb h (by decide +kernel)
theorem d2_59 : DC method_4_code 59 (.iand) 1 := fun h => hb h (by decide +kernel)
theorem d2_60 : DC method_4_code 60 (.i2c) 1 := fun h => hb h (by decide +kernel)
theorem d2_61 : DC method_4_code 61 (.castore) 1 := fun h => hb h (by decide +kernel)
theorem d2_62 : DC method_4_code 62 (.aload_n 2) 1 := fun h => hb h (by decide +kernel)
theorem d2_63 : DC method_4_code 63 (.iconst 1) 1 := fun h => hb h (by decide +kernel)
theorem d2_64 : DC method_4_code 64 (.iload_n 0) 1 := fun h => hb h (by decide +kernel)
theorem d2_65 : DC method_4_code 65 (.bipush 8) 2 := fun h => hb h (by decide +kernel)
theorem d2_67 : DC method_4_code 67 (.iushr) 1 := fun h => hb h (by decide +kernel)
theorem d2_68 : DC method_4_code 68 (.sipush 255) 3 := fun h => hb h (by decide +kernel)
theorem d2_71 : DC method_4_code 71 (.iand) 1 := fun h => hb h (by decide +kernel)
theorem d2_72 : DC method_4_code 72 (.i2c) 1 := fun h => hb h (by decide +kernel)
theorem d2_73 : DC method_4_code 73 (.castore) 1 := fun h => hb h (by decide +kernel)
theorem d2_74 : DC method_4_code 74 (.new 34) 3 := fun h => hb h (by decide +kernel)
theorem d2_77 : DC method_4_code 77 (.dup) 1 := fun h => hb h (by decide +kernel)
theorem d2_78 : DC method_4_code 78 (.aload_n 2) 1 := fun h => hb h (by decide +kernel)
theorem d2_79 : DC method_4_code 79 (.invokespecial 36) 3 := fun h => hb h (by decide +kernel)
theorem d2_82 : DC method_4_code 82 (.areturn) 1 := fun h => hb h (by decide +kernel)
theorem d3_0 : DC method_5_code 0 (.iload_n 2) 1 := fun h => hb h (by decide +kernel)
theorem d3_1 : DC method_5_code 1 (.ifCond .ne 7) 3 := fun h => hb h (by decide +kernel)
theorem d3_4 : DC method_5_code 4 (.iconst 0) 1 := fun h => hb h (by decide +kernel)
theorem d3_5 : DC method_5_code 5 (.newarray .byte) 2 := fun h => hb h (by decide +kernel)
theorem d3_7 : DC method_5_code 7 (.areturn) 1 := fun h => hb h (by decide +kernel)
theorem d3_8 : DC method_5_code 8 (.iload_n 2) 1 := fun h => hb h (by decide +kernel)
theorem d3_9 : DC method_5_code 9 (.iconst 1) 1 := fun h => hb h (by decide +kernel)
theorem d3_10 : DC method_5_code 10 (.if_icmp .ne 15) 3 := fun h => hb h (by decide +kernel)
theorem d3_13 : DC method_5_code 13 (.iconst 1) 1 := fun h => hb h (by decide +kernel)
theorem d3_14 : DC method_5_code 14 (.newarray .byte) 2 := fun h => hb h (by decide +kernel)
theorem d3_16 : DC method_5_code 16 (.astore_n 3) 1 := fun h => hb h (by decide +kernel)
theorem d3_17 : DC method_5_code 17 (.aload_n 3) 1 := fun h => hb h (by decide +kernel)
theorem d3_18 : DC method_5_code 18 (.iconst 0) 1 := fun h => hb h (by decide +kernel)
theorem d3_19 : DC method_5_code 19 (.lload_n 0) 1 := fun h => hb h (by decide +kernel)
theorem d3_20 : DC method_5_code 20 (.l2i) 1 := fun h => hb h (by decide +kernel)
theorem d3_21 : DC method_5_code 21 (.i2b) 1 := fun h => hb h (by decide +kernel)
theorem d3_22 : DC method_5_code 22 (.bastore) 1 := fun h => hb h (by decide +kernel)
theorem d3_23 : DC method_5_code 23 (.aload_n 3) 1 := fun h => hb h (by decide +kernel)
theorem d3_24 : DC method_5_code 24 (.areturn) 1 := fun h => hb h (by decide +kernel)
theorem d3_25 : DC method_5_code 25 (.iload_n 2) 1 := fun h => hb h (by decide +kernel)
theorem d3_26 : DC method_5_code 26 (.iconst 2) 1 := fun h => hb h (by decide +kernel)
theorem d3_27 : DC method_5_code 27 (.if_icmp .ne 24) 3 := fun h => hb h (by decide +kernel)
theorem d3_30 : DC method_5_code 30 (.iconst 2) 1 := fun h => hb h (by decide +kernel)
theorem d3_31 : DC method_5_code 31 (.newarray .byte) 2 := fun h => hb h (by decide +kernel)
theorem d3_33 : DC method_5_code 33 (.astore_n 3) 1 := fun h => hb h (by decide +kernel)
theorem d3_34 : DC method_5_code 34 (.aload_n 3) 1 := fun h => hb h (by decide +kernel)
theorem d3_35 : DC method_5_code 35 (.iconst 0) 1 := fun h => hb h (by decide +kernel)
theorem d3_36 : DC method_5_code 36 (.lload_n 0) 1 := fun h => hb h (by decide +kernel)
theorem d3_37 : DC method_5_code 37 (.l2i) 1 := fun h => hb h (by decide +kernel)
theorem d3_38 : DC method_5_code 38 (.i2b) 1 := fun h => hb h (by decide +kernel)
theorem d3_39 : DC method_5_code 39 (.bastore) 1 := fun h => hb h (by decide +kernel)
theorem d3_40 : DC method_5_code 40 (.aload_n 3) 1 := fun h => hb h (by decide +kernel)
theorem d3_41 : DC method_5_code 41 (.iconst 1) 1 := fun h => hb h (by decide +kernel)
theorem d3_42 : DC method_5_code 42 (.lload_n 0) 1 := fun h => hb h (by decide +kernel)
theorem d3_43 : DC method_5_code 43 (.bipush 8) 2 := fun h => hb h (by decide +kernel)
theorem d3_45 : DC method_5_code 45 (.lushr) 1 := fun h => hb h (by decide +kernel)
theorem d3_46 : DC method_5_code 46 (.l2i) 1 := fun h => hb h (by decide +kernel)
theorem d3_47 : DC method_5_code 47 (.i2b) 1 := fun h => hb h (by decide +kernel)
theorem d3_48 : DC method_5_code 48 (.bastore) 1 := fun h => hb h (by decide +kernel)
theorem d3_49 : DC method_5_code 49 (.aload_n 3) 1 := fun h => hb h (by decide +kernel)
theorem d3_50 : DC method_5_code 50 (.areturn) 1 := fun h => hb h (by decide +kernel)
theorem d3_51 : DC method_5_code 51 (.iconst 3) 1 := fun h => hb h (by decide +kernel)
theorem d3_52 : DC method_5_code 52 (.newarray .byte) 2 := fun h => hb h (by decide +kernel)
theorem d3_54 : DC method_5_code 54 (.astore_n 3) 1 := fun h => hb h (by decide +kernel)
theorem d3_55 : DC method_5_code 55 (.aload_n 3) 1 := fun h => hb h (by decide +kernel)
theorem d3_56 : DC method_5_code 56 (.iconst 0) 1 := fun h => hb h (by decide +kernel)
theorem d3_57 : DC method_5_code 57 (.lload_n 0) 1 := fun h => hb h (by decide +kernel)
theorem d3_58 : DC method_5_code 58 (.l2i) 1 := fun h => hb h (by decide +kernel)
theorem d3_59 : DC method_5_code 59 (.i2b) 1 := fun h => hb h (by decide +kernel)
theorem d3_60 : DC method_5_code 60 (.bastore) 1 := fun h => hb h (by decide +kernel)
theorem d3_61 : DC method_5_code 61 (.aload_n 3) 1 := fun h => hb h (by decide +kernel)
theorem d3_62 : DC method_5_code 62 (.iconst 1) 1 := fun h => hb h (by decide +kernel)
theorem d3_63 : DC method_5_code 63 (.lload_n 0) 1 := fun h => hb h (by decide +kernel)
theorem d3_64 : DC method_5_code 64 (.bipush 8) 2 := fun h => hb h (by decide +kernel)
theorem d3_66 : DC method_5_code 66 (.lushr) 1 := fun h => hb h (by decide +kernel)
theorem d3_67 : DC method_5_code 67 (.l2i) 1 := fun h => hb h (by decide +kernel)
theorem d3_68 : DC method_5_code 68 (.i2b) 1 := fun h => hb h (by decide +kernel)
theorem d3_69 : DC method_5_code 69 (.bastore) 1 := fun h => hb h (by decide +kernel)
theorem d3_70 : DC method_5_code 70 (.aload_n 3) 1 := fun h => hb h (by decide +kernel)
theorem d3_71 : DC method_5_code 71 (.iconst 2) 1 := fun h => hb h (by decide +kernel)
theorem d3_72 : DC method_5_code 72 (.lload_n 0) 1 := fun h => hb h (by decide +kernel)
theorem d3_73 : DC method_5_code 73 (.bipush 16) 2 := fun h => hb h (by decide +kernel)
theorem d3_75 : DC method_5_code 75 (.lushr) 1 := fun h => hb h (by decide +kernel)
theorem d3_76 : DC method_5_code 76 (.l2i) 1 := fun h => hb h (by decide +kernel)
theorem d3_77 : DC method_5_code 77 (.i2b) 1 := fun h => hb h (by decide +kernel)
theorem d3_78 : DC method_5_code 78 (.bastore) 1 := fun h => hb h (by decide +kernel)
theorem d3_79 : DC method_5_code 79 (.aload_n 3) 1 := fun h => hb h (by decide +kernel)
theorem d3_80 : DC method_5_code 80 (.areturn) 1 := fun h => hb h (by decide +kernel)
theorem d4_0 : DC prog_12_method_1_code 0 (.aload_n 0) 1 := fun h => hb h (by decide +kernel)
theorem d4_1 : DC prog_12_method_1_code 1 (.invokespecial 1) 3 := fun h => hb h (by decide +kernel)
theorem d4_4 : DC prog_12_method_1_code 4 (.aload_n 0) 1 := fun h => hb h (by decide +kernel)
theorem d4_5 : DC prog_12_method_1_code 5 (.iload_n 1) 1 := fun h => hb h (by decide +kernel)
theorem d4_6 : DC prog_12_method_1_code 6 (.putfield 7) 3 := fun h => hb h (by decide +kernel)
theorem d4_9 : DC prog_12_method_1_code 9 (.aload_n 0) 1 := fun h => hb h (by decide +kernel)
theorem d4_10 : DC prog_12_method_1_code 10 (.aload_n 2) 1 := fun h => hb h (by decide +kernel)
theorem d4_11 : DC prog_12_method_1_code 11 (.putfield 13) 3 := fun h => hb h (by decide +kernel)
theorem d4_14 : DC prog_12_method_1_code 14 (.aload_n 0) 1 := fun h => hb h (by decide +kernel)
theorem d4_15 : DC prog_12_method_1_code 15 (.aload_n 3) 1 := fun h => hb h (by decide +kernel)
theorem d4_16 : DC prog_12_method_1_code 16 (.putfield 17) 3 := fun h => hb h (by decide +kernel)
theorem d4_19 : DC prog_12_method_1_code 19 (.aload_n 0) 1 := fun h => hb h (by decide +kernel)
theorem d4_20 : DC prog_12_method_1_code 20 (.aload 4) 2 := fun h => hb h (by decide +kernel)
theorem d4_22 : DC prog_12_method_1_code 22 (.ldc 20) 2 := fun h => hb h (by decide +kernel)
theorem d4_24 : DC prog_12_method_1_code 24 (.invokestatic 22) 3 := fun h => hb h (by decide +kernel)
theorem d4_27 : DC prog_12_method_1_code 27 (.checkcast 28) 3 := fun h => hb h (by decide +kernel)
theorem d4_30 : DC prog_12_method_1_code 30 (.invokevirtual 30) 3 := fun h => hb h (by decide +kernel)
theorem d4_33 : DC prog_12_method_1_code 33 (.checkcast 28) 3 := fun h => hb h (by decide +kernel)
theorem d4_36 : DC prog_12_method_1_code 36 (.putfield 34) 3 := fun h => hb h (by decide +kernel)
theorem d4_39 : DC prog_12_method_1_code 39 (.return_) 1 := fun h => hb h (by decide +kernel)
theorem d14_0 : DC prog_12_method_6_code 0 (.aload_n 1) 1 := fun h => hb h (by decide +kernel)
theorem d14_1 : DC prog_12_method_6_code 1 (.instanceof 8) 3 := fun h => hb h (by decide +kernel)
theorem d14_4 : DC prog_12_method_6_code 4 (.ifCond .eq 65) 3 := fun h => hb h (by decide +kernel)
theorem d14_7 : DC prog_12_method_6_code 7 (.aload_n 1) 1 := fun h => hb h (by decide +kernel)
theorem d14_8 : DC prog_12_method_6_code 8 (.checkcast 8) 3 := fun h => hb h (by decide +kernel)
theorem d14_11 : DC prog_12_method_6_code 11 (.astore_n 2) 1 := fun h => hb h (by decide +kernel)
theorem d14_12 : DC prog_12_method_6_code 12 (.aload_n 0) 1 := fun h => hb h (by decide +kernel)
theorem d14_13 : DC prog_12_method_6_code 13 (.getfield 7) 3 := fun h => hb h (by decide +kernel)
theorem d14_16 : DC prog_12_method_6_code 16 (.aload_n 2) 1 := fun h => hb h (by decide +kernel)
theorem d14_17 : DC prog_12_method_6_code 17 (.getfield 7) 3 := fun h => hb h (by decide +kernel)
theorem d14_20 : DC prog_12_method_6_code 20 (.if_icmp .ne 49) 3 := fun h => hb h (by decide +kernel)
theorem d14_23 : DC prog_12_method_6_code 23 (.aload_n 0) 1 := fun h => hb h (by decide +kernel)
theorem d14_24 : DC prog_12_method_6_code 24 (.getfield 13) 3 := fun h => hb h (by decide +kernel)
theorem d14_27 : DC prog_12_method_6_code 27 (.aload_n 2) 1 := fun h => hb h (by decide +kernel)
theorem d14_28 : DC prog_12_method_6_code 28 (.getfield 13) 3 := fun h => hb h (by decide +kernel)
theorem d14_31 : DC prog_12_method_6_code 31 (.invokestatic 36) 3 := fun h => hb h (by decide +kernel)
theorem d14_34 : DC prog_12_method_6_code 34 (.ifCond .eq 35) 3 := fun h => hb h (by decide +kernel)
theorem d14_37 : DC prog_12_method_6_code 37 (.aload_n 0) 1 := fun h => hb h (by decide +kernel)
theorem d14_38 : DC prog_12_method_6_code 38 (.getfield 17) 3 := fun h => hb h (by decide +kernel)
theorem d14_41 : DC prog_12_method_6_code 41 (.aload_n 2) 1 := fun h => hb h (by decide +kernel)
theorem d14_42 : DC prog_12_method_6_code 42 (.getfield 17) 3 := fun h => hb h (by decide +kernel)
theorem d14_45 : DC prog_12_method_6_code 45 (.invokestatic 36) 3 := fun h => hb h (by decide +kernel)
theorem d14_48 : DC prog_12_method_6_code 48 (.ifCond .eq 21) 3 := fun h => hb h (by decide +kernel)
theorem d14_51 : DC prog_12_method_6_code 51 (.aload_n 0) 1 := fun h => hb h (by decide +kernel)
theorem d14_52 : DC prog_12_method_6_code 52 (.getfield 34) 3 := fun h => hb h (by decide +kernel)
theorem d14_55 : DC prog_12_method_6_code 55 (.aload_n 2) 1 := fun h => hb h (by decide +kernel)
theorem d14_56 : DC prog_12_method_6_code 56 (.getfield 34) 3 := fun h => hb h (by decide +kernel)
theorem d14_59 : DC prog_12_method_6_code 59 (.invokestatic 40) 3 := fun h => hb h (by decide +kernel)
theorem d14_62 : DC prog_12_method_6_code 62 (.ifCond .eq 7) 3 := fun h => hb h (by decide +kernel)
theorem d14_65 : DC prog_12_method_6_code 65 (.iconst 1) 1 := fun h => hb h (by decide +kernel)
theorem d14_66 : DC prog_12_method_6_code 66 (.goto 4) 3 := fun h => hb h (by decide +kernel)
theorem d14_70 : DC prog_12_method_6_code 70 (.ireturn) 1 := fun h => hb h (by decide +kernel)
theorem d7_0 : DC prog_12_method_7_code 0 (.iconst 4) 1 := fun h => hb h (by decide +kernel)
theorem d7_1 : DC prog_12_method_7_code 1 (.anewarray 2) 3 := fun h => hb h (by decide +kernel)
theorem d7_4 : DC prog_12_method_7_code 4 (.dup) 1 := fun h => hb h (by decide +kernel)
theorem d7_5 : DC prog_12_method_7_code 5 (.iconst 0) 1 := fun h => hb h (by decide +kernel)
theorem d7_6 : DC prog_12_method_7_code 6 (.aload_n 0) 1 := fun h => hb h (by decide +kernel)
theorem d7_7 : DC prog_12_method_7_code 7 (.getfield 7) 3 := fun h => hb h (by decide +kernel)
theorem d7_10 : DC prog_12_method_7_code 10 (.invokestatic 45) 3 := fun h => hb h (by decide +kernel)
theorem d7_13 : DC prog_12_method_7_code 13 (.aastore) 1 := fun h => hb h (by decide +kernel)
theorem d7_14 : DC prog_12_method_7_code 14 (.dup) 1 := fun h => hb h (by decide +kernel)
theorem d7_15 : DC prog_12_method_7_code 15 (.iconst 1) 1 := fun h => hb h (by decide +kernel)
theorem d7_16 : DC prog_12_method_7_code 16 (.aload_n 0) 1 := fun h => hb h (by decide +kernel)
theorem d7_17 : DC prog_12_method_7_code 17 (.getfield 13) 3 := fun h => hb h (by decide +kernel)
theorem d7_20 : DC prog_12_method_7_code 20 (.aastore) 1 := fun h => hb h (by decide +kernel)
theorem d7_21 : DC prog_12_method_7_code 21 (.dup) 1 := fun h => hb h (by decide +kernel)
theorem d7_22 : DC prog_12_method_7_code 22 (.iconst 2) 1 := fun h => hb h (by decide +kernel)
theorem d7_23 : DC prog_12_method_7_code 23 (.aload_n 0) 1 := fun h => hb h (by decide +kernel)
theorem d7_24 : DC prog_12_method_7_code 24 (.getfield 17) 3 := fun h => hb h (by decide +kernel)
theorem d7_27 : DC prog_12_method_7_code 27 (.aastore) 1 := fun h => hb h (by decide +kernel)
theorem d7_28 : DC prog_12_method_7_code 28 (.dup) 1 := fun h => hb h (by decide +kernel)
theorem d7_29 : DC prog_12_method_7_code 29 (.iconst 3) 1 := fun h => hb h (by decide +kernel)
theorem d7_30 : DC prog_12_method_7_code 30 (.aload_n 0) 1 := fun h => hb h (by decide +kernel)
theorem d7_31 : DC prog_12_method_7_code 31 (.getfield 34) 3 := fun h => hb h (by decide +kernel)
theorem d7_34 : DC prog_12_method_7_code 34 (.invokestatic 51) 3 := fun h => hb h (by decide +kernel)
theorem d7_37 : DC prog_12_method_7_code 37 (.invokestatic 45) 3 := fun h => hb h (by decide +kernel)
theorem d7_40 : DC prog_12_method_7_code 40 (.aastore) 1 := fun h => hb h (by decide +kernel)
theorem d7_41 : DC prog_12_method_7_code 41 (.invokestatic 55) 3 := fun h => hb h (by decide +kernel)
theorem d7_44 : DC prog_12_method_7_code 44 (.ireturn) 1 := fun h => hb h (by decide +kernel)
theorem pn_0 : plainName "java/lang/String" = true := by first | (simp [plainName, overriddenIn]; done) | decide +kernel
theorem pn_1 : plainName "java/lang/StringUTF16" = true := by first | (simp [plainName, overriddenIn]; done) | decide +kernel
theorem pn_2 : plainName "com/example/seshat/seshat/StoredResponseHashCodePinLaw" = true := by first | (simp [plainName, overriddenIn]; done) | decide +kernel
theorem pn_3 : plainName "java/util/Objects" = true := by first | (simp [plainName, overriddenIn]; done) | decide +kernel
theorem pn_4 : plainName "com/example/seshat/seshat/StoredResponse" = true := by first | (simp [plainName, overriddenIn]; done) | decide +kernel
theorem pn_5 : plainName "java/lang/Number" = true := by first | (simp [plainName, overriddenIn]; done) | decide +kernel
theorem pn_6 : plainName "java/lang/Integer" = true := by first | (simp [plainName, overriddenIn]; done) | decide +kernel
theorem pn_7 : plainName "jdk/internal/util/ArraysSupport" = true := by first | (simp [plainName, overriddenIn]; done) | decide +kernel
theorem pn_8 : plainName "java/util/Arrays" = true := by first | (simp [plainName, overriddenIn]; done) | decide +kernel
theorem pn_9 : plainName "java/lang/StringLatin1" = true := by first | (simp [plainName, overriddenIn]; done) | decide +kernel
theorem pd_0 : parseMethodDescriptor "([CIILjava/lang/Void;)V" = some ⟨[(.array .char), .int, .int, (.object "java/lang/Void")], none⟩ := by decide +kernel
theorem pd_1 : parseMethodDescriptor "([C)V" = some ⟨[(.array .char)], none⟩ := by decide +kernel
theorem pd_2 : parseMethodDescriptor "([CI[BII)I" = some ⟨[(.array .char), .int, (.array .byte), .int, .int], some .int⟩ := by decide +kernel
theorem pd_3 : parseMethodDescriptor "([CII)[B" = some ⟨[(.array .char), .int, .int], some (.array .byte)⟩ := by decide +kernel
theorem pd_4 : parseMethodDescriptor "([BI)B" = some ⟨[(.array .byte), .int], some .byte⟩ := by decide +kernel
theorem pd_5 : parseMethodDescriptor "(II)Ljava/lang/String;" = some ⟨[.int, .int], some (.object "java/lang/String")⟩ := by decide +kernel
theorem pd_6 : parseMethodDescriptor "(JI)[B" = some ⟨[.long, .int], some (.array .byte)⟩ := by decide +kernel
theorem pd_7 : parseMethodDescriptor "(Ljava/lang/Object;Ljava/lang/String;)Ljava/lang/Object;" = some ⟨[(.object "java/lang/Object"), (.object "java/lang/String")], some (.object "java/lang/Object")⟩ := by decide +kernel
theorem pd_8 : parseMethodDescriptor "(ILjava/lang/String;Ljava/lang/String;[B)V" = some ⟨[.int, (.object "java/lang/String"), (.object "java/lang/String"), (.array .byte)], none⟩ := by decide +kernel
theorem pd_9 : parseMethodDescriptor "(IIIJI)Lcom/example/seshat/seshat/StoredResponse;" = some ⟨[.int, .int, .int, .long, .int], some (.object "com/example/seshat/seshat/StoredResponse")⟩ := by decide +kernel
theorem pd_10 : parseMethodDescriptor "()V" = some ⟨[], none⟩ := by decide +kernel
theorem pd_11 : parseMethodDescriptor "(I)V" = some ⟨[.int], none⟩ := by decide +kernel
theorem pd_12 : parseMethodDescriptor "(I)Ljava/lang/Integer;" = some ⟨[.int], some (.object "java/lang/Integer")⟩ := by decide +kernel
theorem pd_13 : parseMethodDescriptor "(I[BII)I" = some ⟨[.int, (.array .byte), .int, .int], some .int⟩ := by decide +kernel
theorem pd_14 : parseMethodDescriptor "(Ljava/lang/Object;IIII)I" = some ⟨[(.object "java/lang/Object"), .int, .int, .int, .int], some .int⟩ := by decide +kernel
theorem pd_15 : parseMethodDescriptor "([B)I" = some ⟨[(.array .byte)], some .int⟩ := by decide +kernel
theorem pd_16 : parseMethodDescriptor "(I)I" = some ⟨[.int], some .int⟩ := by decide +kernel
theorem pd_17 : parseMethodDescriptor "()I" = some ⟨[], some .int⟩ := by decide +kernel
theorem pd_18 : parseMethodDescriptor "([Ljava/lang/Object;)I" = some ⟨[(.array (.object "java/lang/Object"))], some .int⟩ := by decide +kernel
theorem pd_19 : parseMethodDescriptor "(Ljava/lang/Object;Ljava/lang/Object;)Z" = some ⟨[(.object "java/lang/Object"), (.object "java/lang/Object")], some .boolean⟩ := by decide +kernel
theorem pd_20 : parseMethodDescriptor "([B[BI)I" = some ⟨[(.array .byte), (.array .byte), .int], some .int⟩ := by decide +kernel
theorem pd_21 : parseMethodDescriptor "([B[B)Z" = some ⟨[(.array .byte), (.array .byte)], some .boolean⟩ := by decide +kernel
theorem pd_22 : parseMethodDescriptor "(Ljava/lang/Object;)Z" = some ⟨[(.object "java/lang/Object")], some .boolean⟩ := by decide +kernel
theorem pd_23 : parseMethodDescriptor "()Z" = some ⟨[], some .boolean⟩ := by decide +kernel
theorem wd_0 : WD (Jvm.Cond.methodLink "com/example/seshat/seshat/StoredResponseHashCodePinLaw" (7 : Nat) ({ cls := "com/example/seshat/seshat/StoredResponseHashCodePinLaw", name := "make", desc := "(IIIJI)Lcom/example/seshat/seshat/StoredResponse;" } : Jvm.MethodName)) := own_wd 0 rfl
theorem wd_1 : WD (Jvm.Cond.static ({ cls := "com/example/seshat/seshat/StoredResponseHashCodePinLaw", name := "make", desc := "(IIIJI)Lcom/example/seshat/seshat/StoredResponse;" } : Jvm.MethodName)) := own_wd 1 rfl
theorem wd_2 : WD (Jvm.Cond.initialized "com/example/seshat/seshat/StoredResponseHashCodePinLaw") := own_wd 2 rfl
theorem wd_3 : WD (Jvm.Cond.code ({ cls := "com/example/seshat/seshat/StoredResponseHashCodePinLaw", name := "make", desc := "(IIIJI)Lcom/example/seshat/seshat/StoredResponse;" } : Jvm.MethodName) method_3_code (9 : Nat) (Option.some (Jvm.ClassFile.FieldType.object kc1))) := own_wd 3 rfl
theorem wd_4 : WD (Jvm.Cond.methodLink "com/example/seshat/seshat/StoredResponseHashCodePinLaw" (23 : Nat) ({ cls := "com/example/seshat/seshat/StoredResponseHashCodePinLaw", name := "text", desc := "(II)Ljava/lang/String;" } : Jvm.MethodName)) := own_wd 4 rfl
theorem wd_5 : WD (Jvm.Cond.static ({ cls := "com/example/seshat/seshat/StoredResponseHashCodePinLaw", name := "text", desc := "(II)Ljava/lang/String;" } : Jvm.MethodName)) := own_wd 5 rfl
theorem wd_6 : WD (Jvm.Cond.code ({ cls := "com/example/seshat/seshat/StoredResponseHashCodePinLaw", name := "text", desc := "(II)Ljava/lang/String;" } : Jvm.MethodName) method_4_code (3 : Nat) (Option.some (Jvm.ClassFile.FieldType.object kc0))) := own_wd 6 rfl
theorem wd_7 : WD (Jvm.Cond.methodLink "com/example/seshat/seshat/StoredResponseHashCodePinLaw" (27 : Nat) ({ cls := "com/example/seshat/seshat/StoredResponseHashCodePinLaw", name := "bytes", desc := "(JI)[B" } : Jvm.MethodName)) := own_wd 7 rfl
theorem wd_8 : WD (Jvm.Cond.static ({ cls := "com/example/seshat/seshat/StoredResponseHashCodePinLaw", name := "bytes", desc := "(JI)[B" } : Jvm.MethodName)) := own_wd 8 rfl
theorem wd_9 : WD (Jvm.Cond.code ({ cls := "com/example/seshat/seshat/StoredResponseHashCodePinLaw", name := "bytes", desc := "(JI)[B" } : Jvm.MethodName) method_5_code (4 : Nat) (Option.some (Jvm.ClassFile.FieldType.array Jvm.ClassFile.FieldType.byte))) := own_wd 9 rfl
theorem wd_10 : WD (Jvm.Cond.arrayClass Jvm.ClassFile.FieldType.byte) := own_wd 10 rfl
theorem wd_11 : WD (Jvm.Cond.classLink "com/example/seshat/seshat/StoredResponseHashCodePinLaw" (14 : Nat) kc1) := own_wd 11 rfl
theorem wd_12 : WD (Jvm.Cond.instantiable kc1 (4 : Nat)) := own_wd 12 rfl
theorem wd_13 : WD (Jvm.Cond.initialized kc1) := own_wd 13 rfl
theorem wd_14 : WD (Jvm.Cond.methodLink "com/example/seshat/seshat/StoredResponseHashCodePinLaw" (31 : Nat) ({ cls := kc1, name := "<init>", desc := "(ILjava/lang/String;Ljava/lang/String;[B)V" } : Jvm.MethodName)) := own_wd 14 rfl
theorem wd_15 : WD (Jvm.Cond.instanceMethod ({ cls := kc1, name := "<init>", desc := "(ILjava/lang/String;Ljava/lang/String;[B)V" } : Jvm.MethodName)) := own_wd 15 rfl
theorem wd_16 : WD (Jvm.Cond.code ({ cls := kc1, name := "<init>", desc := "(ILjava/lang/String;Ljava/lang/String;[B)V" } : Jvm.MethodName) prog_12_method_1_code (5 : Nat) (Option.none : Option Jvm.ClassFile.FieldType)) := own_wd 16 rfl
theorem wd_17 : WD (Jvm.Cond.methodLink kc1 (1 : Nat) ({ cls := kc3, name := "<init>", desc := "()V" } : Jvm.MethodName)) := own_wd 17 rfl
theorem wd_18 : WD (Jvm.Cond.instanceMethod ({ cls := kc3, name := "<init>", desc := "()V" } : Jvm.MethodName)) := own_wd 18 rfl
theorem wd_19 : WD (Jvm.Cond.code ({ cls := kc3, name := "<init>", desc := "()V" } : Jvm.MethodName) object_method_1_code (1 : Nat) (Option.none : Option Jvm.ClassFile.FieldType)) := own_wd 19 rfl
theorem wd_20 : WD (Jvm.Cond.fieldLink kc1 (7 : Nat) kc1 "status" "I") := own_wd 20 rfl
theorem wd_21 : WD (Jvm.Cond.laysFinal kc1 kc1 "status" "I") := own_wd 21 rfl
theorem wd_22 : WD (Jvm.Cond.fieldLink kc1 (13 : Nat) kc1 "contentType" "Ljava/lang/String;") := own_wd 22 rfl
theorem wd_23 : WD (Jvm.Cond.laysFinal kc1 kc1 "contentType" "Ljava/lang/String;") := own_wd 23 rfl
theorem wd_24 : WD (Jvm.Cond.fieldLink kc1 (17 : Nat) kc1 "location" "Ljava/lang/String;") := own_wd 24 rfl
theorem wd_25 : WD (Jvm.Cond.laysFinal kc1 kc1 "location" "Ljava/lang/String;") := own_wd 25 rfl
theorem wd_26 : WD (Jvm.Cond.stringLink kc1 (20 : Nat) "body") := own_wd 26 rfl
theorem wd_27 : WD (Jvm.Cond.initialized kc0) := own_wd 27 rfl
theorem wd_28 : WD (Jvm.Cond.instantiable kc0 (4 : Nat)) := own_wd 28 rfl
theorem wd_29 : WD (Jvm.Cond.laysFinal kc0 kc0 "value" "[B") := own_wd 29 rfl
theorem wd_30 : WD (Jvm.Cond.laysFinal kc0 kc0 "coder" "B") := own_wd 30 rfl
theorem wd_33 : WD (Jvm.Cond.methodLink kc1 (22 : Nat) ({ cls := "java/util/Objects", name := "requireNonNull", desc := "(Ljava/lang/Object;Ljava/lang/String;)Ljava/lang/Object;" } : Jvm.MethodName)) := own_wd 33 rfl
theorem wd_34 : WD (Jvm.Cond.static ({ cls := "java/util/Objects", name := "requireNonNull", desc := "(Ljava/lang/Object;Ljava/lang/String;)Ljava/lang/Object;" } : Jvm.MethodName)) := own_wd 34 rfl
theorem wd_35 : WD (Jvm.Cond.initialized "java/util/Objects") := own_wd 35 rfl
theorem wd_36 : WD (Jvm.Cond.code ({ cls := "java/util/Objects", name := "requireNonNull", desc := "(Ljava/lang/Object;Ljava/lang/String;)Ljava/lang/Object;" } : Jvm.MethodName) jdk_31_method_11_code (2 : Nat) (Option.some (Jvm.ClassFile.FieldType.object kc3))) := own_wd 36 rfl
theorem wd_37 : WD (Jvm.Cond.classLink kc1 (28 : Nat) "[B") := own_wd 37 rfl
theorem wd_39 : WD (Jvm.Cond.methodLink kc1 (30 : Nat) ({ cls := "[B", name := "clone", desc := "()Ljava/lang/Object;" } : Jvm.MethodName)) := own_wd 39 rfl
theorem wd_40 : WD (Jvm.Cond.sameMethod "[B" kc3 "clone" "()Ljava/lang/Object;") := own_wd 40 rfl
theorem wd_42 : WD (Jvm.Cond.instanceMethod ({ cls := kc3, name := "clone", desc := "()Ljava/lang/Object;" } : Jvm.MethodName)) := own_wd 42 rfl
theorem wd_43 : WD (Jvm.Cond.selects "[B" ({ cls := "[B", name := "clone", desc := "()Ljava/lang/Object;" } : Jvm.MethodName) ({ cls := kc3, name := "clone", desc := "()Ljava/lang/Object;" } : Jvm.MethodName)) := own_wd 43 rfl
theorem wd_44 : WD (Jvm.Cond.native ({ cls := kc3, name := "clone", desc := "()Ljava/lang/Object;" } : Jvm.MethodName)) := own_wd 44 rfl
theorem wd_45 : WD (Jvm.Cond.castable "[B" "java/lang/Cloneable") := own_wd 45 rfl
theorem wd_46 : WD (Jvm.Cond.fieldLink kc1 (34 : Nat) kc1 "body" "[B") := own_wd 46 rfl
theorem wd_47 : WD (Jvm.Cond.laysFinal kc1 kc1 "body" "[B") := own_wd 47 rfl
theorem wd_48 : WD (Jvm.Cond.methodLink "com/example/seshat/seshat/StoredResponseHashCodePinLaw" (13 : Nat) ({ cls := kc1, name := "hashCode", desc := "()I" } : Jvm.MethodName)) := own_wd 48 rfl
theorem wd_49 : WD (Jvm.Cond.declares ({ cls := kc1, name := "hashCode", desc := "()I" } : Jvm.MethodName)) := own_wd 49 rfl
theorem wd_50 : WD (Jvm.Cond.instanceMethod ({ cls := kc1, name := "hashCode", desc := "()I" } : Jvm.MethodName)) := own_wd 50 rfl
theorem wd_51 : WD (Jvm.Cond.selects kc1 ({ cls := kc1, name := "hashCode", desc := "()I" } : Jvm.MethodName) ({ cls := kc1, name := "hashCode", desc := "()I" } : Jvm.MethodName)) := own_wd 51 rfl
theorem wd_52 : WD (Jvm.Cond.code ({ cls := kc1, name := "hashCode", desc := "()I" } : Jvm.MethodName) prog_12_method_7_code (1 : Nat) (Option.some Jvm.ClassFile.FieldType.int)) := own_wd 52 rfl
theorem wd_53 : WD (Jvm.Cond.classLink kc1 (2 : Nat) kc3) := own_wd 53 rfl
theorem wd_54 : WD (Jvm.Cond.arrayOver (Jvm.ClassFile.FieldType.object kc3)) := own_wd 54 rfl
theorem wd_55 : WD (Jvm.Cond.methodLink kc1 (45 : Nat) ({ cls := kc2, name := "valueOf", desc := "(I)Ljava/lang/Integer;" } : Jvm.MethodName)) := own_wd 55 rfl
theorem wd_56 : WD (Jvm.Cond.static ({ cls := kc2, name := "valueOf", desc := "(I)Ljava/lang/Integer;" } : Jvm.MethodName)) := own_wd 56 rfl
theorem wd_57 : WD (Jvm.Cond.initialized kc2) := own_wd 57 rfl
theorem wd_58 : WD (Jvm.Cond.code ({ cls := kc2, name := "valueOf", desc := "(I)Ljava/lang/Integer;" } : Jvm.MethodName) jdk_33_method_22_code (1 : Nat) (Option.some (Jvm.ClassFile.FieldType.object kc2))) := own_wd 58 rfl
theorem wd_59 : WD (Jvm.Cond.fieldLink kc2 (191 : Nat) kc4 "high" "I") := own_wd 59 rfl
theorem wd_60 : WD (Jvm.Cond.initialized kc4) := own_wd 60 rfl
theorem wd_61 : WD (Jvm.Cond.fieldLink kc2 (195 : Nat) kc4 "cache" "[Ljava/lang/Integer;") := own_wd 61 rfl
theorem wd_62 : WD (Jvm.Cond.castable kc2 kc3) := own_wd 62 rfl
theorem wd_63 : WD (Jvm.Cond.methodLink kc1 (51 : Nat) ({ cls := "java/util/Arrays", name := "hashCode", desc := "([B)I" } : Jvm.MethodName)) := own_wd 63 rfl
theorem wd_64 : WD (Jvm.Cond.static ({ cls := "java/util/Arrays", name := "hashCode", desc := "([B)I" } : Jvm.MethodName)) := own_wd 64 rfl
theorem wd_65 : WD (Jvm.Cond.initialized "java/util/Arrays") := own_wd 65 rfl
theorem wd_66 : WD (Jvm.Cond.code ({ cls := "java/util/Arrays", name := "hashCode", desc := "([B)I" } : Jvm.MethodName) jdk_65_method_153_code (1 : Nat) (Option.some Jvm.ClassFile.FieldType.int)) := own_wd 66 rfl
theorem wd_67 : WD (Jvm.Cond.methodLink kc1 (55 : Nat) ({ cls := "java/util/Objects", name := "hash", desc := "([Ljava/lang/Object;)I" } : Jvm.MethodName)) := own_wd 67 rfl
theorem wd_68 : WD (Jvm.Cond.static ({ cls := "java/util/Objects", name := "hash", desc := "([Ljava/lang/Object;)I" } : Jvm.MethodName)) := own_wd 68 rfl
theorem wd_69 : WD (Jvm.Cond.code ({ cls := "java/util/Objects", name := "hash", desc := "([Ljava/lang/Object;)I" } : Jvm.MethodName) jdk_31_method_5_code (1 : Nat) (Option.some Jvm.ClassFile.FieldType.int)) := own_wd 69 rfl
theorem wd_70 : WD (Jvm.Cond.methodLink "java/util/Objects" (28 : Nat) ({ cls := "java/util/Arrays", name := "hashCode", desc := "([Ljava/lang/Object;)I" } : Jvm.MethodName)) := own_wd 70 rfl
theorem wd_71 : WD (Jvm.Cond.static ({ cls := "java/util/Arrays", name := "hashCode", desc := "([Ljava/lang/Object;)I" } : Jvm.MethodName)) := own_wd 71 rfl
theorem wd_72 : WD (Jvm.Cond.code ({ cls := "java/util/Arrays", name := "hashCode", desc := "([Ljava/lang/Object;)I" } : Jvm.MethodName) jdk_65_method_157_code (6 : Nat) (Option.some Jvm.ClassFile.FieldType.int)) := own_wd 72 rfl
theorem wd_73 : WD (Jvm.Cond.methodLink "java/util/Arrays" (383 : Nat) ({ cls := kc3, name := "hashCode", desc := "()I" } : Jvm.MethodName)) := own_wd 73 rfl
theorem wd_74 : WD (Jvm.Cond.declares ({ cls := kc3, name := "hashCode", desc := "()I" } : Jvm.MethodName)) := own_wd 74 rfl
theorem wd_76 : WD (Jvm.Cond.selects kc2 ({ cls := kc3, name := "hashCode", desc := "()I" } : Jvm.MethodName) ({ cls := kc2, name := "hashCode", desc := "()I" } : Jvm.MethodName)) := own_wd 76 rfl
theorem wd_77 : WD (Jvm.Cond.instanceMethod ({ cls := kc2, name := "hashCode", desc := "()I" } : Jvm.MethodName)) := own_wd 77 rfl
theorem wd_78 : WD (Jvm.Cond.code ({ cls := kc2, name := "hashCode", desc := "()I" } : Jvm.MethodName) jdk_33_method_32_code (1 : Nat) (Option.some Jvm.ClassFile.FieldType.int)) := own_wd 78 rfl
theorem wd_79 : WD (Jvm.Cond.fieldLink kc2 (205 : Nat) kc2 "value" "I") := own_wd 79 rfl
theorem wd_80 : WD (Jvm.Cond.laysFinal kc2 kc2 "value" "I") := own_wd 80 rfl
theorem wd_81 : WD (Jvm.Cond.methodLink kc2 (208 : Nat) ({ cls := kc2, name := "hashCode", desc := "(I)I" } : Jvm.MethodName)) := own_wd 81 rfl
theorem wd_82 : WD (Jvm.Cond.static ({ cls := kc2, name := "hashCode", desc := "(I)I" } : Jvm.MethodName)) := own_wd 82 rfl
theorem wd_83 : WD (Jvm.Cond.code ({ cls := kc2, name := "hashCode", desc := "(I)I" } : Jvm.MethodName) jdk_33_method_33_code (1 : Nat) (Option.some Jvm.ClassFile.FieldType.int)) := own_wd 83 rfl
theorem wd_84 : WD (Jvm.Cond.methodLink "com/example/seshat/seshat/StoredResponseHashCodePinLaw" (19 : Nat) ({ cls := kc1, name := "equals", desc := "(Ljava/lang/Object;)Z" } : Jvm.MethodName)) := own_wd 84 rfl
theorem wd_85 : WD (Jvm.Cond.declares ({ cls := kc1, name := "equals", desc := "(Ljava/lang/Object;)Z" } : Jvm.MethodName)) := own_wd 85 rfl
theorem wd_86 : WD (Jvm.Cond.instanceMethod ({ cls := kc1, name := "equals", desc := "(Ljava/lang/Object;)Z" } : Jvm.MethodName)) := own_wd 86 rfl
theorem wd_87 : WD (Jvm.Cond.selects kc1 ({ cls := kc1, name := "equals", desc := "(Ljava/lang/Object;)Z" } : Jvm.MethodName) ({ cls := kc1, name := "equals", desc := "(Ljava/lang/Object;)Z" } : Jvm.MethodName)) := own_wd 87 rfl
theorem wd_88 : WD (Jvm.Cond.code ({ cls := kc1, name := "equals", desc := "(Ljava/lang/Object;)Z" } : Jvm.MethodName) prog_12_method_6_code (3 : Nat) (Option.some Jvm.ClassFile.FieldType.boolean)) := own_wd 88 rfl
theorem wd_89 : WD (Jvm.Cond.classLink kc1 (8 : Nat) kc1) := own_wd 89 rfl
theorem wd_91 : WD (Jvm.Cond.methodLink kc1 (36 : Nat) ({ cls := "java/util/Objects", name := "equals", desc := "(Ljava/lang/Object;Ljava/lang/Object;)Z" } : Jvm.MethodName)) := own_wd 91 rfl
theorem wd_92 : WD (Jvm.Cond.static ({ cls := "java/util/Objects", name := "equals", desc := "(Ljava/lang/Object;Ljava/lang/Object;)Z" } : Jvm.MethodName)) := own_wd 92 rfl
theorem wd_93 : WD (Jvm.Cond.code ({ cls := "java/util/Objects", name := "equals", desc := "(Ljava/lang/Object;Ljava/lang/Object;)Z" } : Jvm.MethodName) jdk_31_method_2_code (2 : Nat) (Option.some Jvm.ClassFile.FieldType.boolean)) := own_wd 93 rfl
theorem wd_94 : WD (Jvm.Cond.methodLink kc1 (40 : Nat) ({ cls := "java/util/Arrays", name := "equals", desc := "([B[B)Z" } : Jvm.MethodName)) := own_wd 94 rfl
theorem wd_95 : WD (Jvm.Cond.static ({ cls := "java/util/Arrays", name := "equals", desc := "([B[B)Z" } : Jvm.MethodName)) := own_wd 95 rfl
theorem wd_96 : WD (Jvm.Cond.code ({ cls := "java/util/Arrays", name := "equals", desc := "([B[B)Z" } : Jvm.MethodName) jdk_65_method_89_code (3 : Nat) (Option.some Jvm.ClassFile.FieldType.boolean)) := own_wd 96 rfl
theorem wd_97 : WD (Jvm.Cond.methodLink "java/util/Arrays" (272 : Nat) ({ cls := "jdk/internal/util/ArraysSupport", name := "mismatch", desc := "([B[BI)I" } : Jvm.MethodName)) := own_wd 97 rfl
theorem wd_98 : WD (Jvm.Cond.static ({ cls := "jdk/internal/util/ArraysSupport", name := "mismatch", desc := "([B[BI)I" } : Jvm.MethodName)) := own_wd 98 rfl
theorem wd_99 : WD (Jvm.Cond.initialized "jdk/internal/util/ArraysSupport") := own_wd 99 rfl
theorem wd_100 : WD (Jvm.Cond.code ({ cls := "jdk/internal/util/ArraysSupport", name := "mismatch", desc := "([B[BI)I" } : Jvm.MethodName) jdk_48_method_13_code (4 : Nat) (Option.some Jvm.ClassFile.FieldType.int)) := own_wd 100 rfl
theorem wd_101 : WD (Jvm.Cond.arrayClass Jvm.ClassFile.FieldType.char) := own_wd 101 rfl
theorem wd_102 : WD (Jvm.Cond.classLink "com/example/seshat/seshat/StoredResponseHashCodePinLaw" (34 : Nat) kc0) := own_wd 102 rfl
theorem wd_103 : WD (Jvm.Cond.methodLink "com/example/seshat/seshat/StoredResponseHashCodePinLaw" (36 : Nat) ({ cls := kc0, name := "<init>", desc := "([C)V" } : Jvm.MethodName)) := own_wd 103 rfl
theorem wd_104 : WD (Jvm.Cond.instanceMethod ({ cls := kc0, name := "<init>", desc := "([C)V" } : Jvm.MethodName)) := own_wd 104 rfl
theorem wd_105 : WD (Jvm.Cond.code ({ cls := kc0, name := "<init>", desc := "([C)V" } : Jvm.MethodName) jdk_42_method_3_code (2 : Nat) (Option.none : Option Jvm.ClassFile.FieldType)) := own_wd 105 rfl
theorem wd_106 : WD (Jvm.Cond.methodLink kc0 (27 : Nat) ({ cls := kc0, name := "<init>", desc := "([CIILjava/lang/Void;)V" } : Jvm.MethodName)) := own_wd 106 rfl
theorem wd_107 : WD (Jvm.Cond.instanceMethod ({ cls := kc0, name := "<init>", desc := "([CIILjava/lang/Void;)V" } : Jvm.MethodName)) := own_wd 107 rfl
theorem wd_109 : WD (Jvm.Cond.code ({ cls := kc0, name := "<init>", desc := "([CIILjava/lang/Void;)V" } : Jvm.MethodName) jdk_42_method_149_code (6 : Nat) (Option.none : Option Jvm.ClassFile.FieldType)) := own_wd 109 rfl
theorem wd_110 : WD (Jvm.Cond.methodLink kc0 (1 : Nat) ({ cls := kc3, name := "<init>", desc := "()V" } : Jvm.MethodName)) := own_wd 110 rfl
theorem wd_111 : WD (Jvm.Cond.fieldLink kc0 (38 : Nat) kc0 "COMPACT_STRINGS" "Z") := own_wd 111 rfl
theorem wd_112 : WD (Jvm.Cond.methodLink kc0 (177 : Nat) ({ cls := "java/lang/StringUTF16", name := "compress", desc := "([CII)[B" } : Jvm.MethodName)) := own_wd 112 rfl
theorem wd_113 : WD (Jvm.Cond.static ({ cls := "java/lang/StringUTF16", name := "compress", desc := "([CII)[B" } : Jvm.MethodName)) := own_wd 113 rfl
theorem wd_114 : WD (Jvm.Cond.initialized "java/lang/StringUTF16") := own_wd 114 rfl
theorem wd_115 : WD (Jvm.Cond.code ({ cls := "java/lang/StringUTF16", name := "compress", desc := "([CII)[B" } : Jvm.MethodName) jdk_52_method_16_code (6 : Nat) (Option.some (Jvm.ClassFile.FieldType.array Jvm.ClassFile.FieldType.byte))) := own_wd 115 rfl
theorem wd_116 : WD (Jvm.Cond.methodLink "java/lang/StringUTF16" (115 : Nat) ({ cls := "java/lang/StringUTF16", name := "compress", desc := "([CI[BII)I" } : Jvm.MethodName)) := own_wd 116 rfl
theorem wd_117 : WD (Jvm.Cond.static ({ cls := "java/lang/StringUTF16", name := "compress", desc := "([CI[BII)I" } : Jvm.MethodName)) := own_wd 117 rfl
theorem wd_118 : WD (Jvm.Cond.code ({ cls := "java/lang/StringUTF16", name := "compress", desc := "([CI[BII)I" } : Jvm.MethodName) jdk_52_method_21_code (7 : Nat) (Option.some Jvm.ClassFile.FieldType.int)) := own_wd 118 rfl
theorem wd_119 : WD (Jvm.Cond.methodLink kc0 (47 : Nat) ({ cls := "java/lang/StringUTF16", name := "coderFromArrayLen", desc := "([BI)B" } : Jvm.MethodName)) := own_wd 119 rfl
theorem wd_120 : WD (Jvm.Cond.static ({ cls := "java/lang/StringUTF16", name := "coderFromArrayLen", desc := "([BI)B" } : Jvm.MethodName)) := own_wd 120 rfl
theorem wd_121 : WD (Jvm.Cond.code ({ cls := "java/lang/StringUTF16", name := "coderFromArrayLen", desc := "([BI)B" } : Jvm.MethodName) jdk_52_method_15_code (2 : Nat) (Option.some Jvm.ClassFile.FieldType.byte)) := own_wd 121 rfl
theorem wd_122 : WD (Jvm.Cond.fieldLink kc0 (15 : Nat) kc0 "coder" "B") := own_wd 122 rfl
theorem wd_123 : WD (Jvm.Cond.fieldLink kc0 (9 : Nat) kc0 "value" "[B") := own_wd 123 rfl
theorem wd_124 : WD (Jvm.Cond.castable kc0 kc3) := own_wd 124 rfl
theorem wd_125 : WD (Jvm.Cond.selects kc0 ({ cls := kc3, name := "hashCode", desc := "()I" } : Jvm.MethodName) ({ cls := kc0, name := "hashCode", desc := "()I" } : Jvm.MethodName)) := own_wd 125 rfl
theorem wd_126 : WD (Jvm.Cond.instanceMethod ({ cls := kc0, name := "hashCode", desc := "()I" } : Jvm.MethodName)) := own_wd 126 rfl
theorem wd_127 : WD (Jvm.Cond.code ({ cls := kc0, name := "hashCode", desc := "()I" } : Jvm.MethodName) jdk_42_method_78_code (2 : Nat) (Option.some Jvm.ClassFile.FieldType.int)) := own_wd 127 rfl
theorem wd_128 : WD (Jvm.Cond.fieldLink kc0 (19 : Nat) kc0 "hash" "I") := own_wd 128 rfl
theorem wd_129 : WD (Jvm.Cond.lays kc0 kc0 "hash" "I") := own_wd 129 rfl
theorem wd_130 : WD (Jvm.Cond.fieldLink kc0 (23 : Nat) kc0 "hashIsZero" "Z") := own_wd 130 rfl
theorem wd_131 : WD (Jvm.Cond.lays kc0 kc0 "hashIsZero" "Z") := own_wd 131 rfl
theorem wd_132 : WD (Jvm.Cond.methodLink kc0 (492 : Nat) ({ cls := kc0, name := "isLatin1", desc := "()Z" } : Jvm.MethodName)) := own_wd 132 rfl
theorem wd_133 : WD (Jvm.Cond.declares ({ cls := kc0, name := "isLatin1", desc := "()Z" } : Jvm.MethodName)) := own_wd 133 rfl
theorem wd_134 : WD (Jvm.Cond.instanceMethod ({ cls := kc0, name := "isLatin1", desc := "()Z" } : Jvm.MethodName)) := own_wd 134 rfl
theorem wd_135 : WD (Jvm.Cond.selects kc0 ({ cls := kc0, name := "isLatin1", desc := "()Z" } : Jvm.MethodName) ({ cls := kc0, name := "isLatin1", desc := "()Z" } : Jvm.MethodName)) := own_wd 135 rfl
theorem wd_136 : WD (Jvm.Cond.code ({ cls := kc0, name := "isLatin1", desc := "()Z" } : Jvm.MethodName) jdk_42_method_154_code (1 : Nat) (Option.some Jvm.ClassFile.FieldType.boolean)) := own_wd 136 rfl
theorem wd_137 : WD (Jvm.Cond.methodLink kc0 (628 : Nat) ({ cls := "java/lang/StringLatin1", name := "hashCode", desc := "([B)I" } : Jvm.MethodName)) := own_wd 137 rfl
theorem wd_138 : WD (Jvm.Cond.static ({ cls := "java/lang/StringLatin1", name := "hashCode", desc := "([B)I" } : Jvm.MethodName)) := own_wd 138 rfl
theorem wd_139 : WD (Jvm.Cond.initialized "java/lang/StringLatin1") := own_wd 139 rfl
theorem wd_140 : WD (Jvm.Cond.code ({ cls := "java/lang/StringLatin1", name := "hashCode", desc := "([B)I" } : Jvm.MethodName) jdk_43_method_21_code (1 : Nat) (Option.some Jvm.ClassFile.FieldType.int)) := own_wd 140 rfl
theorem wd_141 : WD (Jvm.Cond.methodLink "java/lang/StringLatin1" (84 : Nat) ({ cls := "jdk/internal/util/ArraysSupport", name := "vectorizedHashCode", desc := "(Ljava/lang/Object;IIII)I" } : Jvm.MethodName)) := own_wd 141 rfl
theorem wd_142 : WD (Jvm.Cond.static ({ cls := "jdk/internal/util/ArraysSupport", name := "vectorizedHashCode", desc := "(Ljava/lang/Object;IIII)I" } : Jvm.MethodName)) := own_wd 142 rfl
theorem wd_143 : WD (Jvm.Cond.code ({ cls := "jdk/internal/util/ArraysSupport", name := "vectorizedHashCode", desc := "(Ljava/lang/Object;IIII)I" } : Jvm.MethodName) jdk_48_method_4_code (5 : Nat) (Option.some Jvm.ClassFile.FieldType.int)) := own_wd 143 rfl
theorem wd_144 : WD (Jvm.Cond.classLink "jdk/internal/util/ArraysSupport" (60 : Nat) "[B") := own_wd 144 rfl
theorem wd_145 : WD (Jvm.Cond.methodLink "jdk/internal/util/ArraysSupport" (62 : Nat) ({ cls := "jdk/internal/util/ArraysSupport", name := "signedHashCode", desc := "(I[BII)I" } : Jvm.MethodName)) := own_wd 145 rfl
theorem wd_146 : WD (Jvm.Cond.static ({ cls := "jdk/internal/util/ArraysSupport", name := "signedHashCode", desc := "(I[BII)I" } : Jvm.MethodName)) := own_wd 146 rfl
theorem wd_147 : WD (Jvm.Cond.code ({ cls := "jdk/internal/util/ArraysSupport", name := "signedHashCode", desc := "(I[BII)I" } : Jvm.MethodName) jdk_48_method_5_code (6 : Nat) (Option.some Jvm.ClassFile.FieldType.int)) := own_wd 147 rfl
theorem wd_148 : WD (Jvm.Cond.methodLink "java/util/Objects" (14 : Nat) ({ cls := kc3, name := "equals", desc := "(Ljava/lang/Object;)Z" } : Jvm.MethodName)) := own_wd 148 rfl
theorem wd_149 : WD (Jvm.Cond.declares ({ cls := kc3, name := "equals", desc := "(Ljava/lang/Object;)Z" } : Jvm.MethodName)) := own_wd 149 rfl
theorem wd_151 : WD (Jvm.Cond.selects kc0 ({ cls := kc3, name := "equals", desc := "(Ljava/lang/Object;)Z" } : Jvm.MethodName) ({ cls := kc0, name := "equals", desc := "(Ljava/lang/Object;)Z" } : Jvm.MethodName)) := own_wd 151 rfl
theorem wd_152 : WD (Jvm.Cond.instanceMethod ({ cls := kc0, name := "equals", desc := "(Ljava/lang/Object;)Z" } : Jvm.MethodName)) := own_wd 152 rfl
theorem wd_153 : WD (Jvm.Cond.code ({ cls := kc0, name := "equals", desc := "(Ljava/lang/Object;)Z" } : Jvm.MethodName) jdk_42_method_66_code (3 : Nat) (Option.some Jvm.ClassFile.FieldType.boolean)) := own_wd 153 rfl
theorem wd_154 : WD (Jvm.Cond.classLink kc0 (10 : Nat) kc0) := own_wd 154 rfl
theorem wd_155 : WD (Jvm.Cond.methodLink kc0 (541 : Nat) ({ cls := "java/lang/StringLatin1", name := "equals", desc := "([B[B)Z" } : Jvm.MethodName)) := own_wd 155 rfl
theorem wd_156 : WD (Jvm.Cond.static ({ cls := "java/lang/StringLatin1", name := "equals", desc := "([B[B)Z" } : Jvm.MethodName)) := own_wd 156 rfl
theorem wd_157 : WD (Jvm.Cond.code ({ cls := "java/lang/StringLatin1", name := "equals", desc := "([B[B)Z" } : Jvm.MethodName) jdk_43_method_13_code (3 : Nat) (Option.some Jvm.ClassFile.FieldType.boolean)) := own_wd 157 rfl
theorem wd_158 : WD (Jvm.Cond.stringLink kc0 (7 : Nat) "") := own_wd 158 rfl
theorem wd_159 : WD (Jvm.Cond.classLink kc2 (1 : Nat) kc2) := own_wd 159 rfl
theorem wd_160 : WD (Jvm.Cond.instantiable kc2 (1 : Nat)) := own_wd 160 rfl
theorem wd_161 : WD (Jvm.Cond.methodLink kc2 (199 : Nat) ({ cls := kc2, name := "<init>", desc := "(I)V" } : Jvm.MethodName)) := own_wd 161 rfl
theorem wd_162 : WD (Jvm.Cond.instanceMethod ({ cls := kc2, name := "<init>", desc := "(I)V" } : Jvm.MethodName)) := own_wd 162 rfl
theorem wd_164 : WD (Jvm.Cond.code ({ cls := kc2, name := "<init>", desc := "(I)V" } : Jvm.MethodName) jdk_33_method_23_code (2 : Nat) (Option.none : Option Jvm.ClassFile.FieldType)) := own_wd 164 rfl
theorem wd_165 : WD (Jvm.Cond.methodLink kc2 (202 : Nat) ({ cls := "java/lang/Number", name := "<init>", desc := "()V" } : Jvm.MethodName)) := own_wd 165 rfl
theorem wd_166 : WD (Jvm.Cond.instanceMethod ({ cls := "java/lang/Number", name := "<init>", desc := "()V" } : Jvm.MethodName)) := own_wd 166 rfl
theorem wd_169 : WD (Jvm.Cond.initialized "java/lang/Number") := own_wd 169 rfl
theorem wd_170 : WD (Jvm.Cond.code ({ cls := "java/lang/Number", name := "<init>", desc := "()V" } : Jvm.MethodName) jdk_18_method_1_code (1 : Nat) (Option.none : Option Jvm.ClassFile.FieldType)) := own_wd 170 rfl
theorem wd_171 : WD (Jvm.Cond.methodLink "java/lang/Number" (1 : Nat) ({ cls := kc3, name := "<init>", desc := "()V" } : Jvm.MethodName)) := own_wd 171 rfl
theorem wd_172 : WD (Jvm.Cond.methodLink "java/util/Arrays" (379 : Nat) ({ cls := "jdk/internal/util/ArraysSupport", name := "vectorizedHashCode", desc := "(Ljava/lang/Object;IIII)I" } : Jvm.MethodName)) := own_wd 172 rfl
theorem wd_173 : WD (Jvm.Cond.methodLink "jdk/internal/util/ArraysSupport" (75 : Nat) ({ cls := "jdk/internal/util/ArraysSupport", name := "hashCode", desc := "(I[BII)I" } : Jvm.MethodName)) := own_wd 173 rfl
theorem wd_174 : WD (Jvm.Cond.static ({ cls := "jdk/internal/util/ArraysSupport", name := "hashCode", desc := "(I[BII)I" } : Jvm.MethodName)) := own_wd 174 rfl
theorem wd_175 : WD (Jvm.Cond.code ({ cls := "jdk/internal/util/ArraysSupport", name := "hashCode", desc := "(I[BII)I" } : Jvm.MethodName) jdk_48_method_6_code (6 : Nat) (Option.some Jvm.ClassFile.FieldType.int)) := own_wd 175 rfl
theorem own_EW {Z : State} {a0 : Array Value} (hw : ∀ d ∈ tables_1, d.before a0 Z = true) : EW Z a0 EL := (EW.cons (wd_26 hw) (by decide +kernel) (EW.cons (wd_158 hw) (by decide +kernel) EW.nil))
theorem own_wS {Z : State} {a0 : Array Value} (hw : ∀ d ∈ tables_1, d.before a0 Z = true) : ∀ d ∈ Bundle.stringAtoms, d.before a0 Z = true := fun d hd => hw d ((by decide +kernel : ∀ d ∈ Bundle.stringAtoms, d ∈ tables_1) d hd)
theorem ef_m19_10 (m : MethodId) (a0 : Addr) (a1 : Addr)  : entryFrame m #[(.ref a0), (.ref a1), (.int (0 : Int32)), (.int (0 : Int32)), .null] 6 = mkF m 0 #[.val (.ref a0), .val (.ref a1), .val (.int (0 : Int32)), .val (.int (0 : Int32)), .val .null, .unset] [] := by first | (simp [entryFrame, mkF, argsToLocals, Value.category]; done) | rfl
def Q_m19_10 (Z : State) (a0 : Addr) (a1 : Addr) (h0 : Heap) (n0 : Nat) (v : Option Value) (h : Heap) (L : List Loc) (S : Addr → Prop) : Prop := ∃ (r0 : Addr) (c0 : ClassId), v = none ∧ Fr n0 L ∧ Keep h0 h [a0] ∧ Arv Z h r0 c0 .byte (0 : Int32) [] (.int (0 : Int32)) ∧ Exa Z h a0 kc0 ∧ Fld Z h a0 kc0 "value" "[B" (.ref r0) ∧ Fld Z h a0 kc0 "coder" "B" (.int (0 : Int32)) ∧ Fld Z h a0 kc0 "hash" "I" (.int (0 : Int32)) ∧ Fld Z h a0 kc0 "hashIsZero" "Z" (.int (0 : Int32))
theorem rm_m19_10 (l : Launch) (Z : State) (aZ : Array Value) (hw : ∀ d ∈ tables_1, d.before aZ Z = true) (ws : List Jvm.Cond) (a0 : Addr) (a1 : Addr) (h0 : Heap) (n0 : Nat) (Z0 : n0 ≤ h0.size) (E_a0 : Exa Z h0 a0 kc0) (zz0 : Fld Z h0 a0 kc0 "value" "[B" .null) (zz1 : n0 ≤ a0) (zz2 : Fld Z h0 a0 kc0 "coder" "B" (.int (0 : Int32))) (zz3 : Fld Z h0 a0 kc0 "hash" "I" (.int (0 : Int32))) (zz4 : Fld Z h0 a0 kc0 "hashIsZero" "Z" (.int (0 : Int32))) :
    MetH l Z EL yn_19 jdk_42_method_149_code 6 none ws ({ frames := 1, cells := 4, slots := 8, locals := 12 } : Room) #[(.ref a0), (.ref a1), (.int (0 : Int32)), (.int (0 : Int32)), .null] h0 (Q_m19_10 Z a0 a1 h0 n0) [a0] := by
 refine MetH.of (plainFor_of_name pn_0) ?_
 intro p e s m below meth c s₁ hret hx hby hml hown hnm hlk hZ X0 e0 hh hH hsf hS0 C0
 have N0 := Fr.nil n0
 rw [ef_m19_10 m a0 a1]
 refine w_aloadN X0 hx (d19_0 hby) rfl rfl (pc' := 1) rfl ?_
 refine w_initO X0 hx 0 hZ hown (wd_110 hw) (wd_18 hw) (wd_19 hw) e0 (by rw [hml]; rfl) (d19_1 hby) (by decide) (Nat.le_of_eq rfl) (by decide) (pc' := 4) rfl ?_
 intro T20 X20 e20
 refine w_iloadN X20 hx (d19_4 hby) rfl (pc' := 5) rfl ?_
 refine w_ifN X20 hx (d19_5 hby) (teq (by decide : (0 : Int32) = (0 : Int32))).2 (pc' := 8) rfl ?_
 refine w_aloadN X20 hx (d19_8 hby) rfl rfl (pc' := 9) rfl ?_
 obtain ⟨a21, T21, h21, k21, b21, c21, X21, e21, E21, hS21, hk21, hZ21, hown21, gE21, gC21, gV21, gA21, lt21, ltb21, A21, -, ns21, st21⟩ := ldcCH X20 hx hZ hown (wd_158 hw) (own_wS hw) e20 hS0 (Nat.le_refl _) (own_EW hw) (by simp [EL, x]) C0.1 (vs := []) (z := (0 : Int32)) (by decide +kernel) (by decide) (by decide) (g := (mkF m 9 #[.val (.ref a0), .val (.ref a1), .val (.int (0 : Int32)), .val (.int (0 : Int32)), .val .null, .unset] [(.ref a0)])) rfl (d19_9 hby) (n := 0) (by decide +kernel) (by decide) (by decide) (by decide)
 refine Runs.by ?_ st21
 have C22 : CHr Z EL s.vm h0 T21.vm h21 := C0.trans A21
 have K23 : Keep h0 h21 [a0] := (Keep.refl h0 [a0]).ext E21
 show Runs _ _ _ _ (T21.setTop (mkF m 11 #[.val (.ref a0), .val (.ref a1), .val (.int (0 : Int32)), .val (.int (0 : Int32)), .val .null, .unset] [(.ref a21), (.ref a0)]))
 refine w_getF X21 hx "" hZ21 hown21 (Or.inl (wd_123 hw)) Via.refl e21 gV21 (d19_11 hby) (pc' := 14) rfl ?_
 intro T24 X24 e24
 have f25 : Exa Z h21 a0 kc0 := (E_a0.ext E21)
 have f26 : Fld Z h21 a0 kc0 "value" "[B" .null := (zz0.ext E21)
 refine w_putF X24 hx "" hZ21 hown21 (Or.inl (wd_123 hw)) Via.refl e24 f26 f25 (Or.inr ⟨(wd_29 hw), rfl, hnm⟩) (wd_28 hw) (ty := (.array .byte)) (by decide) rfl rfl (d19_14 hby) (pc' := 17) rfl ?_
 intro T27 h27 X27 e27 W27
 have y28 : Safe Z EL T21.vm h21 a0 := (CHr.safe A21 (Nat.lt_of_lt_of_le E_a0.lt (Nat.le_refl _)) (hsf a0 (by simp)))
 have C29 : CHr Z EL s.vm h0 T21.vm h27 := C22.trans (CHr.wr W27 y28 C22.1)
 have f30 : Fld Z h27 a0 kc0 "value" "[B" (.ref b21) := f26.same W27
 have K31 : Keep h0 h27 [a0] := K23.wr W27 (Or.inl (by simp))
 have N32 := Fr.snoc X27 N0 zz1
 refine w_aloadN X27 hx (d19_17 hby) rfl rfl (pc' := 18) rfl ?_
 obtain ⟨a33, T33, h33, k33, b33, c33, X33, e33, E33, hS33, hk33, hZ33, hown33, gE33, gC33, gV33, gA33, lt33, ltb33, A33, -, ns33, st33⟩ := ldcCH X27 hx hZ21 hown21 (wd_158 hw) (own_wS hw) e27 hS21 (Nat.le_trans hk21 (Keep.of_wr W27).1) (own_EW hw) (by simp [EL, x]) C29.1 (vs := []) (z := (0 : Int32)) (by decide +kernel) (by decide) (by decide) (g := (mkF m 18 #[.val (.ref a0), .val (.ref a1), .val (.int (0 : Int32)), .val (.int (0 : Int32)), .val .null, .unset] [(.ref a0)])) rfl (d19_18 hby) (n := 0) (by decide +kernel) (by decide) (by decide) (by decide)
 refine Runs.by ?_ st33
 have C34 : CHr Z EL s.vm h0 T33.vm h33 := C29.trans A33
 have K35 : Keep h0 h33 [a0] := K31.ext E33
 show Runs _ _ _ _ (T33.setTop (mkF m 20 #[.val (.ref a0), .val (.ref a1), .val (.int (0 : Int32)), .val (.int (0 : Int32)), .val .null, .unset] [(.ref a33), (.ref a0)]))
 refine w_getF X33 hx "" hZ33 hown33 (Or.inl (wd_122 hw)) Via.refl e33 gC33 (d19_20 hby) (pc' := 23) rfl ?_
 intro T36 X36 e36
 have f37 : Exa Z h33 a0 kc0 := ((f25.wr W27).ext E33)
 have f38 : Fld Z h33 a0 kc0 "coder" "B" (.int (0 : Int32)) := (((zz2.ext E21).other W27 (Or.inr (slot_ne (Or.inr (wd_30 hw)) (Or.inr (wd_29 hw)) (by decide) (t := .byte) (t' := (.array .byte)) (by decide) (by decide)))).ext E33)
 refine w_putF X36 hx "" hZ33 hown33 (Or.inl (wd_122 hw)) Via.refl e36 f38 f37 (Or.inr ⟨(wd_30 hw), rfl, hnm⟩) (wd_28 hw) (ty := .byte) (by decide) rfl rfl (d19_23 hby) (pc' := 26) rfl ?_
 intro T39 h39 X39 e39 W39
 have le40 : h0.size ≤ h27.size := (Nat.le_trans E21.1 (Keep.of_wr W27).1)
 have y41 : Safe Z EL T33.vm h33 a0 := (CHr.safe A33 (Nat.lt_of_lt_of_le E_a0.lt le40) (Safe.wr W27 y28 C22.1 y28))
 have C42 : CHr Z EL s.vm h0 T33.vm h39 := C34.trans (CHr.wr W39 y41 C34.1)
 have f43 : Fld Z h39 a0 kc0 "coder" "B" (.int (0 : Int32)) := f38.same W39
 have K44 : Keep h0 h39 [a0] := K35.wr W39 (Or.inl (by simp))
 have N45 := Fr.snoc X39 N32 zz1
 have ne46 : a0 ≠ b21 := (ns21 a0 (CHr.safe A21 (Nat.lt_of_lt_of_le E_a0.lt (Nat.le_refl _)) (hsf a0 (by simp)))).2
 have f47 : Arv Z h39 b21 c21 .byte (0 : Int32) [] (.int (0 : Int32)) := (((gA21.other W27 (Ne.symm ne46)).ext E33).other W39 (Ne.symm ne46))
 have f48 : Exa Z h39 a0 kc0 := (f37.wr W39)
 have f49 : Fld Z h39 a0 kc0 "value" "[B" (.ref b21) := ((f30.ext E33).other W39 (Or.inr (slot_ne (Or.inr (wd_29 hw)) (Or.inr (wd_30 hw)) (by decide) (t := (.array .byte)) (t' := .byte) (by decide) (by decide))))
 have f50 : Fld Z h39 a0 kc0 "hash" "I" (.int (0 : Int32)) := ((((zz3.ext E21).other W27 (Or.inr (slot_ne (Or.inl (wd_129 hw)) (Or.inr (wd_29 hw)) (by decide) (t := .int) (t' := (.array .byte)) (by decide) (by decide)))).ext E33).other W39 (Or.inr (slot_ne (Or.inl (wd_129 hw)) (Or.inr (wd_30 hw)) (by decide) (t := .int) (t' := .byte) (by decide) (by decide))))
 have f51 : Fld Z h39 a0 kc0 "hashIsZero" "Z" (.int (0 : Int32)) := ((((zz4.ext E21).other W27 (Or.inr (slot_ne (Or.inl (wd_131 hw)) (Or.inr (wd_29 hw)) (by decide) (t := .boolean) (t' := (.array .byte)) (by decide) (by decide)))).ext E33).other W39 (Or.inr (slot_ne (Or.inl (wd_131 hw)) (Or.inr (wd_30 hw)) (by decide) (t := .boolean) (t' := .byte) (by decide) (by decide))))
 exact w_doneH X39 hlk (v := none) e39 hh hZ33 (own_EW hw) hS33 (Nat.le_trans hk33 (Keep.of_wr W39).1) C42 (fun _ => rfl) (fun fs hr => X39.returnOut hx hret (d19_26 hby) hr) (by decide) (by decide) (fun hsy => ⟨b21, c21, rfl, N45, K44, f47, f48, f49, f43, f50, f51⟩)
theorem ef_m18_9 (m : MethodId) (a0 : Addr) (a1 : Addr)  : entryFrame m #[(.ref a0), (.ref a1)] 2 = mkF m 0 #[.val (.ref a0), .val (.ref a1)] [] := by first | (simp [entryFrame, mkF, argsToLocals, Value.category]; done) | rfl
def Q_m18_9 (Z : State) (a0 : Addr) (a1 : Addr) (k_a1 : ClassId) (h0 : Heap) (n0 : Nat) (v : Option Value) (h : Heap) (L : List Loc) (S : Addr → Prop) : Prop := ∃ (r0 : Addr) (c0 : ClassId), v = none ∧ Fr n0 L ∧ Keep h0 h [a0] ∧ Arv Z h r0 c0 .byte (0 : Int32) [] (.int (0 : Int32)) ∧ Exa Z h a0 kc0 ∧ Fld Z h a0 kc0 "value" "[B" (.ref r0) ∧ Fld Z h a0 kc0 "coder" "B" (.int (0 : Int32)) ∧ Fld Z h a0 kc0 "hash" "I" (.int (0 : Int32)) ∧ Fld Z h a0 kc0 "hashIsZero" "Z" (.int (0 : Int32))
theorem rm_m18_9 (l : Launch) (Z : State) (aZ : Array Value) (hw : ∀ d ∈ tables_1, d.before aZ Z = true) (ws : List Jvm.Cond) (a0 : Addr) (a1 : Addr) (k_a1 : ClassId) (h0 : Heap) (n0 : Nat) (Z0 : n0 ≤ h0.size) (V_a1 : Arv Z h0 a1 k_a1 .char (0 : Int32) [] (.int (0 : Int32))) (E_a0 : Exa Z h0 a0 kc0) (zz0 : Fld Z h0 a0 kc0 "value" "[B" .null) (zz1 : Fld Z h0 a0 kc0 "coder" "B" (.int (0 : Int32))) (zz2 : Fld Z h0 a0 kc0 "hash" "I" (.int (0 : Int32))) (zz3 : Fld Z h0 a0 kc0 "hashIsZero" "Z" (.int (0 : Int32))) (zz4 : n0 ≤ a0) :
    MetH l Z EL yn_18 jdk_42_method_3_code 2 none ws ({ frames := 2, cells := 4, slots := 8, locals := 29 } : Room) #[(.ref a0), (.ref a1)] h0 (Q_m18_9 Z a0 a1 k_a1 h0 n0) [a0] := by
 refine MetH.of (plainFor_of_name pn_0) ?_
 intro p e s m below meth c s₁ hret hx hby hml hown hnm hlk hZ X0 e0 hh hH hsf hS0 C0
 have N0 := Fr.nil n0
 rw [ef_m18_9 m a0 a1]
 refine w_aloadN X0 hx (d18_0 hby) rfl rfl (pc' := 1) rfl ?_
 refine w_aloadN X0 hx (d18_1 hby) rfl rfl (pc' := 2) rfl ?_
 refine w_iconst X0 hx (d18_2 hby) (v := (0 : Int32)) rfl (pc' := 3) rfl ?_
 refine w_aloadN X0 hx (d18_3 hby) rfl rfl (pc' := 4) rfl ?_
 refine w_alen X0 hx hZ e0 V_a1 (d18_4 hby) (pc' := 5) rfl ?_
 refine w_null X0 hx (d18_5 hby) (pc' := 6) rfl ?_
 refine w_specialS X0 hx (y := yn_19) rfl hown (mvT hZ (wd_106 hw)) (mvT hZ (wd_107 hw)) (mvT hZ (wd_109 hw)) (by decide) (backOfY (W := 0) (rm_m19_10 l Z aZ hw [] a0 a1 h0 n0 Z0 E_a0 zz0 zz4 zz1 zz2 zz3) hZ (wd_109 hw) (wd_27 hw) (by decide) (by decide) (own_EW hw) C0.1 (sfS (hsf a0 (by simp)) sf0) (allS (Nat.lt_of_lt_of_le E_a0.lt (Nat.le_refl _)) all0)) (by rw [hml]; rfl) [(.ref a1), (.int (0 : Int32)), (.int (0 : Int32)), .null] (lenOf pd_0 rfl) rfl (Nat.le_of_eq rfl) (d18_6 hby) (fun _ _ => ⟨rfl, e0, (by decide : 0 + 4 ≤ _), (by decide : 0 + 8 ≤ _)⟩) (pc' := 9) rfl ?_
 rintro _ _ ⟨T20, L20, k20, n20⟩ XX20 hSS20 hg20 ⟨Lc20, hQ20, l20, y20, z20, A20⟩
 dsimp only [Pt.U, Pt.locs, Pt.cells, Pt.slots] at XX20 l20 y20 z20 hQ20 hSS20 hg20 A20 ⊢
 subst l20 y20 z20
 obtain ⟨X20, hS20, hZ20, hown20⟩ := rebS hS0 (Nat.le_refl _) XX20 hSS20 (e0 ▸ hg20) hZ hown
 obtain ⟨r0_20, c0_20, rfl, N20q, K20, g20_0, g20_1, g20_2, g20_3, g20_4, g20_5⟩ := hQ20
 have N21 := Fr.app N0 N20q
 have C22 : CHr Z EL s.vm h0 T20.vm T20.heap := C0.trans A20
 have K23 : Keep h0 T20.heap [a0] := (Keep.refl h0 [a0]).trans K20 (allS (Or.inl (by simp)) (all0 (P := fun x => x ∈ [a0] ∨ h0.size ≤ x)))
 show Runs _ _ _ _ (T20.setTop (mkF m 9 #[.val (.ref a0), .val (.ref a1)] []))
 exact w_doneH X20 hlk (v := none) rfl hh hZ20 (own_EW hw) hS20 (Nat.le_refl _) C22 (fun _ => rfl) (fun fs hr => X20.returnOut hx hret (d18_9 hby) hr) (by decide) (by decide) (fun hsy => ⟨r0_20, c0_20, rfl, N21, K23, g20_0, g20_1, g20_2, g20_3, g20_4, g20_5⟩)
theorem ef_m21_14 (m : MethodId) (a0 : Addr) (a2 : Addr)  : entryFrame m #[(.ref a0), (.int (0 : Int32)), (.ref a2), (.int (0 : Int32)), (.int (1 : Int32))] 7 = mkF m 0 #[.val (.ref a0), .val (.int (0 : Int32)), .val (.ref a2), .val (.int (0 : Int32)), .val (.int (1 : Int32)), .unset, .unset] [] := by first | (simp [entryFrame, mkF, argsToLocals, Value.category]; done) | rfl
def Q_m21_14 (Z : State) (a0 : Addr) (a2 : Addr) (k_a0 : ClassId) (jj0 : Int32) (k_a2 : ClassId) (h0 : Heap) (n0 : Nat) (v : Option Value) (h : Heap) (L : List Loc) : Prop := v = some (.int (1 : Int32)) ∧ Fr n0 L ∧ Keep h0 h [a2] ∧ Arv Z h a2 k_a2 .byte (1 : Int32) [(.int (jj0.toInt8.toInt32))] (.int (0 : Int32))
theorem rm_m21_14 (l : Launch) (Z : State) (aZ : Array Value) (hw : ∀ d ∈ tables_1, d.before aZ Z = true) (ws : List Jvm.Cond) (a0 : Addr) (a2 : Addr) (k_a0 : ClassId) (jj0 : Int32) (k_a2 : ClassId) (h0 : Heap) (n0 : Nat) (Z0 : n0 ≤ h0.size) (V_a0 : Arv Z h0 a0 k_a0 .char (1 : Int32) [(.int jj0)] (.int (0 : Int32))) (hP_1 : ¬ ((255 : Int32) < jj0)) (V_a2 : Arv Z h0 a2 k_a2 .byte (1 : Int32) [(.int (0 : Int32))] (.int (0 : Int32))) (zz1 : n0 ≤ a2) :
    MetN l Z yn_21 jdk_52_method_21_code 7 (some .int) ws ({ frames := 0, cells := 0, slots := 0, locals := 0 } : Room) #[(.ref a0), (.int (0 : Int32)), (.ref a2), (.int (0 : Int32)), (.int (1 : Int32))] h0 (Q_m21_14 Z a0 a2 k_a0 jj0 k_a2 h0 n0) := by
 refine MetN.of (plainFor_of_name pn_1) ?_
 intro p e s m below meth c s₁ hret hx hby hml hown hnm hlk hZ X0 e0
 have N0 := Fr.nil n0
 rw [ef_m21_14 m a0 a2]
 refine w_iconst X0 hx (d21_0 hby) (v := (0 : Int32)) rfl (pc' := 1) rfl ?_
 refine w_istore X0 hx (d21_1 hby) (L' := #[.val (.ref a0), .val (.int (0 : Int32)), .val (.ref a2), .val (.int (0 : Int32)), .val (.int (1 : Int32)), .val (.int (0 : Int32)), .unset]) rfl (pc' := 3) rfl ?_
 refine w_iload X0 hx (d21_3 hby) rfl (pc' := 5) rfl ?_
 refine w_iload X0 hx (d21_5 hby) rfl (pc' := 7) rfl ?_
 refine w_icN X0 hx (d21_7 hby) (tlt (by decide : (0 : Int32) < (1 : Int32))).2.1 (pc' := 10) rfl ?_
 refine w_aloadN X0 hx (d21_10 hby) rfl rfl (pc' := 11) rfl ?_
 refine w_iloadN X0 hx (d21_11 hby) rfl (pc' := 12) rfl ?_
 obtain ⟨clu20, Aru20, qu20, Su20, Nu20, Hu20, Gu20⟩ := id V_a0
 have hinu20 := inb_of (j := (0 : Int32)) Su20 ⟨by decide, by decide⟩
 refine w_caload X0 hx hZ e0 Aru20 hinu20 (Hu20.at hinu20 rfl) (d21_12 hby) (pc' := 13) rfl ?_
 refine w_istore X0 hx (d21_13 hby) (L' := #[.val (.ref a0), .val (.int (0 : Int32)), .val (.ref a2), .val (.int (0 : Int32)), .val (.int (1 : Int32)), .val (.int (0 : Int32)), .val (.int jj0)]) rfl (pc' := 15) rfl ?_
 refine w_iload X0 hx (d21_15 hby) rfl (pc' := 17) rfl ?_
 refine w_sipush X0 hx (d21_17 hby) (v := (255 : Int32)) rfl (pc' := 20) rfl ?_
 refine w_icY X0 hx (d21_20 hby) (flt hP_1).2.2.2 (pc' := 26) (by decide) (by decide) ?_
 refine w_aloadN X0 hx (d21_26 hby) rfl rfl (pc' := 27) rfl ?_
 refine w_iloadN X0 hx (d21_27 hby) rfl (pc' := 28) rfl ?_
 refine w_iload X0 hx (d21_28 hby) rfl (pc' := 30) rfl ?_
 refine w_i2b X0 hx (d21_30 hby) (pc' := 31) rfl ?_
 obtain ⟨clu21, Aru21, qu21, Su21, Nu21, Hu21, Gu21⟩ := id V_a2
 have hinu21 := inb_of (j := (0 : Int32)) Su21 ⟨by decide, by decide⟩
 refine w_stB X0 hx hZ e0 Aru21 hinu21 (d21_31 hby) (pc' := 32) rfl ?_
 intro T22 h22 X22 e22 W22
 have V23 : Arv Z h22 a2 k_a2 .byte (1 : Int32) [(.int (nar .byte (jj0.toInt8.toInt32)))] (.int (0 : Int32)) := Arv.set Aru21 qu21 Su21 Nu21 Hu21 Gu21 (fits_nar_byte _) W22 0 rfl (Nat.le_of_ble_eq_true rfl)
 have V24 : Arv Z h22 a2 k_a2 .byte (1 : Int32) [(.int (jj0.toInt8.toInt32))] (.int (0 : Int32)) := by rw [nar_b] at V23; exact V23
 have K25 : Keep h0 h22 [a2] := (Keep.refl h0 [a2]).wr W22 (Or.inl (by simp))
 have N26 := Fr.snoc X22 N0 zz1
 refine w_iinc X22 hx (d21_32 hby) (v := (1 : Int32)) rfl rfl (L' := #[.val (.ref a0), .val (.int ((0 : Int32) + (1 : Int32))), .val (.ref a2), .val (.int (0 : Int32)), .val (.int (1 : Int32)), .val (.int (0 : Int32)), .val (.int jj0)]) rfl (pc' := 35) rfl ?_
 rw [show ((0 : Int32) + (1 : Int32)) = (1 : Int32) from by decide]
 refine w_iinc X22 hx (d21_35 hby) (v := (1 : Int32)) rfl rfl (L' := #[.val (.ref a0), .val (.int (1 : Int32)), .val (.ref a2), .val (.int ((0 : Int32) + (1 : Int32))), .val (.int (1 : Int32)), .val (.int (0 : Int32)), .val (.int jj0)]) rfl (pc' := 38) rfl ?_
 rw [show ((0 : Int32) + (1 : Int32)) = (1 : Int32) from by decide]
 refine w_iinc X22 hx (d21_38 hby) (v := (1 : Int32)) rfl rfl (L' := #[.val (.ref a0), .val (.int (1 : Int32)), .val (.ref a2), .val (.int (1 : Int32)), .val (.int (1 : Int32)), .val (.int ((0 : Int32) + (1 : Int32))), .val (.int jj0)]) rfl (pc' := 41) rfl ?_
 rw [show ((0 : Int32) + (1 : Int32)) = (1 : Int32) from by decide]
 refine w_goto X22 hx (d21_41 hby) (pc' := 3) (by decide) (by decide) ?_
 refine w_iload X22 hx (d21_3 hby) rfl (pc' := 5) rfl ?_
 refine w_iload X22 hx (d21_5 hby) rfl (pc' := 7) rfl ?_
 refine w_icY X22 hx (d21_7 hby) (flt (by decide : ¬ ((1 : Int32) < (1 : Int32)))).2.1 (pc' := 44) (by decide) (by decide) ?_
 refine w_iload X22 hx (d21_44 hby) rfl (pc' := 46) rfl ?_
 exact w_done X22 hlk (v := some (.int (1 : Int32))) e22 (fun h => by rw [hret] at h; cases h) (fun fs hr => retI X22 hx hret (d21_46 hby) hr) (by decide) (by decide) (⟨rfl, N26, K25, V24⟩)
theorem ef_m20_13 (m : MethodId) (a0 : Addr)  : entryFrame m #[(.ref a0), (.int (0 : Int32)), (.int (1 : Int32))] 6 = mkF m 0 #[.val (.ref a0), .val (.int (0 : Int32)), .val (.int (1 : Int32)), .unset, .unset, .unset] [] := by first | (simp [entryFrame, mkF, argsToLocals, Value.category]; done) | rfl
def Q_m20_13 (Z : State) (a0 : Addr) (k_a0 : ClassId) (jj0 : Int32) (h0 : Heap) (n0 : Nat) (v : Option Value) (h : Heap) (L : List Loc) : Prop := ∃ (r0 : Addr) (c0 : ClassId), v = some (.ref r0) ∧ Fr n0 L ∧ Keep h0 h [] ∧ h0.size ≤ r0 ∧ Exa Z h r0 "[B" ∧ Arv Z h r0 c0 .byte (1 : Int32) [(.int (jj0.toInt8.toInt32))] (.int (0 : Int32))
theorem rm_m20_13 (l : Launch) (Z : State) (aZ : Array Value) (hw : ∀ d ∈ tables_1, d.before aZ Z = true) (ws : List Jvm.Cond) (a0 : Addr) (k_a0 : ClassId) (jj0 : Int32) (h0 : Heap) (n0 : Nat) (Z0 : n0 ≤ h0.size) (V_a0 : Arv Z h0 a0 k_a0 .char (1 : Int32) [(.int jj0)] (.int (0 : Int32))) (hP_1 : ¬ ((255 : Int32) < jj0)) :
    MetN l Z yn_20 jdk_52_method_16_code 6 (some (.array .byte)) ws ({ frames := 1, cells := 1, slots := 1, locals := 18 } : Room) #[(.ref a0), (.int (0 : Int32)), (.int (1 : Int32))] h0 (Q_m20_13 Z a0 k_a0 jj0 h0 n0) := by
 refine MetN.of (plainFor_of_name pn_1) ?_
 intro p e s m below meth c s₁ hret hx hby hml hown hnm hlk hZ X0 e0
 have N0 := Fr.nil n0
 rw [ef_m20_13 m a0]
 refine w_iloadN X0 hx (d20_0 hby) rfl (pc' := 1) rfl ?_
 refine w_newPE X0 hx .byte .byte 1 "[B" rfl hZ (wd_10 hw) e0 (d20_1 hby) (by decide) (by decide) (by decide) (by decide) (by decide) (by decide +kernel) (pc' := 3) rfl ?_
 intro T20 h20 k20 b20 X20 e20 E20 g20 A20 Q20
 have ge21 : n0 ≤ b20 := Nat.le_trans Z0 (Nat.le_of_eq g20.symm)
 have sz22 : h0.size ≤ b20 := Nat.le_trans (Nat.le_refl _) (Nat.le_of_eq g20.symm)
 have K23 : Keep h0 h20 [] := (Keep.refl h0 []).ext E20
 have V24 : Arv Z h20 b20 k20 .byte (1 : Int32) [(.int (0 : Int32))] (.int (0 : Int32)) := (Arv.new A20 (by decide)).pad (pad_rep [] (.int (0 : Int32)) 1)
 refine w_astoreN X20 hx (d20_3 hby) rfl (L' := #[.val (.ref a0), .val (.int (0 : Int32)), .val (.int (1 : Int32)), .val (.ref b20), .unset, .unset]) rfl (pc' := 4) rfl ?_
 refine w_aloadN X20 hx (d20_4 hby) rfl rfl (pc' := 5) rfl ?_
 refine w_iloadN X20 hx (d20_5 hby) rfl (pc' := 6) rfl ?_
 refine w_aloadN X20 hx (d20_6 hby) rfl rfl (pc' := 7) rfl ?_
 refine w_iconst X20 hx (d20_7 hby) (v := (0 : Int32)) rfl (pc' := 8) rfl ?_
 refine w_iloadN X20 hx (d20_8 hby) rfl (pc' := 9) rfl ?_
 have f25 : Arv Z h20 a0 k_a0 .char (1 : Int32) [(.int jj0)] (.int (0 : Int32)) := (V_a0.ext E20)
 refine w_static X20 hx (y := yn_21) hown (mvT hZ (wd_116 hw)) (mvT hZ (wd_117 hw)) (mvT hZ (wd_114 hw)) (mvT hZ (wd_118 hw)) (by decide) (backOf (W := 0) (rm_m21_14 l Z aZ hw [] a0 b20 k_a0 jj0 k20 h20 n0 (Nat.le_trans Z0 E20.1) f25 hP_1 V24 ge21) hZ (wd_118 hw) (wd_114 hw) (by decide) (by decide)) (by rw [hml]; rfl) [(.ref a0), (.int (0 : Int32)), (.ref b20), (.int (0 : Int32)), (.int (1 : Int32))] (lenOf pd_2 rfl) rfl (Nat.le_of_eq rfl) (d20_9 hby) (fun _ _ => ⟨rfl, e20, (by decide : 1 + 0 ≤ _), (by decide : 1 + 0 ≤ _)⟩) (pc' := 12) rfl ?_
 rintro _ _ ⟨T26, L26, k26, n26⟩ X26 ⟨Lc26, hQ26, l26, y26, z26⟩
 dsimp only [Pt.U, Pt.locs, Pt.cells, Pt.slots] at X26 l26 y26 z26 hQ26 ⊢
 subst l26 y26 z26
 obtain ⟨rfl, N26q, K26, g26_0⟩ := hQ26
 have N27 := Fr.app N0 N26q
 have K28 : Keep h0 T26.heap [] := K23.trans K26 (allS (Or.inr sz22) (all0 (P := fun x => x ∈ [] ∨ h0.size ≤ x)))
 show Runs _ _ _ _ (T26.setTop (mkF m 12 #[.val (.ref a0), .val (.int (0 : Int32)), .val (.int (1 : Int32)), .val (.ref b20), .unset, .unset] [(.int (1 : Int32))]))
 refine w_istore X26 hx (d20_12 hby) (L' := #[.val (.ref a0), .val (.int (0 : Int32)), .val (.int (1 : Int32)), .val (.ref b20), .val (.int (1 : Int32)), .unset]) rfl (pc' := 14) rfl ?_
 refine w_iload X26 hx (d20_14 hby) rfl (pc' := 16) rfl ?_
 refine w_iloadN X26 hx (d20_16 hby) rfl (pc' := 17) rfl ?_
 refine w_icY X26 hx (d20_17 hby) (teq (by decide : (1 : Int32) = (1 : Int32))).1 (pc' := 57) (by decide) (by decide) ?_
 refine w_aloadN X26 hx (d20_57 hby) rfl rfl (pc' := 58) rfl ?_
 have f29 : Exa Z T26.heap b20 "[B" := (Q20.keep K26)
 exact w_done X26 hlk (v := some (.ref b20)) rfl (fun h => by rw [hret] at h; cases h) (fun fs hr => retOut X26 hx hret rfl (Or.inr (Or.inr (Or.inr (Or.inr ⟨rfl, rfl, rfl⟩)))) (d20_58 hby) hr) (by decide) (by decide) (⟨b20, k20, rfl, N27, K28, sz22, f29, g26_0⟩)
theorem ef_m22_15 (m : MethodId) (a0 : Addr)  : entryFrame m #[(.ref a0), (.int (1 : Int32))] 2 = mkF m 0 #[.val (.ref a0), .val (.int (1 : Int32))] [] := by first | (simp [entryFrame, mkF, argsToLocals, Value.category]; done) | rfl
def Q_m22_15 (Z : State) (a0 : Addr) (k_a0 : ClassId) (jj0 : Int32) (h0 : Heap) (n0 : Nat) (v : Option Value) (h : Heap) (L : List Loc) : Prop := v = some (.int (0 : Int32)) ∧ Fr n0 L ∧ h = h0
theorem rm_m22_15 (l : Launch) (Z : State) (aZ : Array Value) (hw : ∀ d ∈ tables_1, d.before aZ Z = true) (ws : List Jvm.Cond) (a0 : Addr) (k_a0 : ClassId) (jj0 : Int32) (h0 : Heap) (n0 : Nat) (Z0 : n0 ≤ h0.size) (V_a0 : Arv Z h0 a0 k_a0 .byte (1 : Int32) [(.int jj0)] (.int (0 : Int32))) :
    MetN l Z yn_22 jdk_52_method_15_code 2 (some .byte) ws ({ frames := 0, cells := 0, slots := 0, locals := 0 } : Room) #[(.ref a0), (.int (1 : Int32))] h0 (Q_m22_15 Z a0 k_a0 jj0 h0 n0) := by
 refine MetN.of (plainFor_of_name pn_1) ?_
 intro p e s m below meth c s₁ hret hx hby hml hown hnm hlk hZ X0 e0
 have N0 := Fr.nil n0
 rw [ef_m22_15 m a0]
 refine w_iloadN X0 hx (d22_0 hby) rfl (pc' := 1) rfl ?_
 refine w_aloadN X0 hx (d22_1 hby) rfl rfl (pc' := 2) rfl ?_
 refine w_alen X0 hx hZ e0 V_a0 (d22_2 hby) (pc' := 3) rfl ?_
 refine w_isub X0 hx (d22_3 hby) (pc' := 4) rfl ?_
 rw [show ((1 : Int32) - (1 : Int32)) = (0 : Int32) from by decide]
 refine w_bipush X0 hx (d22_4 hby) (v := (31 : Int32)) rfl (pc' := 6) rfl ?_
 refine w_iushr X0 hx (d22_6 hby) (pc' := 7) rfl ?_
 rw [show (((0 : Int32).toUInt32 >>> ((31 : Int32) &&& 31).toUInt32).toInt32) = (0 : Int32) from by decide]
 refine w_i2b X0 hx (d22_7 hby) (pc' := 8) rfl ?_
 rw [show ((0 : Int32).toInt8.toInt32) = (0 : Int32) from by decide]
 exact w_done X0 hlk (v := some (.int (0 : Int32))) e0 (fun h => by rw [hret] at h; cases h) (fun fs hr => retN X0 hx (t := .byte) hret (by simp) (d22_8 hby) hr) (by decide) (by decide) (⟨rfl, N0, rfl⟩)
theorem ef_m19_12 (m : MethodId) (a0 : Addr) (a1 : Addr)  : entryFrame m #[(.ref a0), (.ref a1), (.int (0 : Int32)), (.int (1 : Int32)), .null] 6 = mkF m 0 #[.val (.ref a0), .val (.ref a1), .val (.int (0 : Int32)), .val (.int (1 : Int32)), .val .null, .unset] [] := by first | (simp [entryFrame, mkF, argsToLocals, Value.category]; done) | rfl
def Q_m19_12 (Z : State) (a0 : Addr) (a1 : Addr) (jj0 : Int32) (k_a1 : ClassId) (jj1 : Int32) (h0 : Heap) (n0 : Nat) (v : Option Value) (h : Heap) (L : List Loc) : Prop := ∃ (r0 : Addr) (c0 : ClassId), v = none ∧ Fr n0 L ∧ Keep h0 h [a0] ∧ h0.size ≤ r0 ∧ Exa Z h r0 "[B" ∧ Arv Z h r0 c0 .byte (1 : Int32) [(.int (jj1.toInt8.toInt32))] (.int (0 : Int32)) ∧ Exa Z h a0 kc0 ∧ Fld Z h a0 kc0 "coder" "B" (.int (0 : Int32)) ∧ Fld Z h a0 kc0 "value" "[B" (.ref r0) ∧ Fld Z h a0 kc0 "hash" "I" (.int (0 : Int32)) ∧ Fld Z h a0 kc0 "hashIsZero" "Z" (.int (0 : Int32))
theorem rm_m19_12 (l : Launch) (Z : State) (aZ : Array Value) (hw : ∀ d ∈ tables_1, d.before aZ Z = true) (ws : List Jvm.Cond) (a0 : Addr) (a1 : Addr) (jj0 : Int32) (k_a1 : ClassId) (jj1 : Int32) (h0 : Heap) (n0 : Nat) (Z0 : n0 ≤ h0.size) (zz2 : Sta Z Z.heap kc0 "COMPACT_STRINGS" "Z" (.int jj0)) (O0 : Old Z n0 h0) (hP_2 : ¬ (jj0 = (0 : Int32))) (V_a1 : Arv Z h0 a1 k_a1 .char (1 : Int32) [(.int jj1)] (.int (0 : Int32))) (hP_4 : ¬ ((255 : Int32) < jj1)) (E_a0 : Exa Z h0 a0 kc0) (zz3 : Fld Z h0 a0 kc0 "coder" "B" (.int (0 : Int32))) (zz4 : n0 ≤ a0) (zz5 : Fld Z h0 a0 kc0 "value" "[B" .null) (zz6 : Fld Z h0 a0 kc0 "hash" "I" (.int (0 : Int32))) (zz7 : Fld Z h0 a0 kc0 "hashIsZero" "Z" (.int (0 : Int32))) :
    MetN l Z yn_19 jdk_42_method_149_code 6 none ws ({ frames := 2, cells := 1, slots := 1, locals := 35 } : Room) #[(.ref a0), (.ref a1), (.int (0 : Int32)), (.int (1 : Int32)), .null] h0 (Q_m19_12 Z a0 a1 jj0 k_a1 jj1 h0 n0) := by
 refine MetN.of (plainFor_of_name pn_0) ?_
 intro p e s m below meth c s₁ hret hx hby hml hown hnm hlk hZ X0 e0
 have N0 := Fr.nil n0
 rw [ef_m19_12 m a0 a1]
 refine w_aloadN X0 hx (d19_0 hby) rfl rfl (pc' := 1) rfl ?_
 refine w_initO X0 hx 0 hZ hown (wd_110 hw) (wd_18 hw) (wd_19 hw) e0 (by rw [hml]; rfl) (d19_1 hby) (by decide) (Nat.le_of_eq rfl) (by decide) (pc' := 4) rfl ?_
 intro T20 X20 e20
 refine w_iloadN X20 hx (d19_4 hby) rfl (pc' := 5) rfl ?_
 refine w_ifY X20 hx (d19_5 hby) (feq (by decide : ¬ ((1 : Int32) = (0 : Int32)))).2 (pc' := 27) (by decide) (by decide) ?_
 refine w_getS X20 hx "" hZ hown (Or.inl (wd_111 hw)) Via.refl e20 (zz2.ext O0.2) (d19_27 hby) (pc' := 30) rfl ?_
 intro T21 X21 e21
 refine w_ifN X21 hx (d19_30 hby) (feq hP_2).1 (pc' := 33) rfl ?_
 refine w_aloadN X21 hx (d19_33 hby) rfl rfl (pc' := 34) rfl ?_
 refine w_iloadN X21 hx (d19_34 hby) rfl (pc' := 35) rfl ?_
 refine w_iloadN X21 hx (d19_35 hby) rfl (pc' := 36) rfl ?_
 refine w_static X21 hx (y := yn_20) hown (mvT hZ (wd_112 hw)) (mvT hZ (wd_113 hw)) (mvT hZ (wd_114 hw)) (mvT hZ (wd_115 hw)) (by decide) (backOf (W := 0) (rm_m20_13 l Z aZ hw [] a1 k_a1 jj1 h0 n0 Z0 V_a1 hP_4) hZ (wd_115 hw) (wd_114 hw) (by decide) (by decide)) (by rw [hml]; rfl) [(.ref a1), (.int (0 : Int32)), (.int (1 : Int32))] (lenOf pd_3 rfl) rfl (Nat.le_of_eq rfl) (d19_36 hby) (fun _ _ => ⟨rfl, e21, (by decide : 0 + 1 ≤ _), (by decide : 0 + 1 ≤ _)⟩) (pc' := 39) rfl ?_
 rintro _ _ ⟨T22, L22, k22, n22⟩ X22 ⟨Lc22, hQ22, l22, y22, z22⟩
 dsimp only [Pt.U, Pt.locs, Pt.cells, Pt.slots] at X22 l22 y22 z22 hQ22 ⊢
 subst l22 y22 z22
 obtain ⟨r0_22, c0_22, rfl, N22q, K22, g22_0, g22_1, g22_2⟩ := hQ22
 have N23 := Fr.app N0 N22q
 have K24 : Keep h0 T22.heap [a0] := (Keep.refl h0 [a0]).trans K22 (all0 (P := fun x => x ∈ [a0] ∨ h0.size ≤ x))
 have ge25 : n0 ≤ r0_22 := Nat.le_trans Z0 g22_0
 have sz26 : h0.size ≤ r0_22 := Nat.le_trans (Nat.le_refl _) g22_0
 show Runs _ _ _ _ (T22.setTop (mkF m 39 #[.val (.ref a0), .val (.ref a1), .val (.int (0 : Int32)), .val (.int (1 : Int32)), .val .null, .unset] [(.ref r0_22)]))
 refine w_astore X22 hx (d19_39 hby) rfl (L' := #[.val (.ref a0), .val (.ref a1), .val (.int (0 : Int32)), .val (.int (1 : Int32)), .val .null, .val (.ref r0_22)]) rfl (pc' := 41) rfl ?_
 refine w_aloadN X22 hx (d19_41 hby) rfl rfl (pc' := 42) rfl ?_
 refine w_aload X22 hx (d19_42 hby) rfl rfl (pc' := 44) rfl ?_
 refine w_iloadN X22 hx (d19_44 hby) rfl (pc' := 45) rfl ?_
 refine w_static X22 hx (y := yn_22) hown (mvT hZ (wd_119 hw)) (mvT hZ (wd_120 hw)) (mvT hZ (wd_114 hw)) (mvT hZ (wd_121 hw)) (by decide) (backOf (W := 1) (rm_m22_15 l Z aZ hw [] r0_22 c0_22 (jj1.toInt8.toInt32) T22.heap n0 (Nat.le_trans Z0 K22.1) g22_2) hZ (wd_121 hw) (wd_114 hw) (by decide) (by decide)) (by rw [hml]; rfl) [(.ref r0_22), (.int (1 : Int32))] (lenOf pd_4 rfl) rfl (Nat.le_of_eq rfl) (d19_45 hby) (fun _ _ => ⟨rfl, rfl, (by decide : 1 + 0 ≤ _), (by decide : 1 + 0 ≤ _)⟩) (pc' := 48) rfl ?_
 rintro _ _ ⟨T27, L27, k27, n27⟩ X27 ⟨Lc27, hQ27, l27, y27, z27⟩
 dsimp only [Pt.U, Pt.locs, Pt.cells, Pt.slots] at X27 l27 y27 z27 hQ27 ⊢
 subst l27 y27 z27
 obtain ⟨rfl, N27q, e27⟩ := hQ27
 have N28 := Fr.app N23 N27q
 show Runs _ _ _ _ (T27.setTop (mkF m 48 #[.val (.ref a0), .val (.ref a1), .val (.int (0 : Int32)), .val (.int (1 : Int32)), .val .null, .val (.ref r0_22)] [(.int (0 : Int32)), (.ref a0)]))
 have f29 : Exa Z T22.heap a0 kc0 := (E_a0.keep K22)
 have f30 : Fld Z T22.heap a0 kc0 "coder" "B" (.int (0 : Int32)) := (zz3.keep K22 nin0)
 refine w_putF X27 hx "" hZ hown (Or.inl (wd_122 hw)) Via.refl e27 f30 f29 (Or.inr ⟨(wd_30 hw), rfl, hnm⟩) (wd_28 hw) (ty := .byte) (by decide) rfl rfl (d19_48 hby) (pc' := 51) rfl ?_
 intro T31 h31 X31 e31 W31
 have f32 : Fld Z h31 a0 kc0 "coder" "B" (.int (0 : Int32)) := f30.same W31
 have K33 : Keep h0 h31 [a0] := K24.wr W31 (Or.inl (by simp))
 have N34 := Fr.snoc X31 N28 zz4
 refine w_aloadN X31 hx (d19_51 hby) rfl rfl (pc' := 52) rfl ?_
 refine w_aload X31 hx (d19_52 hby) rfl rfl (pc' := 54) rfl ?_
 have f35 : Exa Z h31 a0 kc0 := (f29.wr W31)
 have f36 : Fld Z h31 a0 kc0 "value" "[B" .null := ((zz5.keep K22 nin0).other W31 (Or.inr (slot_ne (Or.inr (wd_29 hw)) (Or.inr (wd_30 hw)) (by decide) (t := (.array .byte)) (t' := .byte) (by decide) (by decide))))
 refine w_putF X31 hx "" hZ hown (Or.inl (wd_123 hw)) Via.refl e31 f36 f35 (Or.inr ⟨(wd_29 hw), rfl, hnm⟩) (wd_28 hw) (ty := (.array .byte)) (by decide) rfl rfl (d19_54 hby) (pc' := 57) rfl ?_
 intro T37 h37 X37 e37 W37
 have f38 : Fld Z h37 a0 kc0 "value" "[B" (.ref r0_22) := f36.same W37
 have K39 : Keep h0 h37 [a0] := K33.wr W37 (Or.inl (by simp))
 have N40 := Fr.snoc X37 N34 zz4
 have f41 : Exa Z h37 r0_22 "[B" := ((g22_1.wr W31).wr W37)
 have ne42 : a0 ≠ r0_22 := (Nat.ne_of_lt (Nat.lt_of_lt_of_le E_a0.lt (Nat.le_trans (Nat.le_refl _) g22_0)))
 have f43 : Arv Z h37 r0_22 c0_22 .byte (1 : Int32) [(.int (jj1.toInt8.toInt32))] (.int (0 : Int32)) := ((g22_2.other W31 (Ne.symm ne42)).other W37 (Ne.symm ne42))
 have f44 : Exa Z h37 a0 kc0 := (f35.wr W37)
 have f45 : Fld Z h37 a0 kc0 "coder" "B" (.int (0 : Int32)) := (f32.other W37 (Or.inr (slot_ne (Or.inr (wd_30 hw)) (Or.inr (wd_29 hw)) (by decide) (t := .byte) (t' := (.array .byte)) (by decide) (by decide))))
 have f46 : Fld Z h37 a0 kc0 "hash" "I" (.int (0 : Int32)) := (((zz6.keep K22 nin0).other W31 (Or.inr (slot_ne (Or.inl (wd_129 hw)) (Or.inr (wd_30 hw)) (by decide) (t := .int) (t' := .byte) (by decide) (by decide)))).other W37 (Or.inr (slot_ne (Or.inl (wd_129 hw)) (Or.inr (wd_29 hw)) (by decide) (t := .int) (t' := (.array .byte)) (by decide) (by decide))))
 have f47 : Fld Z h37 a0 kc0 "hashIsZero" "Z" (.int (0 : Int32)) := (((zz7.keep K22 nin0).other W31 (Or.inr (slot_ne (Or.inl (wd_131 hw)) (Or.inr (wd_30 hw)) (by decide) (t := .boolean) (t' := .byte) (by decide) (by decide)))).other W37 (Or.inr (slot_ne (Or.inl (wd_131 hw)) (Or.inr (wd_29 hw)) (by decide) (t := .boolean) (t' := (.array .byte)) (by decide) (by decide))))
 exact w_done X37 hlk (v := none) e37 (fun _ => rfl) (fun fs hr => X37.returnOut hx hret (d19_57 hby) hr) (by decide) (by decide) (⟨r0_22, c0_22, rfl, N40, K39, sz26, f41, f43, f44, f45, f38, f46, f47⟩)
theorem ef_m18_11 (m : MethodId) (a0 : Addr) (a1 : Addr)  : entryFrame m #[(.ref a0), (.ref a1)] 2 = mkF m 0 #[.val (.ref a0), .val (.ref a1)] [] := by first | (simp [entryFrame, mkF, argsToLocals, Value.category]; done) | rfl
def Q_m18_11 (Z : State) (a0 : Addr) (a1 : Addr) (k_a1 : ClassId) (jj0 : Int32) (jj1 : Int32) (h0 : Heap) (n0 : Nat) (v : Option Value) (h : Heap) (L : List Loc) : Prop := ∃ (r0 : Addr) (c0 : ClassId), v = none ∧ Fr n0 L ∧ Keep h0 h [a0] ∧ h0.size ≤ r0 ∧ Exa Z h r0 "[B" ∧ Arv Z h r0 c0 .byte (1 : Int32) [(.int (jj0.toInt8.toInt32))] (.int (0 : Int32)) ∧ Exa Z h a0 kc0 ∧ Fld Z h a0 kc0 "coder" "B" (.int (0 : Int32)) ∧ Fld Z h a0 kc0 "value" "[B" (.ref r0) ∧ Fld Z h a0 kc0 "hash" "I" (.int (0 : Int32)) ∧ Fld Z h a0 kc0 "hashIsZero" "Z" (.int (0 : Int32))
theorem rm_m18_11 (l : Launch) (Z : State) (aZ : Array Value) (hw : ∀ d ∈ tables_1, d.before aZ Z = true) (ws : List Jvm.Cond) (a0 : Addr) (a1 : Addr) (k_a1 : ClassId) (jj0 : Int32) (jj1 : Int32) (h0 : Heap) (n0 : Nat) (Z0 : n0 ≤ h0.size) (V_a1 : Arv Z h0 a1 k_a1 .char (1 : Int32) [(.int jj0)] (.int (0 : Int32))) (hP_1 : ¬ (jj1 = (0 : Int32))) (hP_2 : ¬ ((255 : Int32) < jj0)) (E_a0 : Exa Z h0 a0 kc0) (zz2 : Fld Z h0 a0 kc0 "coder" "B" (.int (0 : Int32))) (zz3 : Fld Z h0 a0 kc0 "value" "[B" .null) (zz4 : Fld Z h0 a0 kc0 "hash" "I" (.int (0 : Int32))) (zz5 : Fld Z h0 a0 kc0 "hashIsZero" "Z" (.int (0 : Int32))) (zz6 : Sta Z Z.heap kc0 "COMPACT_STRINGS" "Z" (.int jj1)) (O0 : Old Z n0 h0) (zz7 : n0 ≤ a0) :
    MetN l Z yn_18 jdk_42_method_3_code 2 none ws ({ frames := 3, cells := 1, slots := 1, locals := 52 } : Room) #[(.ref a0), (.ref a1)] h0 (Q_m18_11 Z a0 a1 k_a1 jj0 jj1 h0 n0) := by
 refine MetN.of (plainFor_of_name pn_0) ?_
 intro p e s m below meth c s₁ hret hx hby hml hown hnm hlk hZ X0 e0
 have N0 := Fr.nil n0
 rw [ef_m18_11 m a0 a1]
 refine w_aloadN X0 hx (d18_0 hby) rfl rfl (pc' := 1) rfl ?_
 refine w_aloadN X0 hx (d18_1 hby) rfl rfl (pc' := 2) rfl ?_
 refine w_iconst X0 hx (d18_2 hby) (v := (0 : Int32)) rfl (pc' := 3) rfl ?_
 refine w_aloadN X0 hx (d18_3 hby) rfl rfl (pc' := 4) rfl ?_
 refine w_alen X0 hx hZ e0 V_a1 (d18_4 hby) (pc' := 5) rfl ?_
 refine w_null X0 hx (d18_5 hby) (pc' := 6) rfl ?_
 refine w_special X0 hx (y := yn_19) rfl hown (mvT hZ (wd_106 hw)) (mvT hZ (wd_107 hw)) (mvT hZ (wd_109 hw)) (by decide) (backOf (W := 0) (rm_m19_12 l Z aZ hw [] a0 a1 jj1 k_a1 jj0 h0 n0 Z0 zz6 O0 hP_1 V_a1 hP_2 E_a0 zz2 zz7 zz3 zz4 zz5) hZ (wd_109 hw) (wd_27 hw) (by decide) (by decide)) (by rw [hml]; rfl) [(.ref a1), (.int (0 : Int32)), (.int (1 : Int32)), .null] (lenOf pd_0 rfl) rfl (Nat.le_of_eq rfl) (d18_6 hby) (fun _ _ => ⟨rfl, e0, (by decide : 0 + 1 ≤ _), (by decide : 0 + 1 ≤ _)⟩) (pc' := 9) rfl ?_
 rintro _ _ ⟨T20, L20, k20, n20⟩ X20 ⟨Lc20, hQ20, l20, y20, z20⟩
 dsimp only [Pt.U, Pt.locs, Pt.cells, Pt.slots] at X20 l20 y20 z20 hQ20 ⊢
 subst l20 y20 z20
 obtain ⟨r0_20, c0_20, rfl, N20q, K20, g20_0, g20_1, g20_2, g20_3, g20_4, g20_5, g20_6, g20_7⟩ := hQ20
 have N21 := Fr.app N0 N20q
 have K22 : Keep h0 T20.heap [a0] := (Keep.refl h0 [a0]).trans K20 (allS (Or.inl (by simp)) (all0 (P := fun x => x ∈ [a0] ∨ h0.size ≤ x)))
 have ge23 : n0 ≤ r0_20 := Nat.le_trans Z0 g20_0
 have sz24 : h0.size ≤ r0_20 := Nat.le_trans (Nat.le_refl _) g20_0
 show Runs _ _ _ _ (T20.setTop (mkF m 9 #[.val (.ref a0), .val (.ref a1)] []))
 exact w_done X20 hlk (v := none) rfl (fun _ => rfl) (fun fs hr => X20.returnOut hx hret (d18_9 hby) hr) (by decide) (by decide) (⟨r0_20, c0_20, rfl, N21, K22, sz24, g20_1, g20_2, g20_3, g20_4, g20_5, g20_6, g20_7⟩)
theorem ef_m21_19 (m : MethodId) (a0 : Addr) (a2 : Addr)  : entryFrame m #[(.ref a0), (.int (0 : Int32)), (.ref a2), (.int (0 : Int32)), (.int (2 : Int32))] 7 = mkF m 0 #[.val (.ref a0), .val (.int (0 : Int32)), .val (.ref a2), .val (.int (0 : Int32)), .val (.int (2 : Int32)), .unset, .unset] [] := by first | (simp [entryFrame, mkF, argsToLocals, Value.category]; done) | rfl
def Q_m21_19 (Z : State) (a0 : Addr) (a2 : Addr) (k_a0 : ClassId) (jj0 : Int32) (jj1 : Int32) (k_a2 : ClassId) (h0 : Heap) (n0 : Nat) (v : Option Value) (h : Heap) (L : List Loc) : Prop := v = some (.int (2 : Int32)) ∧ Fr n0 L ∧ Keep h0 h [a2] ∧ Arv Z h a2 k_a2 .byte (2 : Int32) [(.int (jj0.toInt8.toInt32)), (.int (jj1.toInt8.toInt32))] (.int (0 : Int32))
theorem rm_m21_19 (l : Launch) (Z : State) (aZ : Array Value) (hw : ∀ d ∈ tables_1, d.before aZ Z = true) (ws : List Jvm.Cond) (a0 : Addr) (a2 : Addr) (k_a0 : ClassId) (jj0 : Int32) (jj1 : Int32) (k_a2 : ClassId) (h0 : Heap) (n0 : Nat) (Z0 : n0 ≤ h0.size) (V_a0 : Arv Z h0 a0 k_a0 .char (2 : Int32) [(.int jj0), (.int jj1)] (.int (0 : Int32))) (hP_1 : ¬ ((255 : Int32) < jj0)) (V_a2 : Arv Z h0 a2 k_a2 .byte (2 : Int32) [(.int (0 : Int32)), (.int (0 : Int32))] (.int (0 : Int32))) (zz2 : n0 ≤ a2) (zz3 : a0 ≠ a2) (hP_5 : ¬ ((255 : Int32) < jj1)) :
    MetN l Z yn_21 jdk_52_method_21_code 7 (some .int) ws ({ frames := 0, cells := 0, slots := 0, locals := 0 } : Room) #[(.ref a0), (.int (0 : Int32)), (.ref a2), (.int (0 : Int32)), (.int (2 : Int32))] h0 (Q_m21_19 Z a0 a2 k_a0 jj0 jj1 k_a2 h0 n0) := by
 refine MetN.of (plainFor_of_name pn_1) ?_
 intro p e s m below meth c s₁ hret hx hby hml hown hnm hlk hZ X0 e0
 have N0 := Fr.nil n0
 rw [ef_m21_19 m a0 a2]
 refine w_iconst X0 hx (d21_0 hby) (v := (0 : Int32)) rfl (pc' := 1) rfl ?_
 refine w_istore X0 hx (d21_1 hby) (L' := #[.val (.ref a0), .val (.int (0 : Int32)), .val (.ref a2), .val (.int (0 : Int32)), .val (.int (2 : Int32)), .val (.int (0 : Int32)), .unset]) rfl (pc' := 3) rfl ?_
 refine w_iload X0 hx (d21_3 hby) rfl (pc' := 5) rfl ?_
 refine w_iload X0 hx (d21_5 hby) rfl (pc' := 7) rfl ?_
 refine w_icN X0 hx (d21_7 hby) (tlt (by decide : (0 : Int32) < (2 : Int32))).2.1 (pc' := 10) rfl ?_
 refine w_aloadN X0 hx (d21_10 hby) rfl rfl (pc' := 11) rfl ?_
 refine w_iloadN X0 hx (d21_11 hby) rfl (pc' := 12) rfl ?_
 obtain ⟨clu20, Aru20, qu20, Su20, Nu20, Hu20, Gu20⟩ := id V_a0
 have hinu20 := inb_of (j := (0 : Int32)) Su20 ⟨by decide, by decide⟩
 refine w_caload X0 hx hZ e0 Aru20 hinu20 (Hu20.at hinu20 rfl) (d21_12 hby) (pc' := 13) rfl ?_
 refine w_istore X0 hx (d21_13 hby) (L' := #[.val (.ref a0), .val (.int (0 : Int32)), .val (.ref a2), .val (.int (0 : Int32)), .val (.int (2 : Int32)), .val (.int (0 : Int32)), .val (.int jj0)]) rfl (pc' := 15) rfl ?_
 refine w_iload X0 hx (d21_15 hby) rfl (pc' := 17) rfl ?_
 refine w_sipush X0 hx (d21_17 hby) (v := (255 : Int32)) rfl (pc' := 20) rfl ?_
 refine w_icY X0 hx (d21_20 hby) (flt hP_1).2.2.2 (pc' := 26) (by decide) (by decide) ?_
 refine w_aloadN X0 hx (d21_26 hby) rfl rfl (pc' := 27) rfl ?_
 refine w_iloadN X0 hx (d21_27 hby) rfl (pc' := 28) rfl ?_
 refine w_iload X0 hx (d21_28 hby) rfl (pc' := 30) rfl ?_
 refine w_i2b X0 hx (d21_30 hby) (pc' := 31) rfl ?_
 obtain ⟨clu21, Aru21, qu21, Su21, Nu21, Hu21, Gu21⟩ := id V_a2
 have hinu21 := inb_of (j := (0 : Int32)) Su21 ⟨by decide, by decide⟩
 refine w_stB X0 hx hZ e0 Aru21 hinu21 (d21_31 hby) (pc' := 32) rfl ?_
 intro T22 h22 X22 e22 W22
 have V23 : Arv Z h22 a2 k_a2 .byte (2 : Int32) [(.int (nar .byte (jj0.toInt8.toInt32))), (.int (0 : Int32))] (.int (0 : Int32)) := Arv.set Aru21 qu21 Su21 Nu21 Hu21 Gu21 (fits_nar_byte _) W22 0 rfl (Nat.le_of_ble_eq_true rfl)
 have V24 : Arv Z h22 a2 k_a2 .byte (2 : Int32) [(.int (jj0.toInt8.toInt32)), (.int (0 : Int32))] (.int (0 : Int32)) := by rw [nar_b] at V23; exact V23
 have K25 : Keep h0 h22 [a2] := (Keep.refl h0 [a2]).wr W22 (Or.inl (by simp))
 have N26 := Fr.snoc X22 N0 zz2
 refine w_iinc X22 hx (d21_32 hby) (v := (1 : Int32)) rfl rfl (L' := #[.val (.ref a0), .val (.int ((0 : Int32) + (1 : Int32))), .val (.ref a2), .val (.int (0 : Int32)), .val (.int (2 : Int32)), .val (.int (0 : Int32)), .val (.int jj0)]) rfl (pc' := 35) rfl ?_
 rw [show ((0 : Int32) + (1 : Int32)) = (1 : Int32) from by decide]
 refine w_iinc X22 hx (d21_35 hby) (v := (1 : Int32)) rfl rfl (L' := #[.val (.ref a0), .val (.int (1 : Int32)), .val (.ref a2), .val (.int ((0 : Int32) + (1 : Int32))), .val (.int (2 : Int32)), .val (.int (0 : Int32)), .val (.int jj0)]) rfl (pc' := 38) rfl ?_
 rw [show ((0 : Int32) + (1 : Int32)) = (1 : Int32) from by decide]
 refine w_iinc X22 hx (d21_38 hby) (v := (1 : Int32)) rfl rfl (L' := #[.val (.ref a0), .val (.int (1 : Int32)), .val (.ref a2), .val (.int (1 : Int32)), .val (.int (2 : Int32)), .val (.int ((0 : Int32) + (1 : Int32))), .val (.int jj0)]) rfl (pc' := 41) rfl ?_
 rw [show ((0 : Int32) + (1 : Int32)) = (1 : Int32) from by decide]
 refine w_goto X22 hx (d21_41 hby) (pc' := 3) (by decide) (by decide) ?_
 refine w_iload X22 hx (d21_3 hby) rfl (pc' := 5) rfl ?_
 refine w_iload X22 hx (d21_5 hby) rfl (pc' := 7) rfl ?_
 refine w_icN X22 hx (d21_7 hby) (tlt (by decide : (1 : Int32) < (2 : Int32))).2.1 (pc' := 10) rfl ?_
 refine w_aloadN X22 hx (d21_10 hby) rfl rfl (pc' := 11) rfl ?_
 refine w_iloadN X22 hx (d21_11 hby) rfl (pc' := 12) rfl ?_
 have f27 : Arv Z h22 a0 k_a0 .char (2 : Int32) [(.int jj0), (.int jj1)] (.int (0 : Int32)) := (V_a0.other W22 zz3)
 obtain ⟨clu28, Aru28, qu28, Su28, Nu28, Hu28, Gu28⟩ := id f27
 have hinu28 := inb_of (j := (1 : Int32)) Su28 ⟨by decide, by decide⟩
 refine w_caload X22 hx hZ e22 Aru28 hinu28 (Hu28.at hinu28 rfl) (d21_12 hby) (pc' := 13) rfl ?_
 refine w_istore X22 hx (d21_13 hby) (L' := #[.val (.ref a0), .val (.int (1 : Int32)), .val (.ref a2), .val (.int (1 : Int32)), .val (.int (2 : Int32)), .val (.int (1 : Int32)), .val (.int jj1)]) rfl (pc' := 15) rfl ?_
 refine w_iload X22 hx (d21_15 hby) rfl (pc' := 17) rfl ?_
 refine w_sipush X22 hx (d21_17 hby) (v := (255 : Int32)) rfl (pc' := 20) rfl ?_
 refine w_icY X22 hx (d21_20 hby) (flt hP_5).2.2.2 (pc' := 26) (by decide) (by decide) ?_
 refine w_aloadN X22 hx (d21_26 hby) rfl rfl (pc' := 27) rfl ?_
 refine w_iloadN X22 hx (d21_27 hby) rfl (pc' := 28) rfl ?_
 refine w_iload X22 hx (d21_28 hby) rfl (pc' := 30) rfl ?_
 refine w_i2b X22 hx (d21_30 hby) (pc' := 31) rfl ?_
 obtain ⟨clu29, Aru29, qu29, Su29, Nu29, Hu29, Gu29⟩ := id V24
 have hinu29 := inb_of (j := (1 : Int32)) Su29 ⟨by decide, by decide⟩
 refine w_stB X22 hx hZ e22 Aru29 hinu29 (d21_31 hby) (pc' := 32) rfl ?_
 intro T30 h30 X30 e30 W30
 have V31 : Arv Z h30 a2 k_a2 .byte (2 : Int32) [(.int (jj0.toInt8.toInt32)), (.int (nar .byte (jj1.toInt8.toInt32)))] (.int (0 : Int32)) := Arv.set Aru29 qu29 Su29 Nu29 Hu29 Gu29 (fits_nar_byte _) W30 1 rfl (Nat.le_of_ble_eq_true rfl)
 have V32 : Arv Z h30 a2 k_a2 .byte (2 : Int32) [(.int (jj0.toInt8.toInt32)), (.int (jj1.toInt8.toInt32))] (.int (0 : Int32)) := by rw [nar_b] at V31; exact V31
 have K33 : Keep h0 h30 [a2] := K25.wr W30 (Or.inl (by simp))
 have N34 := Fr.snoc X30 N26 zz2
 refine w_iinc X30 hx (d21_32 hby) (v := (1 : Int32)) rfl rfl (L' := #[.val (.ref a0), .val (.int ((1 : Int32) + (1 : Int32))), .val (.ref a2), .val (.int (1 : Int32)), .val (.int (2 : Int32)), .val (.int (1 : Int32)), .val (.int jj1)]) rfl (pc' := 35) rfl ?_
 rw [show ((1 : Int32) + (1 : Int32)) = (2 : Int32) from by decide]
 refine w_iinc X30 hx (d21_35 hby) (v := (1 : Int32)) rfl rfl (L' := #[.val (.ref a0), .val (.int (2 : Int32)), .val (.ref a2), .val (.int ((1 : Int32) + (1 : Int32))), .val (.int (2 : Int32)), .val (.int (1 : Int32)), .val (.int jj1)]) rfl (pc' := 38) rfl ?_
 rw [show ((1 : Int32) + (1 : Int32)) = (2 : Int32) from by decide]
 refine w_iinc X30 hx (d21_38 hby) (v := (1 : Int32)) rfl rfl (L' := #[.val (.ref a0), .val (.int (2 : Int32)), .val (.ref a2), .val (.int (2 : Int32)), .val (.int (2 : Int32)), .val (.int ((1 : Int32) + (1 : Int32))), .val (.int jj1)]) rfl (pc' := 41) rfl ?_
 rw [show ((1 : Int32) + (1 : Int32)) = (2 : Int32) from by decide]
 refine w_goto X30 hx (d21_41 hby) (pc' := 3) (by decide) (by decide) ?_
 refine w_iload X30 hx (d21_3 hby) rfl (pc' := 5) rfl ?_
 refine w_iload X30 hx (d21_5 hby) rfl (pc' := 7) rfl ?_
 refine w_icY X30 hx (d21_7 hby) (flt (by decide : ¬ ((2 : Int32) < (2 : Int32)))).2.1 (pc' := 44) (by decide) (by decide) ?_
 refine w_iload X30 hx (d21_44 hby) rfl (pc' := 46) rfl ?_
 exact w_done X30 hlk (v := some (.int (2 : Int32))) e30 (fun h => by rw [hret] at h; cases h) (fun fs hr => retI X30 hx hret (d21_46 hby) hr) (by decide) (by decide) (⟨rfl, N34, K33, V32⟩)
theorem ef_m20_18 (m : MethodId) (a0 : Addr)  : entryFrame m #[(.ref a0), (.int (0 : Int32)), (.int (2 : Int32))] 6 = mkF m 0 #[.val (.ref a0), .val (.int (0 : Int32)), .val (.int (2 : Int32)), .unset, .unset, .unset] [] := by first | (simp [entryFrame, mkF, argsToLocals, Value.category]; done) | rfl
def Q_m20_18 (Z : State) (a0 : Addr) (k_a0 : ClassId) (jj0 : Int32) (jj1 : Int32) (h0 : Heap) (n0 : Nat) (v : Option Value) (h : Heap) (L : List Loc) : Prop := ∃ (r0 : Addr) (c0 : ClassId), v = some (.ref r0) ∧ Fr n0 L ∧ Keep h0 h [] ∧ h0.size ≤ r0 ∧ Exa Z h r0 "[B" ∧ Arv Z h r0 c0 .byte (2 : Int32) [(.int (jj0.toInt8.toInt32)), (.int (jj1.toInt8.toInt32))] (.int (0 : Int32))
theorem rm_m20_18 (l : Launch) (Z : State) (aZ : Array Value) (hw : ∀ d ∈ tables_1, d.before aZ Z = true) (ws : List Jvm.Cond) (a0 : Addr) (k_a0 : ClassId) (jj0 : Int32) (jj1 : Int32) (h0 : Heap) (n0 : Nat) (Z0 : n0 ≤ h0.size) (V_a0 : Arv Z h0 a0 k_a0 .char (2 : Int32) [(.int jj0), (.int jj1)] (.int (0 : Int32))) (hP_1 : ¬ ((255 : Int32) < jj0)) (hP_2 : ¬ ((255 : Int32) < jj1)) :
    MetN l Z yn_20 jdk_52_method_16_code 6 (some (.array .byte)) ws ({ frames := 1, cells := 1, slots := 2, locals := 18 } : Room) #[(.ref a0), (.int (0 : Int32)), (.int (2 : Int32))] h0 (Q_m20_18 Z a0 k_a0 jj0 jj1 h0 n0) := by
 refine MetN.of (plainFor_of_name pn_1) ?_
 intro p e s m below meth c s₁ hret hx hby hml hown hnm hlk hZ X0 e0
 have N0 := Fr.nil n0
 rw [ef_m20_18 m a0]
 refine w_iloadN X0 hx (d20_0 hby) rfl (pc' := 1) rfl ?_
 refine w_newPE X0 hx .byte .byte 2 "[B" rfl hZ (wd_10 hw) e0 (d20_1 hby) (by decide) (by decide) (by decide) (by decide) (by decide) (by decide +kernel) (pc' := 3) rfl ?_
 intro T20 h20 k20 b20 X20 e20 E20 g20 A20 Q20
 have ge21 : n0 ≤ b20 := Nat.le_trans Z0 (Nat.le_of_eq g20.symm)
 have sz22 : h0.size ≤ b20 := Nat.le_trans (Nat.le_refl _) (Nat.le_of_eq g20.symm)
 have K23 : Keep h0 h20 [] := (Keep.refl h0 []).ext E20
 have V24 : Arv Z h20 b20 k20 .byte (2 : Int32) [(.int (0 : Int32)), (.int (0 : Int32))] (.int (0 : Int32)) := (Arv.new A20 (by decide)).pad (pad_rep [] (.int (0 : Int32)) 2)
 refine w_astoreN X20 hx (d20_3 hby) rfl (L' := #[.val (.ref a0), .val (.int (0 : Int32)), .val (.int (2 : Int32)), .val (.ref b20), .unset, .unset]) rfl (pc' := 4) rfl ?_
 refine w_aloadN X20 hx (d20_4 hby) rfl rfl (pc' := 5) rfl ?_
 refine w_iloadN X20 hx (d20_5 hby) rfl (pc' := 6) rfl ?_
 refine w_aloadN X20 hx (d20_6 hby) rfl rfl (pc' := 7) rfl ?_
 refine w_iconst X20 hx (d20_7 hby) (v := (0 : Int32)) rfl (pc' := 8) rfl ?_
 refine w_iloadN X20 hx (d20_8 hby) rfl (pc' := 9) rfl ?_
 have f25 : Arv Z h20 a0 k_a0 .char (2 : Int32) [(.int jj0), (.int jj1)] (.int (0 : Int32)) := (V_a0.ext E20)
 have ne26 : a0 ≠ b20 := (Nat.ne_of_lt (Nat.lt_of_lt_of_le V_a0.lt (Nat.le_trans (Nat.le_refl _) (Nat.le_of_eq g20.symm))))
 refine w_static X20 hx (y := yn_21) hown (mvT hZ (wd_116 hw)) (mvT hZ (wd_117 hw)) (mvT hZ (wd_114 hw)) (mvT hZ (wd_118 hw)) (by decide) (backOf (W := 0) (rm_m21_19 l Z aZ hw [] a0 b20 k_a0 jj0 jj1 k20 h20 n0 (Nat.le_trans Z0 E20.1) f25 hP_1 V24 ge21 ne26 hP_2) hZ (wd_118 hw) (wd_114 hw) (by decide) (by decide)) (by rw [hml]; rfl) [(.ref a0), (.int (0 : Int32)), (.ref b20), (.int (0 : Int32)), (.int (2 : Int32))] (lenOf pd_2 rfl) rfl (Nat.le_of_eq rfl) (d20_9 hby) (fun _ _ => ⟨rfl, e20, (by decide : 1 + 0 ≤ _), (by decide : 2 + 0 ≤ _)⟩) (pc' := 12) rfl ?_
 rintro _ _ ⟨T27, L27, k27, n27⟩ X27 ⟨Lc27, hQ27, l27, y27, z27⟩
 dsimp only [Pt.U, Pt.locs, Pt.cells, Pt.slots] at X27 l27 y27 z27 hQ27 ⊢
 subst l27 y27 z27
 obtain ⟨rfl, N27q, K27, g27_0⟩ := hQ27
 have N28 := Fr.app N0 N27q
 have K29 : Keep h0 T27.heap [] := K23.trans K27 (allS (Or.inr sz22) (all0 (P := fun x => x ∈ [] ∨ h0.size ≤ x)))
 show Runs _ _ _ _ (T27.setTop (mkF m 12 #[.val (.ref a0), .val (.int (0 : Int32)), .val (.int (2 : Int32)), .val (.ref b20), .unset, .unset] [(.int (2 : Int32))]))
 refine w_istore X27 hx (d20_12 hby) (L' := #[.val (.ref a0), .val (.int (0 : Int32)), .val (.int (2 : Int32)), .val (.ref b20), .val (.int (2 : Int32)), .unset]) rfl (pc' := 14) rfl ?_
 refine w_iload X27 hx (d20_14 hby) rfl (pc' := 16) rfl ?_
 refine w_iloadN X27 hx (d20_16 hby) rfl (pc' := 17) rfl ?_
 refine w_icY X27 hx (d20_17 hby) (teq (by decide : (2 : Int32) = (2 : Int32))).1 (pc' := 57) (by decide) (by decide) ?_
 refine w_aloadN X27 hx (d20_57 hby) rfl rfl (pc' := 58) rfl ?_
 have f30 : Exa Z T27.heap b20 "[B" := (Q20.keep K27)
 exact w_done X27 hlk (v := some (.ref b20)) rfl (fun h => by rw [hret] at h; cases h) (fun fs hr => retOut X27 hx hret rfl (Or.inr (Or.inr (Or.inr (Or.inr ⟨rfl, rfl, rfl⟩)))) (d20_58 hby) hr) (by decide) (by decide) (⟨b20, k20, rfl, N28, K29, sz22, f30, g27_0⟩)
theorem ef_m22_20 (m : MethodId) (a0 : Addr)  : entryFrame m #[(.ref a0), (.int (2 : Int32))] 2 = mkF m 0 #[.val (.ref a0), .val (.int (2 : Int32))] [] := by first | (simp [entryFrame, mkF, argsToLocals, Value.category]; done) | rfl
def Q_m22_20 (Z : State) (a0 : Addr) (k_a0 : ClassId) (jj0 : Int32) (jj1 : Int32) (h0 : Heap) (n0 : Nat) (v : Option Value) (h : Heap) (L : List Loc) : Prop := v = some (.int (0 : Int32)) ∧ Fr n0 L ∧ h = h0
theorem rm_m22_20 (l : Launch) (Z : State) (aZ : Array Value) (hw : ∀ d ∈ tables_1, d.before aZ Z = true) (ws : List Jvm.Cond) (a0 : Addr) (k_a0 : ClassId) (jj0 : Int32) (jj1 : Int32) (h0 : Heap) (n0 : Nat) (Z0 : n0 ≤ h0.size) (V_a0 : Arv Z h0 a0 k_a0 .byte (2 : Int32) [(.int jj0), (.int jj1)] (.int (0 : Int32))) :
    MetN l Z yn_22 jdk_52_method_15_code 2 (some .byte) ws ({ frames := 0, cells := 0, slots := 0, locals := 0 } : Room) #[(.ref a0), (.int (2 : Int32))] h0 (Q_m22_20 Z a0 k_a0 jj0 jj1 h0 n0) := by
 refine MetN.of (plainFor_of_name pn_1) ?_
 intro p e s m below meth c s₁ hret hx hby hml hown hnm hlk hZ X0 e0
 have N0 := Fr.nil n0
 rw [ef_m22_20 m a0]
 refine w_iloadN X0 hx (d22_0 hby) rfl (pc' := 1) rfl ?_
 refine w_aloadN X0 hx (d22_1 hby) rfl rfl (pc' := 2) rfl ?_
 refine w_alen X0 hx hZ e0 V_a0 (d22_2 hby) (pc' := 3) rfl ?_
 refine w_isub X0 hx (d22_3 hby) (pc' := 4) rfl ?_
 rw [show ((2 : Int32) - (2 : Int32)) = (0 : Int32) from by decide]
 refine w_bipush X0 hx (d22_4 hby) (v := (31 : Int32)) rfl (pc' := 6) rfl ?_
 refine w_iushr X0 hx (d22_6 hby) (pc' := 7) rfl ?_
 rw [show (((0 : Int32).toUInt32 >>> ((31 : Int32) &&& 31).toUInt32).toInt32) = (0 : Int32) from by decide]
 refine w_i2b X0 hx (d22_7 hby) (pc' := 8) rfl ?_
 rw [show ((0 : Int32).toInt8.toInt32) = (0 : Int32) from by decide]
 exact w_done X0 hlk (v := some (.int (0 : Int32))) e0 (fun h => by rw [hret] at h; cases h) (fun fs hr => retN X0 hx (t := .byte) hret (by simp) (d22_8 hby) hr) (by decide) (by decide) (⟨rfl, N0, rfl⟩)
theorem ef_m19_17 (m : MethodId) (a0 : Addr) (a1 : Addr)  : entryFrame m #[(.ref a0), (.ref a1), (.int (0 : Int32)), (.int (2 : Int32)), .null] 6 = mkF m 0 #[.val (.ref a0), .val (.ref a1), .val (.int (0 : Int32)), .val (.int (2 : Int32)), .val .null, .unset] [] := by first | (simp [entryFrame, mkF, argsToLocals, Value.category]; done) | rfl
def Q_m19_17 (Z : State) (a0 : Addr) (a1 : Addr) (jj0 : Int32) (k_a1 : ClassId) (jj1 : Int32) (jj2 : Int32) (h0 : Heap) (n0 : Nat) (v : Option Value) (h : Heap) (L : List Loc) : Prop := ∃ (r0 : Addr) (c0 : ClassId), v = none ∧ Fr n0 L ∧ Keep h0 h [a0] ∧ h0.size ≤ r0 ∧ Exa Z h r0 "[B" ∧ Arv Z h r0 c0 .byte (2 : Int32) [(.int (jj1.toInt8.toInt32)), (.int (jj2.toInt8.toInt32))] (.int (0 : Int32)) ∧ Exa Z h a0 kc0 ∧ Fld Z h a0 kc0 "coder" "B" (.int (0 : Int32)) ∧ Fld Z h a0 kc0 "value" "[B" (.ref r0) ∧ Fld Z h a0 kc0 "hash" "I" (.int (0 : Int32)) ∧ Fld Z h a0 kc0 "hashIsZero" "Z" (.int (0 : Int32))
theorem rm_m19_17 (l : Launch) (Z : State) (aZ : Array Value) (hw : ∀ d ∈ tables_1, d.before aZ Z = true) (ws : List Jvm.Cond) (a0 : Addr) (a1 : Addr) (jj0 : Int32) (k_a1 : ClassId) (jj1 : Int32) (jj2 : Int32) (h0 : Heap) (n0 : Nat) (Z0 : n0 ≤ h0.size) (zz3 : Sta Z Z.heap kc0 "COMPACT_STRINGS" "Z" (.int jj0)) (O0 : Old Z n0 h0) (hP_2 : ¬ (jj0 = (0 : Int32))) (V_a1 : Arv Z h0 a1 k_a1 .char (2 : Int32) [(.int jj1), (.int jj2)] (.int (0 : Int32))) (hP_4 : ¬ ((255 : Int32) < jj1)) (hP_5 : ¬ ((255 : Int32) < jj2)) (E_a0 : Exa Z h0 a0 kc0) (zz4 : Fld Z h0 a0 kc0 "coder" "B" (.int (0 : Int32))) (zz5 : n0 ≤ a0) (zz6 : Fld Z h0 a0 kc0 "value" "[B" .null) (zz7 : Fld Z h0 a0 kc0 "hash" "I" (.int (0 : Int32))) (zz8 : Fld Z h0 a0 kc0 "hashIsZero" "Z" (.int (0 : Int32))) :
    MetN l Z yn_19 jdk_42_method_149_code 6 none ws ({ frames := 2, cells := 1, slots := 2, locals := 35 } : Room) #[(.ref a0), (.ref a1), (.int (0 : Int32)), (.int (2 : Int32)), .null] h0 (Q_m19_17 Z a0 a1 jj0 k_a1 jj1 jj2 h0 n0) := by
 refine MetN.of (plainFor_of_name pn_0) ?_
 intro p e s m below meth c s₁ hret hx hby hml hown hnm hlk hZ X0 e0
 have N0 := Fr.nil n0
 rw [ef_m19_17 m a0 a1]
 refine w_aloadN X0 hx (d19_0 hby) rfl rfl (pc' := 1) rfl ?_
 refine w_initO X0 hx 0 hZ hown (wd_110 hw) (wd_18 hw) (wd_19 hw) e0 (by rw [hml]; rfl) (d19_1 hby) (by decide) (Nat.le_of_eq rfl) (by decide) (pc' := 4) rfl ?_
 intro T20 X20 e20
 refine w_iloadN X20 hx (d19_4 hby) rfl (pc' := 5) rfl ?_
 refine w_ifY X20 hx (d19_5 hby) (feq (by decide : ¬ ((2 : Int32) = (0 : Int32)))).2 (pc' := 27) (by decide) (by decide) ?_
 refine w_getS X20 hx "" hZ hown (Or.inl (wd_111 hw)) Via.refl e20 (zz3.ext O0.2) (d19_27 hby) (pc' := 30) rfl ?_
 intro T21 X21 e21
 refine w_ifN X21 hx (d19_30 hby) (feq hP_2).1 (pc' := 33) rfl ?_
 refine w_aloadN X21 hx (d19_33 hby) rfl rfl (pc' := 34) rfl ?_
 refine w_iloadN X21 hx (d19_34 hby) rfl (pc' := 35) rfl ?_
 refine w_iloadN X21 hx (d19_35 hby) rfl (pc' := 36) rfl ?_
 refine w_static X21 hx (y := yn_20) hown (mvT hZ (wd_112 hw)) (mvT hZ (wd_113 hw)) (mvT hZ (wd_114 hw)) (mvT hZ (wd_115 hw)) (by decide) (backOf (W := 0) (rm_m20_18 l Z aZ hw [] a1 k_a1 jj1 jj2 h0 n0 Z0 V_a1 hP_4 hP_5) hZ (wd_115 hw) (wd_114 hw) (by decide) (by decide)) (by rw [hml]; rfl) [(.ref a1), (.int (0 : Int32)), (.int (2 : Int32))] (lenOf pd_3 rfl) rfl (Nat.le_of_eq rfl) (d19_36 hby) (fun _ _ => ⟨rfl, e21, (by decide : 0 + 1 ≤ _), (by decide : 0 + 2 ≤ _)⟩) (pc' := 39) rfl ?_
 rintro _ _ ⟨T22, L22, k22, n22⟩ X22 ⟨Lc22, hQ22, l22, y22, z22⟩
 dsimp only [Pt.U, Pt.locs, Pt.cells, Pt.slots] at X22 l22 y22 z22 hQ22 ⊢
 subst l22 y22 z22
 obtain ⟨r0_22, c0_22, rfl, N22q, K22, g22_0, g22_1, g22_2⟩ := hQ22
 have N23 := Fr.app N0 N22q
 have K24 : Keep h0 T22.heap [a0] := (Keep.refl h0 [a0]).trans K22 (all0 (P := fun x => x ∈ [a0] ∨ h0.size ≤ x))
 have ge25 : n0 ≤ r0_22 := Nat.le_trans Z0 g22_0
 have sz26 : h0.size ≤ r0_22 := Nat.le_trans (Nat.le_refl _) g22_0
 show Runs _ _ _ _ (T22.setTop (mkF m 39 #[.val (.ref a0), .val (.ref a1), .val (.int (0 : Int32)), .val (.int (2 : Int32)), .val .null, .unset] [(.ref r0_22)]))
 refine w_astore X22 hx (d19_39 hby) rfl (L' := #[.val (.ref a0), .val (.ref a1), .val (.int (0 : Int32)), .val (.int (2 : Int32)), .val .null, .val (.ref r0_22)]) rfl (pc' := 41) rfl ?_
 refine w_aloadN X22 hx (d19_41 hby) rfl rfl (pc' := 42) rfl ?_
 refine w_aload X22 hx (d19_42 hby) rfl rfl (pc' := 44) rfl ?_
 refine w_iloadN X22 hx (d19_44 hby) rfl (pc' := 45) rfl ?_
 refine w_static X22 hx (y := yn_22) hown (mvT hZ (wd_119 hw)) (mvT hZ (wd_120 hw)) (mvT hZ (wd_114 hw)) (mvT hZ (wd_121 hw)) (by decide) (backOf (W := 1) (rm_m22_20 l Z aZ hw [] r0_22 c0_22 (jj1.toInt8.toInt32) (jj2.toInt8.toInt32) T22.heap n0 (Nat.le_trans Z0 K22.1) g22_2) hZ (wd_121 hw) (wd_114 hw) (by decide) (by decide)) (by rw [hml]; rfl) [(.ref r0_22), (.int (2 : Int32))] (lenOf pd_4 rfl) rfl (Nat.le_of_eq rfl) (d19_45 hby) (fun _ _ => ⟨rfl, rfl, (by decide : 1 + 0 ≤ _), (by decide : 2 + 0 ≤ _)⟩) (pc' := 48) rfl ?_
 rintro _ _ ⟨T27, L27, k27, n27⟩ X27 ⟨Lc27, hQ27, l27, y27, z27⟩
 dsimp only [Pt.U, Pt.locs, Pt.cells, Pt.slots] at X27 l27 y27 z27 hQ27 ⊢
 subst l27 y27 z27
 obtain ⟨rfl, N27q, e27⟩ := hQ27
 have N28 := Fr.app N23 N27q
 show Runs _ _ _ _ (T27.setTop (mkF m 48 #[.val (.ref a0), .val (.ref a1), .val (.int (0 : Int32)), .val (.int (2 : Int32)), .val .null, .val (.ref r0_22)] [(.int (0 : Int32)), (.ref a0)]))
 have f29 : Exa Z T22.heap a0 kc0 := (E_a0.keep K22)
 have f30 : Fld Z T22.heap a0 kc0 "coder" "B" (.int (0 : Int32)) := (zz4.keep K22 nin0)
 refine w_putF X27 hx "" hZ hown (Or.inl (wd_122 hw)) Via.refl e27 f30 f29 (Or.inr ⟨(wd_30 hw), rfl, hnm⟩) (wd_28 hw) (ty := .byte) (by decide) rfl rfl (d19_48 hby) (pc' := 51) rfl ?_
 intro T31 h31 X31 e31 W31
 have f32 : Fld Z h31 a0 kc0 "coder" "B" (.int (0 : Int32)) := f30.same W31
 have K33 : Keep h0 h31 [a0] := K24.wr W31 (Or.inl (by simp))
 have N34 := Fr.snoc X31 N28 zz5
 refine w_aloadN X31 hx (d19_51 hby) rfl rfl (pc' := 52) rfl ?_
 refine w_aload X31 hx (d19_52 hby) rfl rfl (pc' := 54) rfl ?_
 have f35 : Exa Z h31 a0 kc0 := (f29.wr W31)
 have f36 : Fld Z h31 a0 kc0 "value" "[B" .null := ((zz6.keep K22 nin0).other W31 (Or.inr (slot_ne (Or.inr (wd_29 hw)) (Or.inr (wd_30 hw)) (by decide) (t := (.array .byte)) (t' := .byte) (by decide) (by decide))))
 refine w_putF X31 hx "" hZ hown (Or.inl (wd_123 hw)) Via.refl e31 f36 f35 (Or.inr ⟨(wd_29 hw), rfl, hnm⟩) (wd_28 hw) (ty := (.array .byte)) (by decide) rfl rfl (d19_54 hby) (pc' := 57) rfl ?_
 intro T37 h37 X37 e37 W37
 have f38 : Fld Z h37 a0 kc0 "value" "[B" (.ref r0_22) := f36.same W37
 have K39 : Keep h0 h37 [a0] := K33.wr W37 (Or.inl (by simp))
 have N40 := Fr.snoc X37 N34 zz5
 have f41 : Exa Z h37 r0_22 "[B" := ((g22_1.wr W31).wr W37)
 have ne42 : a0 ≠ r0_22 := (Nat.ne_of_lt (Nat.lt_of_lt_of_le E_a0.lt (Nat.le_trans (Nat.le_refl _) g22_0)))
 have f43 : Arv Z h37 r0_22 c0_22 .byte (2 : Int32) [(.int (jj1.toInt8.toInt32)), (.int (jj2.toInt8.toInt32))] (.int (0 : Int32)) := ((g22_2.other W31 (Ne.symm ne42)).other W37 (Ne.symm ne42))
 have f44 : Exa Z h37 a0 kc0 := (f35.wr W37)
 have f45 : Fld Z h37 a0 kc0 "coder" "B" (.int (0 : Int32)) := (f32.other W37 (Or.inr (slot_ne (Or.inr (wd_30 hw)) (Or.inr (wd_29 hw)) (by decide) (t := .byte) (t' := (.array .byte)) (by decide) (by decide))))
 have f46 : Fld Z h37 a0 kc0 "hash" "I" (.int (0 : Int32)) := (((zz7.keep K22 nin0).other W31 (Or.inr (slot_ne (Or.inl (wd_129 hw)) (Or.inr (wd_30 hw)) (by decide) (t := .int) (t' := .byte) (by decide) (by decide)))).other W37 (Or.inr (slot_ne (Or.inl (wd_129 hw)) (Or.inr (wd_29 hw)) (by decide) (t := .int) (t' := (.array .byte)) (by decide) (by decide))))
 have f47 : Fld Z h37 a0 kc0 "hashIsZero" "Z" (.int (0 : Int32)) := (((zz8.keep K22 nin0).other W31 (Or.inr (slot_ne (Or.inl (wd_131 hw)) (Or.inr (wd_30 hw)) (by decide) (t := .boolean) (t' := .byte) (by decide) (by decide)))).other W37 (Or.inr (slot_ne (Or.inl (wd_131 hw)) (Or.inr (wd_29 hw)) (by decide) (t := .boolean) (t' := (.array .byte)) (by decide) (by decide))))
 exact w_done X37 hlk (v := none) e37 (fun _ => rfl) (fun fs hr => X37.returnOut hx hret (d19_57 hby) hr) (by decide) (by decide) (⟨r0_22, c0_22, rfl, N40, K39, sz26, f41, f43, f44, f45, f38, f46, f47⟩)
theorem ef_m18_16 (m : MethodId) (a0 : Addr) (a1 : Addr)  : entryFrame m #[(.ref a0), (.ref a1)] 2 = mkF m 0 #[.val (.ref a0), .val (.ref a1)] [] := by first | (simp [entryFrame, mkF, argsToLocals, Value.category]; done) | rfl
def Q_m18_16 (Z : State) (a0 : Addr) (a1 : Addr) (k_a1 : ClassId) (jj0 : Int32) (jj1 : Int32) (jj2 : Int32) (h0 : Heap) (n0 : Nat) (v : Option Value) (h : Heap) (L : List Loc) : Prop := ∃ (r0 : Addr) (c0 : ClassId), v = none ∧ Fr n0 L ∧ Keep h0 h [a0] ∧ h0.size ≤ r0 ∧ Exa Z h r0 "[B" ∧ Arv Z h r0 c0 .byte (2 : Int32) [(.int (jj0.toInt8.toInt32)), (.int (jj1.toInt8.toInt32))] (.int (0 : Int32)) ∧ Exa Z h a0 kc0 ∧ Fld Z h a0 kc0 "coder" "B" (.int (0 : Int32)) ∧ Fld Z h a0 kc0 "value" "[B" (.ref r0) ∧ Fld Z h a0 kc0 "hash" "I" (.int (0 : Int32)) ∧ Fld Z h a0 kc0 "hashIsZero" "Z" (.int (0 : Int32))
theorem rm_m18_16 (l : Launch) (Z : State) (aZ : Array Value) (hw : ∀ d ∈ tables_1, d.before aZ Z = true) (ws : List Jvm.Cond) (a0 : Addr) (a1 : Addr) (k_a1 : ClassId) (jj0 : Int32) (jj1 : Int32) (jj2 : Int32) (h0 : Heap) (n0 : Nat) (Z0 : n0 ≤ h0.size) (V_a1 : Arv Z h0 a1 k_a1 .char (2 : Int32) [(.int jj0), (.int jj1)] (.int (0 : Int32))) (hP_1 : ¬ (jj2 = (0 : Int32))) (hP_2 : ¬ ((255 : Int32) < jj0)) (hP_3 : ¬ ((255 : Int32) < jj1)) (E_a0 : Exa Z h0 a0 kc0) (zz3 : Fld Z h0 a0 kc0 "coder" "B" (.int (0 : Int32))) (zz4 : Fld Z h0 a0 kc0 "value" "[B" .null) (zz5 : Fld Z h0 a0 kc0 "hash" "I" (.int (0 : Int32))) (zz6 : Fld Z h0 a0 kc0 "hashIsZero" "Z" (.int (0 : Int32))) (zz7 : Sta Z Z.heap kc0 "COMPACT_STRINGS" "Z" (.int jj2)) (O0 : Old Z n0 h0) (zz8 : n0 ≤ a0) :
    MetN l Z yn_18 jdk_42_method_3_code 2 none ws ({ frames := 3, cells := 1, slots := 2, locals := 52 } : Room) #[(.ref a0), (.ref a1)] h0 (Q_m18_16 Z a0 a1 k_a1 jj0 jj1 jj2 h0 n0) := by
 refine MetN.of (plainFor_of_name pn_0) ?_
 intro p e s m below meth c s₁ hret hx hby hml hown hnm hlk hZ X0 e0
 have N0 := Fr.nil n0
 rw [ef_m18_16 m a0 a1]
 refine w_aloadN X0 hx (d18_0 hby) rfl rfl (pc' := 1) rfl ?_
 refine w_aloadN X0 hx (d18_1 hby) rfl rfl (pc' := 2) rfl ?_
 refine w_iconst X0 hx (d18_2 hby) (v := (0 : Int32)) rfl (pc' := 3) rfl ?_
 refine w_aloadN X0 hx (d18_3 hby) rfl rfl (pc' := 4) rfl ?_
 refine w_alen X0 hx hZ e0 V_a1 (d18_4 hby) (pc' := 5) rfl ?_
 refine w_null X0 hx (d18_5 hby) (pc' := 6) rfl ?_
 refine w_special X0 hx (y := yn_19) rfl hown (mvT hZ (wd_106 hw)) (mvT hZ (wd_107 hw)) (mvT hZ (wd_109 hw)) (by decide) (backOf (W := 0) (rm_m19_17 l Z aZ hw [] a0 a1 jj2 k_a1 jj0 jj1 h0 n0 Z0 zz7 O0 hP_1 V_a1 hP_2 hP_3 E_a0 zz3 zz8 zz4 zz5 zz6) hZ (wd_109 hw) (wd_27 hw) (by decide) (by decide)) (by rw [hml]; rfl) [(.ref a1), (.int (0 : Int32)), (.int (2 : Int32)), .null] (lenOf pd_0 rfl) rfl (Nat.le_of_eq rfl) (d18_6 hby) (fun _ _ => ⟨rfl, e0, (by decide : 0 + 1 ≤ _), (by decide : 0 + 2 ≤ _)⟩) (pc' := 9) rfl ?_
 rintro _ _ ⟨T20, L20, k20, n20⟩ X20 ⟨Lc20, hQ20, l20, y20, z20⟩
 dsimp only [Pt.U, Pt.locs, Pt.cells, Pt.slots] at X20 l20 y20 z20 hQ20 ⊢
 subst l20 y20 z20
 obtain ⟨r0_20, c0_20, rfl, N20q, K20, g20_0, g20_1, g20_2, g20_3, g20_4, g20_5, g20_6, g20_7⟩ := hQ20
 have N21 := Fr.app N0 N20q
 have K22 : Keep h0 T20.heap [a0] := (Keep.refl h0 [a0]).trans K20 (allS (Or.inl (by simp)) (all0 (P := fun x => x ∈ [a0] ∨ h0.size ≤ x)))
 have ge23 : n0 ≤ r0_20 := Nat.le_trans Z0 g20_0
 have sz24 : h0.size ≤ r0_20 := Nat.le_trans (Nat.le_refl _) g20_0
 show Runs _ _ _ _ (T20.setTop (mkF m 9 #[.val (.ref a0), .val (.ref a1)] []))
 exact w_done X20 hlk (v := none) rfl (fun _ => rfl) (fun fs hr => X20.returnOut hx hret (d18_9 hby) hr) (by decide) (by decide) (⟨r0_20, c0_20, rfl, N21, K22, sz24, g20_1, g20_2, g20_3, g20_4, g20_5, g20_6, g20_7⟩)
theorem ef_m2_7 (m : MethodId) (p0 : Int32) (p1 : Int32)  : entryFrame m #[(.int p0), (.int p1)] 3 = mkF m 0 #[.val (.int p0), .val (.int p1), .unset] [] := by first | (simp [entryFrame, mkF, argsToLocals, Value.category]; done) | rfl
def Q_m2_7 (Z : State) (p0 : Int32) (p1 : Int32) (jj0 : Int32) (h0 : Heap) (n0 : Nat) (v : Option Value) (h : Heap) (L : List Loc) (S : Addr → Prop) : Prop := (v = some .null ∧ Fr n0 L ∧ Keep h0 h [] ∧ p1 = (0 : Int32)) ∨ (∃ (r : Addr) (t : Addr) (kb : ClassId), v = some (.ref r) ∧ Fr n0 L ∧ Keep h0 h [] ∧ ¬ (p1 = (0 : Int32)) ∧ h0.size ≤ r ∧ S r ∧ Exa Z h r kc0 ∧ Fld Z h r kc0 "coder" "B" (.int (0 : Int32)) ∧ Fld Z h r kc0 "value" "[B" (.ref t) ∧ Fld Z h r kc0 "hash" "I" (.int (0 : Int32)) ∧ Fld Z h r kc0 "hashIsZero" "Z" (.int (0 : Int32)) ∧ EB Z h t (tn p1) ∧ Arv Z h t kb .byte (tn p1) (mI (tl p0 p1)) (.int (0 : Int32)))
theorem rm_m2_7 (l : Launch) (Z : State) (aZ : Array Value) (hw : ∀ d ∈ tables_1, d.before aZ Z = true) (ws : List Jvm.Cond) (p0 : Int32) (p1 : Int32) (jj0 : Int32) (h0 : Heap) (n0 : Nat) (Z0 : n0 ≤ h0.size) (zz1 : Sta Z Z.heap kc0 "COMPACT_STRINGS" "Z" (.int jj0)) (O0 : Old Z n0 h0) (hP_2 : ¬ (jj0 = (0 : Int32))) :
    MetH l Z EL yn_2 method_4_code 3 (some (.object kc0)) ws ({ frames := 4, cells := 6, slots := 12, locals := 66 } : Room) #[(.int p0), (.int p1)] h0 (Q_m2_7 Z p0 p1 jj0 h0 n0) [] := by
 refine MetH.of (plainFor_of_name pn_2) ?_
 intro p e s m below meth c s₁ hret hx hby hml hown hnm hlk hZ X0 e0 hh hH hsf hS0 C0
 have N0 := Fr.nil n0
 rw [ef_m2_7 m p0 p1]
 refine w_iloadN X0 hx (d2_0 hby) rfl (pc' := 1) rfl ?_
 by_cases hc20 : p1 = (0 : Int32)
 · refine w_ifN X0 hx (d2_1 hby) (teq hc20).2 (pc' := 4) rfl ?_
   refine w_null X0 hx (d2_4 hby) (pc' := 5) rfl ?_
   exact w_doneH X0 hlk (v := some .null) e0 hh hZ (own_EW hw) hS0 (Nat.le_refl _) C0 (fun h => by rw [hret] at h; cases h) (fun fs hr => retOut X0 hx hret rfl (Or.inr (Or.inr (Or.inr (Or.inr ⟨rfl, rfl, rfl⟩)))) (d2_5 hby) hr) (by decide) (by decide) (fun hsy => Or.inl ⟨rfl, N0, (Keep.refl h0 []), hc20⟩)
 · refine w_ifY X0 hx (d2_1 hby) (feq hc20).2 (pc' := 6) (by decide) (by decide) ?_
   refine w_iloadN X0 hx (d2_6 hby) rfl (pc' := 7) rfl ?_
   refine w_iconst X0 hx (d2_7 hby) (v := (1 : Int32)) rfl (pc' := 8) rfl ?_
   by_cases hc21 : p1 = (1 : Int32)
   · refine w_icN X0 hx (d2_8 hby) (teq hc21).2 (pc' := 11) rfl ?_
     refine w_new X0 hx hZ hown (wd_102 hw) (wd_28 hw) (wd_27 hw) e0 (d2_11 hby) (by decide) (by decide) (pc' := 14) rfl ?_
     intro T22 h22 b22 X22 e22 E22 g22 A22 D22
     have ge23 : n0 ≤ b22 := Nat.le_trans Z0 (Nat.le_of_eq g22.symm)
     have sz24 : h0.size ≤ b22 := Nat.le_trans (Nat.le_refl _) (Nat.le_of_eq g22.symm)
     have C25 : CHr Z EL s.vm h0 s.vm h22 := C0.trans (CHr.ext E22 C0.1)
     have K26 : Keep h0 h22 [] := (Keep.refl h0 []).ext E22
     have f27 : Fld Z h22 b22 kc0 "value" "[B" .null := D22 (Or.inr (wd_29 hw)) (ty := (.array .byte)) (by decide)
     have f28 : Fld Z h22 b22 kc0 "coder" "B" (.int (0 : Int32)) := D22 (Or.inr (wd_30 hw)) (ty := .byte) (by decide)
     have f29 : Fld Z h22 b22 kc0 "hash" "I" (.int (0 : Int32)) := D22 (Or.inl (wd_129 hw)) (ty := .int) (by decide)
     have f30 : Fld Z h22 b22 kc0 "hashIsZero" "Z" (.int (0 : Int32)) := D22 (Or.inl (wd_131 hw)) (ty := .boolean) (by decide)
     refine w_dup X22 hx (d2_14 hby) rfl (pc' := 15) rfl ?_
     refine w_iconst X22 hx (d2_15 hby) (v := (0 : Int32)) rfl (pc' := 16) rfl ?_
     refine w_newPE X22 hx .char .char 0 "[C" rfl hZ (wd_101 hw) e22 (d2_16 hby) (by decide) (by decide) (by decide) (by decide) (by decide) (by decide +kernel) (pc' := 18) rfl ?_
     intro T31 h31 k31 b31 X31 e31 E31 g31 A31 Q31
     have ge32 : n0 ≤ b31 := Nat.le_trans (Nat.le_trans Z0 E22.1) (Nat.le_of_eq g31.symm)
     have sz33 : h0.size ≤ b31 := Nat.le_trans E22.1 (Nat.le_of_eq g31.symm)
     have C34 : CHr Z EL s.vm h0 s.vm h31 := C25.trans (CHr.ext E31 C25.1)
     have K35 : Keep h0 h31 [] := K26.ext E31
     have V36 : Arv Z h31 b31 k31 .char (0 : Int32) [] (.int (0 : Int32)) := (Arv.new A31 (by decide)).pad (pad_rep [] (.int (0 : Int32)) 0)
     have f37 : Exa Z h31 b22 kc0 := (A22.ext E31)
     have f38 : Fld Z h31 b22 kc0 "value" "[B" .null := (f27.ext E31)
     have f39 : Fld Z h31 b22 kc0 "coder" "B" (.int (0 : Int32)) := (f28.ext E31)
     have f40 : Fld Z h31 b22 kc0 "hash" "I" (.int (0 : Int32)) := (f29.ext E31)
     have f41 : Fld Z h31 b22 kc0 "hashIsZero" "Z" (.int (0 : Int32)) := (f30.ext E31)
     have le42 : h0.size ≤ h31.size := (Nat.le_trans E22.1 E31.1)
     have y44 : Safe Z EL s.vm h31 b22 := (Safe.ext E31 C25.1 (Safe.ext E22 C0.1 (Safe.new (Nat.le_of_eq g22.symm))))
     refine w_specialS X31 hx (y := yn_18) rfl hown (mvT hZ (wd_103 hw)) (mvT hZ (wd_104 hw)) (mvT hZ (wd_105 hw)) (by decide) (backOfY (W := 1) (rm_m18_9 l Z aZ hw [] b22 b31 k31 h31 n0 (Nat.le_trans Z0 le42) V36 f37 f38 f39 f40 f41 ge23) hZ (wd_105 hw) (wd_27 hw) (by decide) (by decide) (own_EW hw) C34.1 (sfS y44 sf0) (allS (Nat.lt_of_lt_of_le A22.lt E31.1) all0)) (by rw [hml]; rfl) [(.ref b31)] (lenOf pd_1 rfl) rfl (Nat.le_of_eq rfl) (d2_18 hby) (fun _ _ => ⟨rfl, e31, (by decide : 2 + 4 ≤ _), (by decide : 4 + 8 ≤ _)⟩) (pc' := 21) rfl ?_
     rintro _ _ ⟨T43, L43, k43, n43⟩ XX43 hSS43 hg43 ⟨Lc43, hQ43, l43, y43, z43, A43⟩
     dsimp only [Pt.U, Pt.locs, Pt.cells, Pt.slots] at XX43 l43 y43 z43 hQ43 hSS43 hg43 A43 ⊢
     subst l43 y43 z43
     obtain ⟨X43, hS43, hZ43, hown43⟩ := rebS hS0 (Nat.le_trans (Nat.le_refl _) le42) XX43 hSS43 (e31 ▸ hg43) hZ hown
     obtain ⟨r0_43, c0_43, rfl, N43q, K43, g43_0, g43_1, g43_2, g43_3, g43_4, g43_5⟩ := hQ43
     have N45 := Fr.app N0 N43q
     have C46 : CHr Z EL s.vm h0 T43.vm T43.heap := C34.trans A43
     have K47 : Keep h0 T43.heap [] := K35.trans K43 (allS (Or.inr sz24) (all0 (P := fun x => x ∈ [] ∨ h0.size ≤ x)))
     show Runs _ _ _ _ (T43.setTop (mkF m 21 #[.val (.int p0), .val (.int p1), .unset] [(.ref b22)]))
     have y48 : Safe Z EL T43.vm T43.heap b22 := (CHr.safe A43 (Nat.lt_of_lt_of_le A22.lt E31.1) y44)
     have le49 : h22.size ≤ T43.heap.size := (Nat.le_trans E31.1 K43.1)
     exact w_doneH X43 hlk (v := some (.ref b22)) rfl hh hZ43 (own_EW hw) hS43 (Nat.le_refl _) C46 (fun h => by rw [hret] at h; cases h) (fun fs hr => retOut X43 hx hret rfl (Or.inr (Or.inr (Or.inr (Or.inr ⟨rfl, rfl, rfl⟩)))) (d2_21 hby) hr) (by decide) (by decide) (fun hsy => Or.inr (⟨b22, r0_43, c0_43, rfl, N45, K47, hc20, sz24, (hsy _ (Nat.lt_of_lt_of_le A22.lt le49) y48), g43_1, g43_3, g43_2, g43_4, g43_5, (by rw [hc21]; exact Or.inl rfl), (by rw [hc21]; exact g43_0)⟩))
   · refine w_icY X0 hx (d2_8 hby) (feq hc21).2 (pc' := 22) (by decide) (by decide) ?_
     refine w_iloadN X0 hx (d2_22 hby) rfl (pc' := 23) rfl ?_
     refine w_iconst X0 hx (d2_23 hby) (v := (2 : Int32)) rfl (pc' := 24) rfl ?_
     by_cases hc50 : p1 = (2 : Int32)
     · refine w_icN X0 hx (d2_24 hby) (teq hc50).2 (pc' := 27) rfl ?_
       refine w_iconst X0 hx (d2_27 hby) (v := (1 : Int32)) rfl (pc' := 28) rfl ?_
       refine w_newPE X0 hx .char .char 1 "[C" rfl hZ (wd_101 hw) e0 (d2_28 hby) (by decide) (by decide) (by decide) (by decide) (by decide) (by decide +kernel) (pc' := 30) rfl ?_
       intro T51 h51 k51 b51 X51 e51 E51 g51 A51 Q51
       have ge52 : n0 ≤ b51 := Nat.le_trans Z0 (Nat.le_of_eq g51.symm)
       have sz53 : h0.size ≤ b51 := Nat.le_trans (Nat.le_refl _) (Nat.le_of_eq g51.symm)
       have C54 : CHr Z EL s.vm h0 s.vm h51 := C0.trans (CHr.ext E51 C0.1)
       have K55 : Keep h0 h51 [] := (Keep.refl h0 []).ext E51
       have V56 : Arv Z h51 b51 k51 .char (1 : Int32) [(.int (0 : Int32))] (.int (0 : Int32)) := (Arv.new A51 (by decide)).pad (pad_rep [] (.int (0 : Int32)) 1)
       refine w_astoreN X51 hx (d2_30 hby) rfl (L' := #[.val (.int p0), .val (.int p1), .val (.ref b51)]) rfl (pc' := 31) rfl ?_
       refine w_aloadN X51 hx (d2_31 hby) rfl rfl (pc' := 32) rfl ?_
       refine w_iconst X51 hx (d2_32 hby) (v := (0 : Int32)) rfl (pc' := 33) rfl ?_
       refine w_iloadN X51 hx (d2_33 hby) rfl (pc' := 34) rfl ?_
       refine w_sipush X51 hx (d2_34 hby) (v := (255 : Int32)) rfl (pc' := 37) rfl ?_
       refine w_iand X51 hx (d2_37 hby) (pc' := 38) rfl ?_
       refine w_i2c X51 hx (d2_38 hby) (pc' := 39) rfl ?_
       obtain ⟨clu57, Aru57, qu57, Su57, Nu57, Hu57, Gu57⟩ := id V56
       have hinu57 := inb_of (j := (0 : Int32)) Su57 ⟨by decide, by decide⟩
       refine w_stC X51 hx hZ e51 Aru57 hinu57 (d2_39 hby) (pc' := 40) rfl ?_
       intro T58 h58 X58 e58 W58
       have C59 : CHr Z EL s.vm h0 s.vm h58 := C54.trans (CHr.wr W58 (Safe.exa hZ.alike Q51 (by decide) (by decide)) C54.1)
       have V60 : Arv Z h58 b51 k51 .char (1 : Int32) [(.int (nar .char ((p0 &&& (255 : Int32)).toUInt32.toUInt16.toUInt32.toInt32)))] (.int (0 : Int32)) := Arv.set Aru57 qu57 Su57 Nu57 Hu57 Gu57 (fits_nar_char _) W58 0 rfl (Nat.le_of_ble_eq_true rfl)
       have V61 : Arv Z h58 b51 k51 .char (1 : Int32) [(.int ((p0 &&& (255 : Int32)).toUInt32.toUInt16.toUInt32.toInt32))] (.int (0 : Int32)) := by rw [nar_c] at V60; exact V60
       have K62 : Keep h0 h58 [] := K55.wr W58 (Or.inr sz53)
       have N63 := Fr.snoc X58 N0 ge52
       refine w_new X58 hx hZ hown (wd_102 hw) (wd_28 hw) (wd_27 hw) e58 (d2_40 hby) (by decide) (by decide) (pc' := 43) rfl ?_
       intro T64 h64 b64 X64 e64 E64 g64 A64 D64
       have le66 : h0.size ≤ h58.size := (Nat.le_trans E51.1 (Keep.of_wr W58).1)
       have ge65 : n0 ≤ b64 := Nat.le_trans (Nat.le_trans Z0 le66) (Nat.le_of_eq g64.symm)
       have sz67 : h0.size ≤ b64 := Nat.le_trans le66 (Nat.le_of_eq g64.symm)
       have C68 : CHr Z EL s.vm h0 s.vm h64 := C59.trans (CHr.ext E64 C59.1)
       have K69 : Keep h0 h64 [] := K62.ext E64
       have f70 : Fld Z h64 b64 kc0 "value" "[B" .null := D64 (Or.inr (wd_29 hw)) (ty := (.array .byte)) (by decide)
       have f71 : Fld Z h64 b64 kc0 "coder" "B" (.int (0 : Int32)) := D64 (Or.inr (wd_30 hw)) (ty := .byte) (by decide)
       have f72 : Fld Z h64 b64 kc0 "hash" "I" (.int (0 : Int32)) := D64 (Or.inl (wd_129 hw)) (ty := .int) (by decide)
       have f73 : Fld Z h64 b64 kc0 "hashIsZero" "Z" (.int (0 : Int32)) := D64 (Or.inl (wd_131 hw)) (ty := .boolean) (by decide)
       refine w_dup X64 hx (d2_43 hby) rfl (pc' := 44) rfl ?_
       refine w_aloadN X64 hx (d2_44 hby) rfl rfl (pc' := 45) rfl ?_
       have f74 : Arv Z h64 b51 k51 .char (1 : Int32) [(.int ((p0 &&& (255 : Int32)).toUInt32.toUInt16.toUInt32.toInt32))] (.int (0 : Int32)) := (V61.ext E64)
       have f75 : Old Z n0 h64 := (((O0.ext E51).wr W58 ge52).ext E64)
       have le76 : h0.size ≤ h64.size := (Nat.le_trans le66 E64.1)
       refine w_special X64 hx (y := yn_18) rfl hown (mvT hZ (wd_103 hw)) (mvT hZ (wd_104 hw)) (mvT hZ (wd_105 hw)) (by decide) (backOf (W := 1) (rm_m18_11 l Z aZ hw [] b64 b51 k51 ((p0 &&& (255 : Int32)).toUInt32.toUInt16.toUInt32.toInt32) jj0 h64 n0 (Nat.le_trans Z0 le76) f74 hP_2 (own_and255 p0).2 A64 f71 f70 f72 f73 zz1 f75 ge65) hZ (wd_105 hw) (wd_27 hw) (by decide) (by decide)) (by rw [hml]; rfl) [(.ref b51)] (lenOf pd_1 rfl) rfl (Nat.le_of_eq rfl) (d2_45 hby) (fun _ _ => ⟨rfl, e64, (by decide : 2 + 1 ≤ _), (by decide : 5 + 1 ≤ _)⟩) (pc' := 48) rfl ?_
       rintro _ _ ⟨T77, L77, k77, n77⟩ X77 ⟨Lc77, hQ77, l77, y77, z77⟩
       dsimp only [Pt.U, Pt.locs, Pt.cells, Pt.slots] at X77 l77 y77 z77 hQ77 ⊢
       subst l77 y77 z77
       obtain ⟨r0_77, c0_77, rfl, N77q, K77, g77_0, g77_1, g77_2, g77_3, g77_4, g77_5, g77_6, g77_7⟩ := hQ77
       have N78 := Fr.app N63 N77q
       have y79 : Safe Z EL s.vm h64 b64 := (Safe.ext E64 C59.1 (Safe.new (Nat.le_of_eq g64.symm)))
       have C80 : CHr Z EL s.vm h0 s.vm T77.heap := C68.trans (CHr.keep K77 (sfS y79 sf0) C68.1)
       have K81 : Keep h0 T77.heap [] := K69.trans K77 (allS (Or.inr sz67) (all0 (P := fun x => x ∈ [] ∨ h0.size ≤ x)))
       have ge82 : n0 ≤ r0_77 := Nat.le_trans (Nat.le_trans Z0 le76) g77_0
       have sz83 : h0.size ≤ r0_77 := Nat.le_trans le76 g77_0
       show Runs _ _ _ _ (T77.setTop (mkF m 48 #[.val (.int p0), .val (.int p1), .val (.ref b51)] [(.ref b64)]))
       have y84 : Safe Z EL s.vm T77.heap b64 := (Safe.keep K77 (sfS y79 sf0) C68.1 y79)
       have le85 : h0.size ≤ T77.heap.size := (Nat.le_trans le76 K77.1)
       exact w_doneH X77 hlk (v := some (.ref b64)) rfl hh hZ (own_EW hw) hS0 (Nat.le_trans (Nat.le_refl _) le85) C80 (fun h => by rw [hret] at h; cases h) (fun fs hr => retOut X77 hx hret rfl (Or.inr (Or.inr (Or.inr (Or.inr ⟨rfl, rfl, rfl⟩)))) (d2_48 hby) hr) (by decide) (by decide) (fun hsy => Or.inr (⟨b64, r0_77, c0_77, rfl, N78, K81, hc20, sz67, (hsy _ (Nat.lt_of_lt_of_le A64.lt K77.1) y84), g77_3, g77_4, g77_5, g77_6, g77_7, (Or.inr g77_1), (by rw [hc50]; exact g77_2)⟩))
     · refine w_icY X0 hx (d2_24 hby) (feq hc50).2 (pc' := 49) (by decide) (by decide) ?_
       refine w_iconst X0 hx (d2_49 hby) (v := (2 : Int32)) rfl (pc' := 50) rfl ?_
       refine w_newPE X0 hx .char .char 2 "[C" rfl hZ (wd_101 hw) e0 (d2_50 hby) (by decide) (by decide) (by decide) (by decide) (by decide) (by decide +kernel) (pc' := 52) rfl ?_
       intro T86 h86 k86 b86 X86 e86 E86 g86 A86 Q86
       have ge87 : n0 ≤ b86 := Nat.le_trans Z0 (Nat.le_of_eq g86.symm)
       have sz88 : h0.size ≤ b86 := Nat.le_trans (Nat.le_refl _) (Nat.le_of_eq g86.symm)
       have C89 : CHr Z EL s.vm h0 s.vm h86 := C0.trans (CHr.ext E86 C0.1)
       have K90 : Keep h0 h86 [] := (Keep.refl h0 []).ext E86
       have V91 : Arv Z h86 b86 k86 .char (2 : Int32) [(.int (0 : Int32)), (.int (0 : Int32))] (.int (0 : Int32)) := (Arv.new A86 (by decide)).pad (pad_rep [] (.int (0 : Int32)) 2)
       refine w_astoreN X86 hx (d2_52 hby) rfl (L' := #[.val (.int p0), .val (.int p1), .val (.ref b86)]) rfl (pc' := 53) rfl ?_
       refine w_aloadN X86 hx (d2_53 hby) rfl rfl (pc' := 54) rfl ?_
       refine w_iconst X86 hx (d2_54 hby) (v := (0 : Int32)) rfl (pc' := 55) rfl ?_
       refine w_iloadN X86 hx (d2_55 hby) rfl (pc' := 56) rfl ?_
       refine w_sipush X86 hx (d2_56 hby) (v := (255 : Int32)) rfl (pc' := 59) rfl ?_
       refine w_iand X86 hx (d2_59 hby) (pc' := 60) rfl ?_
       refine w_i2c X86 hx (d2_60 hby) (pc' := 61) rfl ?_
       obtain ⟨clu92, Aru92, qu92, Su92, Nu92, Hu92, Gu92⟩ := id V91
       have hinu92 := inb_of (j := (0 : Int32)) Su92 ⟨by decide, by decide⟩
       refine w_stC X86 hx hZ e86 Aru92 hinu92 (d2_61 hby) (pc' := 62) rfl ?_
       intro T93 h93 X93 e93 W93
       have C94 : CHr Z EL s.vm h0 s.vm h93 := C89.trans (CHr.wr W93 (Safe.exa hZ.alike Q86 (by decide) (by decide)) C89.1)
       have V95 : Arv Z h93 b86 k86 .char (2 : Int32) [(.int (nar .char ((p0 &&& (255 : Int32)).toUInt32.toUInt16.toUInt32.toInt32))), (.int (0 : Int32))] (.int (0 : Int32)) := Arv.set Aru92 qu92 Su92 Nu92 Hu92 Gu92 (fits_nar_char _) W93 0 rfl (Nat.le_of_ble_eq_true rfl)
       have V96 : Arv Z h93 b86 k86 .char (2 : Int32) [(.int ((p0 &&& (255 : Int32)).toUInt32.toUInt16.toUInt32.toInt32)), (.int (0 : Int32))] (.int (0 : Int32)) := by rw [nar_c] at V95; exact V95
       have K97 : Keep h0 h93 [] := K90.wr W93 (Or.inr sz88)
       have N98 := Fr.snoc X93 N0 ge87
       refine w_aloadN X93 hx (d2_62 hby) rfl rfl (pc' := 63) rfl ?_
       refine w_iconst X93 hx (d2_63 hby) (v := (1 : Int32)) rfl (pc' := 64) rfl ?_
       refine w_iloadN X93 hx (d2_64 hby) rfl (pc' := 65) rfl ?_
       refine w_bipush X93 hx (d2_65 hby) (v := (8 : Int32)) rfl (pc' := 67) rfl ?_
       refine w_iushr X93 hx (d2_67 hby) (pc' := 68) rfl ?_
       refine w_sipush X93 hx (d2_68 hby) (v := (255 : Int32)) rfl (pc' := 71) rfl ?_
       refine w_iand X93 hx (d2_71 hby) (pc' := 72) rfl ?_
       refine w_i2c X93 hx (d2_72 hby) (pc' := 73) rfl ?_
       obtain ⟨clu99, Aru99, qu99, Su99, Nu99, Hu99, Gu99⟩ := id V96
       have hinu99 := inb_of (j := (1 : Int32)) Su99 ⟨by decide, by decide⟩
       refine w_stC X93 hx hZ e93 Aru99 hinu99 (d2_73 hby) (pc' := 74) rfl ?_
       intro T100 h100 X100 e100 W100
       have f101 : Exa Z h93 b86 "[C" := (Q86.wr W93)
       have C102 : CHr Z EL s.vm h0 s.vm h100 := C94.trans (CHr.wr W100 (Safe.exa hZ.alike f101 (by decide) (by decide)) C94.1)
       have V103 : Arv Z h100 b86 k86 .char (2 : Int32) [(.int ((p0 &&& (255 : Int32)).toUInt32.toUInt16.toUInt32.toInt32)), (.int (nar .char ((((p0.toUInt32 >>> ((8 : Int32) &&& 31).toUInt32).toInt32) &&& (255 : Int32)).toUInt32.toUInt16.toUInt32.toInt32)))] (.int (0 : Int32)) := Arv.set Aru99 qu99 Su99 Nu99 Hu99 Gu99 (fits_nar_char _) W100 1 rfl (Nat.le_of_ble_eq_true rfl)
       have V104 : Arv Z h100 b86 k86 .char (2 : Int32) [(.int ((p0 &&& (255 : Int32)).toUInt32.toUInt16.toUInt32.toInt32)), (.int ((((p0.toUInt32 >>> ((8 : Int32) &&& 31).toUInt32).toInt32) &&& (255 : Int32)).toUInt32.toUInt16.toUInt32.toInt32))] (.int (0 : Int32)) := by rw [nar_c] at V103; exact V103
       have K105 : Keep h0 h100 [] := K97.wr W100 (Or.inr sz88)
       have N106 := Fr.snoc X100 N98 ge87
       refine w_new X100 hx hZ hown (wd_102 hw) (wd_28 hw) (wd_27 hw) e100 (d2_74 hby) (by decide) (by decide) (pc' := 77) rfl ?_
       intro T107 h107 b107 X107 e107 E107 g107 A107 D107
       have le109 : h0.size ≤ h93.size := (Nat.le_trans E86.1 (Keep.of_wr W93).1)
       have le110 : h0.size ≤ h100.size := (Nat.le_trans le109 (Keep.of_wr W100).1)
       have ge108 : n0 ≤ b107 := Nat.le_trans (Nat.le_trans Z0 le110) (Nat.le_of_eq g107.symm)
       have sz111 : h0.size ≤ b107 := Nat.le_trans le110 (Nat.le_of_eq g107.symm)
       have C112 : CHr Z EL s.vm h0 s.vm h107 := C102.trans (CHr.ext E107 C102.1)
       have K113 : Keep h0 h107 [] := K105.ext E107
       have f114 : Fld Z h107 b107 kc0 "value" "[B" .null := D107 (Or.inr (wd_29 hw)) (ty := (.array .byte)) (by decide)
       have f115 : Fld Z h107 b107 kc0 "coder" "B" (.int (0 : Int32)) := D107 (Or.inr (wd_30 hw)) (ty := .byte) (by decide)
       have f116 : Fld Z h107 b107 kc0 "hash" "I" (.int (0 : Int32)) := D107 (Or.inl (wd_129 hw)) (ty := .int) (by decide)
       have f117 : Fld Z h107 b107 kc0 "hashIsZero" "Z" (.int (0 : Int32)) := D107 (Or.inl (wd_131 hw)) (ty := .boolean) (by decide)
       refine w_dup X107 hx (d2_77 hby) rfl (pc' := 78) rfl ?_
       refine w_aloadN X107 hx (d2_78 hby) rfl rfl (pc' := 79) rfl ?_
       have f118 : Arv Z h107 b86 k86 .char (2 : Int32) [(.int ((p0 &&& (255 : Int32)).toUInt32.toUInt16.toUInt32.toInt32)), (.int ((((p0.toUInt32 >>> ((8 : Int32) &&& 31).toUInt32).toInt32) &&& (255 : Int32)).toUInt32.toUInt16.toUInt32.toInt32))] (.int (0 : Int32)) := (V104.ext E107)
       have f119 : Old Z n0 h107 := ((((O0.ext E86).wr W93 ge87).wr W100 ge87).ext E107)
       have le120 : h0.size ≤ h107.size := (Nat.le_trans le110 E107.1)
       refine w_special X107 hx (y := yn_18) rfl hown (mvT hZ (wd_103 hw)) (mvT hZ (wd_104 hw)) (mvT hZ (wd_105 hw)) (by decide) (backOf (W := 1) (rm_m18_16 l Z aZ hw [] b107 b86 k86 ((p0 &&& (255 : Int32)).toUInt32.toUInt16.toUInt32.toInt32) ((((p0.toUInt32 >>> ((8 : Int32) &&& 31).toUInt32).toInt32) &&& (255 : Int32)).toUInt32.toUInt16.toUInt32.toInt32) jj0 h107 n0 (Nat.le_trans Z0 le120) f118 hP_2 (own_and255 p0).2 (own_and255 ((p0.toUInt32 >>> ((8 : Int32) &&& 31).toUInt32).toInt32)).2 A107 f115 f114 f116 f117 zz1 f119 ge108) hZ (wd_105 hw) (wd_27 hw) (by decide) (by decide)) (by rw [hml]; rfl) [(.ref b86)] (lenOf pd_1 rfl) rfl (Nat.le_of_eq rfl) (d2_79 hby) (fun _ _ => ⟨rfl, e107, (by decide : 2 + 1 ≤ _), (by decide : 6 + 2 ≤ _)⟩) (pc' := 82) rfl ?_
       rintro _ _ ⟨T121, L121, k121, n121⟩ X121 ⟨Lc121, hQ121, l121, y121, z121⟩
       dsimp only [Pt.U, Pt.locs, Pt.cells, Pt.slots] at X121 l121 y121 z121 hQ121 ⊢
       subst l121 y121 z121
       obtain ⟨r0_121, c0_121, rfl, N121q, K121, g121_0, g121_1, g121_2, g121_3, g121_4, g121_5, g121_6, g121_7⟩ := hQ121
       have N122 := Fr.app N106 N121q
       have y123 : Safe Z EL s.vm h107 b107 := (Safe.ext E107 C102.1 (Safe.new (Nat.le_of_eq g107.symm)))
       have C124 : CHr Z EL s.vm h0 s.vm T121.heap := C112.trans (CHr.keep K121 (sfS y123 sf0) C112.1)
       have K125 : Keep h0 T121.heap [] := K113.trans K121 (allS (Or.inr sz111) (all0 (P := fun x => x ∈ [] ∨ h0.size ≤ x)))
       have ge126 : n0 ≤ r0_121 := Nat.le_trans (Nat.le_trans Z0 le120) g121_0
       have sz127 : h0.size ≤ r0_121 := Nat.le_trans le120 g121_0
       show Runs _ _ _ _ (T121.setTop (mkF m 82 #[.val (.int p0), .val (.int p1), .val (.ref b86)] [(.ref b107)]))
       have y128 : Safe Z EL s.vm T121.heap b107 := (Safe.keep K121 (sfS y123 sf0) C112.1 y123)
       have le129 : h0.size ≤ T121.heap.size := (Nat.le_trans le120 K121.1)
       exact w_doneH X121 hlk (v := some (.ref b107)) rfl hh hZ (own_EW hw) hS0 (Nat.le_trans (Nat.le_refl _) le129) C124 (fun h => by rw [hret] at h; cases h) (fun fs hr => retOut X121 hx hret rfl (Or.inr (Or.inr (Or.inr (Or.inr ⟨rfl, rfl, rfl⟩)))) (d2_82 hby) hr) (by decide) (by decide) (fun hsy => Or.inr (⟨b107, r0_121, c0_121, rfl, N122, K125, hc20, sz111, (hsy _ (Nat.lt_of_lt_of_le A107.lt K121.1) y128), g121_3, g121_4, g121_5, g121_6, g121_7, (Or.inr g121_1), (by rw [tn_e hc21 hc50, tl_e hc21 hc50]; exact g121_2)⟩))
theorem ef_m3_21 (m : MethodId) (q0 : Int64) (p1 : Int32)  : entryFrame m #[(.long q0), (.int p1)] 4 = mkF m 0 #[.val (.long q0), .second, .val (.int p1), .unset] [] := by first | (simp [entryFrame, mkF, argsToLocals, Value.category]; done) | rfl
def Q_m3_21 (Z : State) (q0 : Int64) (p1 : Int32) (h0 : Heap) (n0 : Nat) (v : Option Value) (h : Heap) (L : List Loc) : Prop := ∃ (t : Addr) (kb : ClassId), v = some (.ref t) ∧ Fr n0 L ∧ Keep h0 h [] ∧ h0.size ≤ t ∧ Exa Z h t "[B" ∧ Arv Z h t kb .byte (bn p1) (mI (bl q0 p1)) (.int (0 : Int32))
theorem rm_m3_21 (l : Launch) (Z : State) (aZ : Array Value) (hw : ∀ d ∈ tables_1, d.before aZ Z = true) (ws : List Jvm.Cond) (q0 : Int64) (p1 : Int32) (h0 : Heap) (n0 : Nat) (Z0 : n0 ≤ h0.size) :
    MetN l Z yn_3 method_5_code 4 (some (.array .byte)) ws ({ frames := 0, cells := 1, slots := 3, locals := 0 } : Room) #[(.long q0), (.int p1)] h0 (Q_m3_21 Z q0 p1 h0 n0) := by
 refine MetN.of (plainFor_of_name pn_2) ?_
 intro p e s m below meth c s₁ hret hx hby hml hown hnm hlk hZ X0 e0
 have N0 := Fr.nil n0
 rw [ef_m3_21 m q0 p1]
 refine w_iloadN X0 hx (d3_0 hby) rfl (pc' := 1) rfl ?_
 by_cases hc20 : p1 = (0 : Int32)
 · refine w_ifN X0 hx (d3_1 hby) (teq hc20).2 (pc' := 4) rfl ?_
   refine w_iconst X0 hx (d3_4 hby) (v := (0 : Int32)) rfl (pc' := 5) rfl ?_
   refine w_newPE X0 hx .byte .byte 0 "[B" rfl hZ (wd_10 hw) e0 (d3_5 hby) (by decide) (by decide) (by decide) (by decide) (by decide) (by decide +kernel) (pc' := 7) rfl ?_
   intro T21 h21 k21 b21 X21 e21 E21 g21 A21 Q21
   have ge22 : n0 ≤ b21 := Nat.le_trans Z0 (Nat.le_of_eq g21.symm)
   have sz23 : h0.size ≤ b21 := Nat.le_trans (Nat.le_refl _) (Nat.le_of_eq g21.symm)
   have K24 : Keep h0 h21 [] := (Keep.refl h0 []).ext E21
   have V25 : Arv Z h21 b21 k21 .byte (0 : Int32) [] (.int (0 : Int32)) := (Arv.new A21 (by decide)).pad (pad_rep [] (.int (0 : Int32)) 0)
   exact w_done X21 hlk (v := some (.ref b21)) e21 (fun h => by rw [hret] at h; cases h) (fun fs hr => retOut X21 hx hret rfl (Or.inr (Or.inr (Or.inr (Or.inr ⟨rfl, rfl, rfl⟩)))) (d3_7 hby) hr) (by decide) (by decide) (⟨b21, k21, rfl, N0, K24, sz23, Q21, (by rw [hc20]; exact V25)⟩)
 · refine w_ifY X0 hx (d3_1 hby) (feq hc20).2 (pc' := 8) (by decide) (by decide) ?_
   refine w_iloadN X0 hx (d3_8 hby) rfl (pc' := 9) rfl ?_
   refine w_iconst X0 hx (d3_9 hby) (v := (1 : Int32)) rfl (pc' := 10) rfl ?_
   by_cases hc26 : p1 = (1 : Int32)
   · refine w_icN X0 hx (d3_10 hby) (teq hc26).2 (pc' := 13) rfl ?_
     refine w_iconst X0 hx (d3_13 hby) (v := (1 : Int32)) rfl (pc' := 14) rfl ?_
     refine w_newPE X0 hx .byte .byte 1 "[B" rfl hZ (wd_10 hw) e0 (d3_14 hby) (by decide) (by decide) (by decide) (by decide) (by decide) (by decide +kernel) (pc' := 16) rfl ?_
     intro T27 h27 k27 b27 X27 e27 E27 g27 A27 Q27
     have ge28 : n0 ≤ b27 := Nat.le_trans Z0 (Nat.le_of_eq g27.symm)
     have sz29 : h0.size ≤ b27 := Nat.le_trans (Nat.le_refl _) (Nat.le_of_eq g27.symm)
     have K30 : Keep h0 h27 [] := (Keep.refl h0 []).ext E27
     have V31 : Arv Z h27 b27 k27 .byte (1 : Int32) [(.int (0 : Int32))] (.int (0 : Int32)) := (Arv.new A27 (by decide)).pad (pad_rep [] (.int (0 : Int32)) 1)
     refine w_astoreN X27 hx (d3_16 hby) rfl (L' := #[.val (.long q0), .second, .val (.int p1), .val (.ref b27)]) rfl (pc' := 17) rfl ?_
     refine w_aloadN X27 hx (d3_17 hby) rfl rfl (pc' := 18) rfl ?_
     refine w_iconst X27 hx (d3_18 hby) (v := (0 : Int32)) rfl (pc' := 19) rfl ?_
     refine w_lloadN X27 hx (d3_19 hby) rfl (pc' := 20) rfl ?_
     refine w_l2i X27 hx (d3_20 hby) (pc' := 21) rfl ?_
     refine w_i2b X27 hx (d3_21 hby) (pc' := 22) rfl ?_
     obtain ⟨clu32, Aru32, qu32, Su32, Nu32, Hu32, Gu32⟩ := id V31
     have hinu32 := inb_of (j := (0 : Int32)) Su32 ⟨by decide, by decide⟩
     refine w_stB X27 hx hZ e27 Aru32 hinu32 (d3_22 hby) (pc' := 23) rfl ?_
     intro T33 h33 X33 e33 W33
     have V34 : Arv Z h33 b27 k27 .byte (1 : Int32) [(.int (nar .byte ((q0.toInt32).toInt8.toInt32)))] (.int (0 : Int32)) := Arv.set Aru32 qu32 Su32 Nu32 Hu32 Gu32 (fits_nar_byte _) W33 0 rfl (Nat.le_of_ble_eq_true rfl)
     have V35 : Arv Z h33 b27 k27 .byte (1 : Int32) [(.int ((q0.toInt32).toInt8.toInt32))] (.int (0 : Int32)) := by rw [nar_b] at V34; exact V34
     have K36 : Keep h0 h33 [] := K30.wr W33 (Or.inr sz29)
     have N37 := Fr.snoc X33 N0 ge28
     refine w_aloadN X33 hx (d3_23 hby) rfl rfl (pc' := 24) rfl ?_
     have f38 : Exa Z h33 b27 "[B" := (Q27.wr W33)
     exact w_done X33 hlk (v := some (.ref b27)) e33 (fun h => by rw [hret] at h; cases h) (fun fs hr => retOut X33 hx hret rfl (Or.inr (Or.inr (Or.inr (Or.inr ⟨rfl, rfl, rfl⟩)))) (d3_24 hby) hr) (by decide) (by decide) (⟨b27, k27, rfl, N37, K36, sz29, f38, (by rw [hc26]; exact V35)⟩)
   · refine w_icY X0 hx (d3_10 hby) (feq hc26).2 (pc' := 25) (by decide) (by decide) ?_
     refine w_iloadN X0 hx (d3_25 hby) rfl (pc' := 26) rfl ?_
     refine w_iconst X0 hx (d3_26 hby) (v := (2 : Int32)) rfl (pc' := 27) rfl ?_
     by_cases hc39 : p1 = (2 : Int32)
     · refine w_icN X0 hx (d3_27 hby) (teq hc39).2 (pc' := 30) rfl ?_
       refine w_iconst X0 hx (d3_30 hby) (v := (2 : Int32)) rfl (pc' := 31) rfl ?_
       refine w_newPE X0 hx .byte .byte 2 "[B" rfl hZ (wd_10 hw) e0 (d3_31 hby) (by decide) (by decide) (by decide) (by decide) (by decide) (by decide +kernel) (pc' := 33) rfl ?_
       intro T40 h40 k40 b40 X40 e40 E40 g40 A40 Q40
       have ge41 : n0 ≤ b40 := Nat.le_trans Z0 (Nat.le_of_eq g40.symm)
       have sz42 : h0.size ≤ b40 := Nat.le_trans (Nat.le_refl _) (Nat.le_of_eq g40.symm)
       have K43 : Keep h0 h40 [] := (Keep.refl h0 []).ext E40
       have V44 : Arv Z h40 b40 k40 .byte (2 : Int32) [(.int (0 : Int32)), (.int (0 : Int32))] (.int (0 : Int32)) := (Arv.new A40 (by decide)).pad (pad_rep [] (.int (0 : Int32)) 2)
       refine w_astoreN X40 hx (d3_33 hby) rfl (L' := #[.val (.long q0), .second, .val (.int p1), .val (.ref b40)]) rfl (pc' := 34) rfl ?_
       refine w_aloadN X40 hx (d3_34 hby) rfl rfl (pc' := 35) rfl ?_
       refine w_iconst X40 hx (d3_35 hby) (v := (0 : Int32)) rfl (pc' := 36) rfl ?_
       refine w_lloadN X40 hx (d3_36 hby) rfl (pc' := 37) rfl ?_
       refine w_l2i X40 hx (d3_37 hby) (pc' := 38) rfl ?_
       refine w_i2b X40 hx (d3_38 hby) (pc' := 39) rfl ?_
       obtain ⟨clu45, Aru45, qu45, Su45, Nu45, Hu45, Gu45⟩ := id V44
       have hinu45 := inb_of (j := (0 : Int32)) Su45 ⟨by decide, by decide⟩
       refine w_stB X40 hx hZ e40 Aru45 hinu45 (d3_39 hby) (pc' := 40) rfl ?_
       intro T46 h46 X46 e46 W46
       have V47 : Arv Z h46 b40 k40 .byte (2 : Int32) [(.int (nar .byte ((q0.toInt32).toInt8.toInt32))), (.int (0 : Int32))] (.int (0 : Int32)) := Arv.set Aru45 qu45 Su45 Nu45 Hu45 Gu45 (fits_nar_byte _) W46 0 rfl (Nat.le_of_ble_eq_true rfl)
       have V48 : Arv Z h46 b40 k40 .byte (2 : Int32) [(.int ((q0.toInt32).toInt8.toInt32)), (.int (0 : Int32))] (.int (0 : Int32)) := by rw [nar_b] at V47; exact V47
       have K49 : Keep h0 h46 [] := K43.wr W46 (Or.inr sz42)
       have N50 := Fr.snoc X46 N0 ge41
       refine w_aloadN X46 hx (d3_40 hby) rfl rfl (pc' := 41) rfl ?_
       refine w_iconst X46 hx (d3_41 hby) (v := (1 : Int32)) rfl (pc' := 42) rfl ?_
       refine w_lloadN X46 hx (d3_42 hby) rfl (pc' := 43) rfl ?_
       refine w_bipush X46 hx (d3_43 hby) (v := (8 : Int32)) rfl (pc' := 45) rfl ?_
       refine w_lushr X46 hx (d3_45 hby) (pc' := 46) rfl ?_
       refine w_l2i X46 hx (d3_46 hby) (pc' := 47) rfl ?_
       refine w_i2b X46 hx (d3_47 hby) (pc' := 48) rfl ?_
       obtain ⟨clu51, Aru51, qu51, Su51, Nu51, Hu51, Gu51⟩ := id V48
       have hinu51 := inb_of (j := (1 : Int32)) Su51 ⟨by decide, by decide⟩
       refine w_stB X46 hx hZ e46 Aru51 hinu51 (d3_48 hby) (pc' := 49) rfl ?_
       intro T52 h52 X52 e52 W52
       have V53 : Arv Z h52 b40 k40 .byte (2 : Int32) [(.int ((q0.toInt32).toInt8.toInt32)), (.int (nar .byte ((((q0.toUInt64 >>> ((8 : Int32) &&& 0x3f).toInt64.toUInt64).toInt64).toInt32).toInt8.toInt32)))] (.int (0 : Int32)) := Arv.set Aru51 qu51 Su51 Nu51 Hu51 Gu51 (fits_nar_byte _) W52 1 rfl (Nat.le_of_ble_eq_true rfl)
       have V54 : Arv Z h52 b40 k40 .byte (2 : Int32) [(.int ((q0.toInt32).toInt8.toInt32)), (.int ((((q0.toUInt64 >>> ((8 : Int32) &&& 0x3f).toInt64.toUInt64).toInt64).toInt32).toInt8.toInt32))] (.int (0 : Int32)) := by rw [nar_b] at V53; exact V53
       have K55 : Keep h0 h52 [] := K49.wr W52 (Or.inr sz42)
       have N56 := Fr.snoc X52 N50 ge41
       refine w_aloadN X52 hx (d3_49 hby) rfl rfl (pc' := 50) rfl ?_
       have f57 : Exa Z h52 b40 "[B" := ((Q40.wr W46).wr W52)
       exact w_done X52 hlk (v := some (.ref b40)) e52 (fun h => by rw [hret] at h; cases h) (fun fs hr => retOut X52 hx hret rfl (Or.inr (Or.inr (Or.inr (Or.inr ⟨rfl, rfl, rfl⟩)))) (d3_50 hby) hr) (by decide) (by decide) (⟨b40, k40, rfl, N56, K55, sz42, f57, (by rw [hc39]; exact V54)⟩)
     · refine w_icY X0 hx (d3_27 hby) (feq hc39).2 (pc' := 51) (by decide) (by decide) ?_
       refine w_iconst X0 hx (d3_51 hby) (v := (3 : Int32)) rfl (pc' := 52) rfl ?_
       refine w_newPE X0 hx .byte .byte 3 "[B" rfl hZ (wd_10 hw) e0 (d3_52 hby) (by decide) (by decide) (by decide) (by decide) (by decide) (by decide +kernel) (pc' := 54) rfl ?_
       intro T58 h58 k58 b58 X58 e58 E58 g58 A58 Q58
       have ge59 : n0 ≤ b58 := Nat.le_trans Z0 (Nat.le_of_eq g58.symm)
       have sz60 : h0.size ≤ b58 := Nat.le_trans (Nat.le_refl _) (Nat.le_of_eq g58.symm)
       have K61 : Keep h0 h58 [] := (Keep.refl h0 []).ext E58
       have V62 : Arv Z h58 b58 k58 .byte (3 : Int32) [(.int (0 : Int32)), (.int (0 : Int32)), (.int (0 : Int32))] (.int (0 : Int32)) := (Arv.new A58 (by decide)).pad (pad_rep [] (.int (0 : Int32)) 3)
       refine w_astoreN X58 hx (d3_54 hby) rfl (L' := #[.val (.long q0), .second, .val (.int p1), .val (.ref b58)]) rfl (pc' := 55) rfl ?_
       refine w_aloadN X58 hx (d3_55 hby) rfl rfl (pc' := 56) rfl ?_
       refine w_iconst X58 hx (d3_56 hby) (v := (0 : Int32)) rfl (pc' := 57) rfl ?_
       refine w_lloadN X58 hx (d3_57 hby) rfl (pc' := 58) rfl ?_
       refine w_l2i X58 hx (d3_58 hby) (pc' := 59) rfl ?_
       refine w_i2b X58 hx (d3_59 hby) (pc' := 60) rfl ?_
       obtain ⟨clu63, Aru63, qu63, Su63, Nu63, Hu63, Gu63⟩ := id V62
       have hinu63 := inb_of (j := (0 : Int32)) Su63 ⟨by decide, by decide⟩
       refine w_stB X58 hx hZ e58 Aru63 hinu63 (d3_60 hby) (pc' := 61) rfl ?_
       intro T64 h64 X64 e64 W64
       have V65 : Arv Z h64 b58 k58 .byte (3 : Int32) [(.int (nar .byte ((q0.toInt32).toInt8.toInt32))), (.int (0 : Int32)), (.int (0 : Int32))] (.int (0 : Int32)) := Arv.set Aru63 qu63 Su63 Nu63 Hu63 Gu63 (fits_nar_byte _) W64 0 rfl (Nat.le_of_ble_eq_true rfl)
       have V66 : Arv Z h64 b58 k58 .byte (3 : Int32) [(.int ((q0.toInt32).toInt8.toInt32)), (.int (0 : Int32)), (.int (0 : Int32))] (.int (0 : Int32)) := by rw [nar_b] at V65; exact V65
       have K67 : Keep h0 h64 [] := K61.wr W64 (Or.inr sz60)
       have N68 := Fr.snoc X64 N0 ge59
       refine w_aloadN X64 hx (d3_61 hby) rfl rfl (pc' := 62) rfl ?_
       refine w_iconst X64 hx (d3_62 hby) (v := (1 : Int32)) rfl (pc' := 63) rfl ?_
       refine w_lloadN X64 hx (d3_63 hby) rfl (pc' := 64) rfl ?_
       refine w_bipush X64 hx (d3_64 hby) (v := (8 : Int32)) rfl (pc' := 66) rfl ?_
       refine w_lushr X64 hx (d3_66 hby) (pc' := 67) rfl ?_
       refine w_l2i X64 hx (d3_67 hby) (pc' := 68) rfl ?_
       refine w_i2b X64 hx (d3_68 hby) (pc' := 69) rfl ?_
       obtain ⟨clu69, Aru69, qu69, Su69, Nu69, Hu69, Gu69⟩ := id V66
       have hinu69 := inb_of (j := (1 : Int32)) Su69 ⟨by decide, by decide⟩
       refine w_stB X64 hx hZ e64 Aru69 hinu69 (d3_69 hby) (pc' := 70) rfl ?_
       intro T70 h70 X70 e70 W70
       have V71 : Arv Z h70 b58 k58 .byte (3 : Int32) [(.int ((q0.toInt32).toInt8.toInt32)), (.int (nar .byte ((((q0.toUInt64 >>> ((8 : Int32) &&& 0x3f).toInt64.toUInt64).toInt64).toInt32).toInt8.toInt32))), (.int (0 : Int32))] (.int (0 : Int32)) := Arv.set Aru69 qu69 Su69 Nu69 Hu69 Gu69 (fits_nar_byte _) W70 1 rfl (Nat.le_of_ble_eq_true rfl)
       have V72 : Arv Z h70 b58 k58 .byte (3 : Int32) [(.int ((q0.toInt32).toInt8.toInt32)), (.int ((((q0.toUInt64 >>> ((8 : Int32) &&& 0x3f).toInt64.toUInt64).toInt64).toInt32).toInt8.toInt32)), (.int (0 : Int32))] (.int (0 : Int32)) := by rw [nar_b] at V71; exact V71
       have K73 : Keep h0 h70 [] := K67.wr W70 (Or.inr sz60)
       have N74 := Fr.snoc X70 N68 ge59
       refine w_aloadN X70 hx (d3_70 hby) rfl rfl (pc' := 71) rfl ?_
       refine w_iconst X70 hx (d3_71 hby) (v := (2 : Int32)) rfl (pc' := 72) rfl ?_
       refine w_lloadN X70 hx (d3_72 hby) rfl (pc' := 73) rfl ?_
       refine w_bipush X70 hx (d3_73 hby) (v := (16 : Int32)) rfl (pc' := 75) rfl ?_
       refine w_lushr X70 hx (d3_75 hby) (pc' := 76) rfl ?_
       refine w_l2i X70 hx (d3_76 hby) (pc' := 77) rfl ?_
       refine w_i2b X70 hx (d3_77 hby) (pc' := 78) rfl ?_
       obtain ⟨clu75, Aru75, qu75, Su75, Nu75, Hu75, Gu75⟩ := id V72
       have hinu75 := inb_of (j := (2 : Int32)) Su75 ⟨by decide, by decide⟩
       refine w_stB X70 hx hZ e70 Aru75 hinu75 (d3_78 hby) (pc' := 79) rfl ?_
       intro T76 h76 X76 e76 W76
       have V77 : Arv Z h76 b58 k58 .byte (3 : Int32) [(.int ((q0.toInt32).toInt8.toInt32)), (.int ((((q0.toUInt64 >>> ((8 : Int32) &&& 0x3f).toInt64.toUInt64).toInt64).toInt32).toInt8.toInt32)), (.int (nar .byte ((((q0.toUInt64 >>> ((16 : Int32) &&& 0x3f).toInt64.toUInt64).toInt64).toInt32).toInt8.toInt32)))] (.int (0 : Int32)) := Arv.set Aru75 qu75 Su75 Nu75 Hu75 Gu75 (fits_nar_byte _) W76 2 rfl (Nat.le_of_ble_eq_true rfl)
       have V78 : Arv Z h76 b58 k58 .byte (3 : Int32) [(.int ((q0.toInt32).toInt8.toInt32)), (.int ((((q0.toUInt64 >>> ((8 : Int32) &&& 0x3f).toInt64.toUInt64).toInt64).toInt32).toInt8.toInt32)), (.int ((((q0.toUInt64 >>> ((16 : Int32) &&& 0x3f).toInt64.toUInt64).toInt64).toInt32).toInt8.toInt32))] (.int (0 : Int32)) := by rw [nar_b] at V77; exact V77
       have K79 : Keep h0 h76 [] := K73.wr W76 (Or.inr sz60)
       have N80 := Fr.snoc X76 N74 ge59
       refine w_aloadN X76 hx (d3_79 hby) rfl rfl (pc' := 80) rfl ?_
       have f81 : Exa Z h76 b58 "[B" := (((Q58.wr W64).wr W70).wr W76)
       exact w_done X76 hlk (v := some (.ref b58)) e76 (fun h => by rw [hret] at h; cases h) (fun fs hr => retOut X76 hx hret rfl (Or.inr (Or.inr (Or.inr (Or.inr ⟨rfl, rfl, rfl⟩)))) (d3_80 hby) hr) (by decide) (by decide) (⟨b58, k58, rfl, N80, K79, sz60, f81, (by rw [bn_e hc20 hc26 hc39, bl_e hc20 hc26 hc39]; exact V78)⟩)
theorem ef_m6_23 (m : MethodId) (a0 : Addr) (a1 : Addr)  : entryFrame m #[(.ref a0), (.ref a1)] 2 = mkF m 0 #[.val (.ref a0), .val (.ref a1)] [] := by first | (simp [entryFrame, mkF, argsToLocals, Value.category]; done) | rfl
def Q_m6_23 (Z : State) (a0 : Addr) (a1 : Addr) (h0 : Heap) (n0 : Nat) (v : Option Value) (h : Heap) (L : List Loc) : Prop := v = some (.ref a0) ∧ Fr n0 L ∧ h = h0
theorem rm_m6_23 (l : Launch) (Z : State) (aZ : Array Value) (hw : ∀ d ∈ tables_1, d.before aZ Z = true) (ws : List Jvm.Cond) (a0 : Addr) (a1 : Addr) (h0 : Heap) (n0 : Nat) (Z0 : n0 ≤ h0.size) :
    MetN l Z yn_6 jdk_31_method_11_code 2 (some (.object kc3)) ws ({ frames := 0, cells := 0, slots := 0, locals := 0 } : Room) #[(.ref a0), (.ref a1)] h0 (Q_m6_23 Z a0 a1 h0 n0) := by
 refine MetN.of (plainFor_of_name pn_3) ?_
 intro p e s m below meth c s₁ hret hx hby hml hown hnm hlk hZ X0 e0
 have N0 := Fr.nil n0
 rw [ef_m6_23 m a0 a1]
 refine w_aloadN X0 hx (d6_0 hby) rfl rfl (pc' := 1) rfl ?_
 refine w_ifnonnullY X0 hx (d6_1 hby) (pc' := 13) (by decide) (by decide) ?_
 refine w_aloadN X0 hx (d6_13 hby) rfl rfl (pc' := 14) rfl ?_
 exact w_done X0 hlk (v := some (.ref a0)) e0 (fun h => by rw [hret] at h; cases h) (fun fs hr => retOut X0 hx hret rfl (Or.inr (Or.inr (Or.inr (Or.inr ⟨rfl, rfl, rfl⟩)))) (d6_14 hby) hr) (by decide) (by decide) (⟨rfl, N0, rfl⟩)
theorem ef_m4_22 (m : MethodId) (a0 : Addr) (p1 : Int32) (a4 : Addr)  : entryFrame m #[(.ref a0), (.int p1), .null, .null, (.ref a4)] 5 = mkF m 0 #[.val (.ref a0), .val (.int p1), .val .null, .val .null, .val (.ref a4)] [] := by first | (simp [entryFrame, mkF, argsToLocals, Value.category]; done) | rfl
def Q_m4_22 (Z : State) (a0 : Addr) (p1 : Int32) (a4 : Addr) (k_a4 : ClassId) (jj0 : Int32) (l_a4 : List Int32) (h0 : Heap) (n0 : Nat) (v : Option Value) (h : Heap) (L : List Loc) (S : Addr → Prop) : Prop := ∃ (r0 : Addr), v = none ∧ Fr n0 L ∧ Keep h0 h [a0] ∧ h0.size ≤ r0 ∧ S r0 ∧ Arv Z h r0 k_a4 .byte jj0 (mI l_a4) (.int (0 : Int32)) ∧ Exa Z h r0 "[B" ∧ Exa Z h a0 kc1 ∧ Fld Z h a0 kc1 "status" "I" (.int p1) ∧ Fld Z h a0 kc1 "contentType" "Ljava/lang/String;" .null ∧ Fld Z h a0 kc1 "location" "Ljava/lang/String;" .null ∧ Fld Z h a0 kc1 "body" "[B" (.ref r0)
theorem rm_m4_22 (l : Launch) (Z : State) (aZ : Array Value) (hw : ∀ d ∈ tables_1, d.before aZ Z = true) (ws : List Jvm.Cond) (a0 : Addr) (p1 : Int32) (a4 : Addr) (k_a4 : ClassId) (jj0 : Int32) (l_a4 : List Int32) (h0 : Heap) (n0 : Nat) (Z0 : n0 ≤ h0.size) (E_a0 : Exa Z h0 a0 kc1) (zz1 : Fld Z h0 a0 kc1 "status" "I" (.int (0 : Int32))) (zz2 : n0 ≤ a0) (zz3 : Fld Z h0 a0 kc1 "contentType" "Ljava/lang/String;" .null) (zz4 : Fld Z h0 a0 kc1 "location" "Ljava/lang/String;" .null) (E_a4 : Exa Z h0 a4 "[B") (V_a4 : Arv Z h0 a4 k_a4 .byte jj0 (mI l_a4) (.int (0 : Int32))) (zz5 : jj0.toNatClampNeg ≤ 3) (zz6 : Fld Z h0 a0 kc1 "body" "[B" .null) :
    MetH l Z EL yn_4 prog_12_method_1_code 5 none ws ({ frames := 1, cells := 3, slots := 23, locals := 15 } : Room) #[(.ref a0), (.int p1), .null, .null, (.ref a4)] h0 (Q_m4_22 Z a0 p1 a4 k_a4 jj0 l_a4 h0 n0) [] := by
 refine MetH.of (plainFor_of_name pn_4) ?_
 intro p e s m below meth c s₁ hret hx hby hml hown hnm hlk hZ X0 e0 hh hH hsf hS0 C0
 have N0 := Fr.nil n0
 rw [ef_m4_22 m a0 p1 a4]
 refine w_aloadN X0 hx (d4_0 hby) rfl rfl (pc' := 1) rfl ?_
 refine w_initO X0 hx 0 hZ hown (wd_17 hw) (wd_18 hw) (wd_19 hw) e0 (by rw [hml]; rfl) (d4_1 hby) (by decide) (Nat.le_of_eq rfl) (by decide) (pc' := 4) rfl ?_
 intro T20 X20 e20
 refine w_aloadN X20 hx (d4_4 hby) rfl rfl (pc' := 5) rfl ?_
 refine w_iloadN X20 hx (d4_5 hby) rfl (pc' := 6) rfl ?_
 refine w_putF X20 hx "" hZ hown (Or.inl (wd_20 hw)) Via.refl e20 zz1 E_a0 (Or.inr ⟨(wd_21 hw), rfl, hnm⟩) (wd_12 hw) (ty := .int) (by decide) rfl rfl (d4_6 hby) (pc' := 9) rfl ?_
 intro T21 h21 X21 e21 W21
 have C22 : CHr Z EL s.vm h0 s.vm h21 := C0.trans (CHr.wr W21 (Safe.exa hZ.alike E_a0 (by decide) (by decide)) C0.1)
 have f23 : Fld Z h21 a0 kc1 "status" "I" (.int p1) := zz1.same W21
 have K24 : Keep h0 h21 [a0] := (Keep.refl h0 [a0]).wr W21 (Or.inl (by simp))
 have N25 := Fr.snoc X21 N0 zz2
 refine w_aloadN X21 hx (d4_9 hby) rfl rfl (pc' := 10) rfl ?_
 refine w_aloadN X21 hx (d4_10 hby) rfl rfl (pc' := 11) rfl ?_
 have f26 : Exa Z h21 a0 kc1 := (E_a0.wr W21)
 have f27 : Fld Z h21 a0 kc1 "contentType" "Ljava/lang/String;" .null := (zz3.other W21 (Or.inr (slot_ne (Or.inr (wd_23 hw)) (Or.inr (wd_21 hw)) (by decide) (t := (.object kc0)) (t' := .int) (by decide) (by decide))))
 refine w_putF X21 hx "" hZ hown (Or.inl (wd_22 hw)) Via.refl e21 f27 f26 (Or.inr ⟨(wd_23 hw), rfl, hnm⟩) (wd_12 hw) (ty := (.object kc0)) (by decide) rfl rfl (d4_11 hby) (pc' := 14) rfl ?_
 intro T28 h28 X28 e28 W28
 have C29 : CHr Z EL s.vm h0 s.vm h28 := C22.trans (CHr.wr W28 (Safe.exa hZ.alike f26 (by decide) (by decide)) C22.1)
 have f30 : Fld Z h28 a0 kc1 "contentType" "Ljava/lang/String;" .null := f27.same W28
 have K31 : Keep h0 h28 [a0] := K24.wr W28 (Or.inl (by simp))
 have N32 := Fr.snoc X28 N25 zz2
 refine w_aloadN X28 hx (d4_14 hby) rfl rfl (pc' := 15) rfl ?_
 refine w_aloadN X28 hx (d4_15 hby) rfl rfl (pc' := 16) rfl ?_
 have f33 : Exa Z h28 a0 kc1 := (f26.wr W28)
 have f34 : Fld Z h28 a0 kc1 "location" "Ljava/lang/String;" .null := ((zz4.other W21 (Or.inr (slot_ne (Or.inr (wd_25 hw)) (Or.inr (wd_21 hw)) (by decide) (t := (.object kc0)) (t' := .int) (by decide) (by decide)))).other W28 (Or.inr (slot_ne (Or.inr (wd_25 hw)) (Or.inr (wd_23 hw)) (by decide) (t := (.object kc0)) (t' := (.object kc0)) (by decide) (by decide))))
 refine w_putF X28 hx "" hZ hown (Or.inl (wd_24 hw)) Via.refl e28 f34 f33 (Or.inr ⟨(wd_25 hw), rfl, hnm⟩) (wd_12 hw) (ty := (.object kc0)) (by decide) rfl rfl (d4_16 hby) (pc' := 19) rfl ?_
 intro T35 h35 X35 e35 W35
 have C36 : CHr Z EL s.vm h0 s.vm h35 := C29.trans (CHr.wr W35 (Safe.exa hZ.alike f33 (by decide) (by decide)) C29.1)
 have f37 : Fld Z h35 a0 kc1 "location" "Ljava/lang/String;" .null := f34.same W35
 have K38 : Keep h0 h35 [a0] := K31.wr W35 (Or.inl (by simp))
 have N39 := Fr.snoc X35 N32 zz2
 refine w_aloadN X35 hx (d4_19 hby) rfl rfl (pc' := 20) rfl ?_
 refine w_aload X35 hx (d4_20 hby) rfl rfl (pc' := 22) rfl ?_
 have le41 : h0.size ≤ h28.size := (Nat.le_trans (Keep.of_wr W21).1 (Keep.of_wr W28).1)
 have le42 : h0.size ≤ h35.size := (Nat.le_trans le41 (Keep.of_wr W35).1)
 obtain ⟨a40, T40, h40, k40, b40, c40, X40, e40, E40, hS40, hk40, hZ40, hown40, gE40, gC40, gV40, gA40, lt40, ltb40, A40, -, ns40, st40⟩ := ldcCH X35 hx hZ hown (wd_26 hw) (own_wS hw) e35 hS0 (Nat.le_trans (Nat.le_refl _) le42) (own_EW hw) (by simp [EL, x]) C36.1 (vs := [(.int (98 : Int32)), (.int (111 : Int32)), (.int (100 : Int32)), (.int (121 : Int32))]) (z := (4 : Int32)) (by decide +kernel) (by decide) (by decide) (g := (mkF m 22 #[.val (.ref a0), .val (.int p1), .val .null, .val .null, .val (.ref a4)] [(.ref a4), (.ref a0)])) rfl (d4_22 hby) (n := 16) (by decide +kernel) (by decide) (by decide) (by decide)
 refine Runs.by ?_ st40
 have C43 : CHr Z EL s.vm h0 T40.vm h40 := C36.trans A40
 have K44 : Keep h0 h40 [a0] := K38.ext E40
 show Runs _ _ _ _ (T40.setTop (mkF m 24 #[.val (.ref a0), .val (.int p1), .val .null, .val .null, .val (.ref a4)] [(.ref a40), (.ref a4), (.ref a0)]))
 have le45 : h0.size ≤ h40.size := (Nat.le_trans le42 E40.1)
 refine w_static X40 hx (y := yn_6) hown40 (mvT hZ40 (wd_33 hw)) (mvT hZ40 (wd_34 hw)) (mvT hZ40 (wd_35 hw)) (mvT hZ40 (wd_36 hw)) (by decide) (backOf (W := 1) (rm_m6_23 l Z aZ hw [] a4 a40 h40 n0 (Nat.le_trans Z0 le45) ) hZ40 (wd_36 hw) (wd_35 hw) (by decide) (by decide)) (by rw [hml]; rfl) [(.ref a4), (.ref a40)] (lenOf pd_7 rfl) rfl (Nat.le_of_eq rfl) (d4_24 hby) (fun _ _ => ⟨rfl, e40, (by decide : 2 + 0 ≤ _), (by decide : 20 + 0 ≤ _)⟩) (pc' := 27) rfl ?_
 rintro _ _ ⟨T46, L46, k46, n46⟩ X46 ⟨Lc46, hQ46, l46, y46, z46⟩
 dsimp only [Pt.U, Pt.locs, Pt.cells, Pt.slots] at X46 l46 y46 z46 hQ46 ⊢
 subst l46 y46 z46
 obtain ⟨rfl, N46q, e46⟩ := hQ46
 have N47 := Fr.app N39 N46q
 show Runs _ _ _ _ (T46.setTop (mkF m 27 #[.val (.ref a0), .val (.int p1), .val .null, .val .null, .val (.ref a4)] [(.ref a4), (.ref a0)]))
 have f48 : Exa Z h40 a4 "[B" := ((((E_a4.wr W21).wr W28).wr W35).ext E40)
 refine w_castY X46 hx hZ40 hown40 (wd_37 hw) e46 (Ins.self f48) (d4_27 hby) (pc' := 30) rfl ?_
 intro T49 X49 e49
 have f51 : Exa Z h40 a0 kc1 := ((f33.wr W35).ext E40)
 have ne50 : a4 ≠ a0 := ne_exa f48 f51 (by decide)
 have f52 : Arv Z h40 a4 k_a4 .byte jj0 (mI l_a4) (.int (0 : Int32)) := ((((V_a4.other W21 ne50).other W28 ne50).other W35 ne50).ext E40)
 refine w_clone X49 hx 1 3 hZ40 hown40 (wd_39 hw) (wd_40 hw) (wd_44 hw) (wd_42 hw) (wd_43 hw) (wd_45 hw) e49 f52 f48 (by rw [hml]; rfl) (d4_30 hby) (by decide) (Nat.le_of_eq rfl) (by decide) zz5 (by decide) (by decide) (pc' := 33) rfl ?_
 intro T53 h53 b53 X53 e53 E53 g53 A53 Q53
 have ge54 : n0 ≤ b53 := Nat.le_trans (Nat.le_trans Z0 le45) (Nat.le_of_eq g53.symm)
 have sz55 : h0.size ≤ b53 := Nat.le_trans le45 (Nat.le_of_eq g53.symm)
 have C56 : CHr Z EL s.vm h0 T40.vm h53 := C43.trans (CHr.ext E53 C43.1)
 have K57 : Keep h0 h53 [a0] := K44.ext E53
 refine w_castY X53 hx hZ40 hown40 (wd_37 hw) e53 (Ins.self Q53) (d4_33 hby) (pc' := 36) rfl ?_
 intro T58 X58 e58
 have f59 : Exa Z h53 a0 kc1 := (f51.ext E53)
 have f60 : Fld Z h53 a0 kc1 "body" "[B" .null := (((((zz6.other W21 (Or.inr (slot_ne (Or.inr (wd_47 hw)) (Or.inr (wd_21 hw)) (by decide) (t := (.array .byte)) (t' := .int) (by decide) (by decide)))).other W28 (Or.inr (slot_ne (Or.inr (wd_47 hw)) (Or.inr (wd_23 hw)) (by decide) (t := (.array .byte)) (t' := (.object kc0)) (by decide) (by decide)))).other W35 (Or.inr (slot_ne (Or.inr (wd_47 hw)) (Or.inr (wd_25 hw)) (by decide) (t := (.array .byte)) (t' := (.object kc0)) (by decide) (by decide)))).ext E40).ext E53)
 refine w_putF X58 hx "" hZ40 hown40 (Or.inl (wd_46 hw)) Via.refl e58 f60 f59 (Or.inr ⟨(wd_47 hw), rfl, hnm⟩) (wd_12 hw) (ty := (.array .byte)) (by decide) rfl rfl (d4_36 hby) (pc' := 39) rfl ?_
 intro T61 h61 X61 e61 W61
 have C62 : CHr Z EL s.vm h0 T40.vm h61 := C56.trans (CHr.wr W61 (Safe.exa hZ40.alike f59 (by decide) (by decide)) C56.1)
 have f63 : Fld Z h61 a0 kc1 "body" "[B" (.ref b53) := f60.same W61
 have K64 : Keep h0 h61 [a0] := K57.wr W61 (Or.inl (by simp))
 have N65 := Fr.snoc X61 N47 zz2
 have ne66 : a0 ≠ b53 := (Nat.ne_of_lt (Nat.lt_of_lt_of_le zz1.lt (Nat.le_trans le45 (Nat.le_of_eq g53.symm))))
 have f67 : Arv Z h61 b53 k_a4 .byte jj0 (mI l_a4) (.int (0 : Int32)) := (A53.other W61 (Ne.symm ne66))
 have f68 : Exa Z h61 b53 "[B" := (Q53.wr W61)
 have f69 : Exa Z h61 a0 kc1 := (f59.wr W61)
 have f70 : Fld Z h61 a0 kc1 "status" "I" (.int p1) := (((((f23.other W28 (Or.inr (slot_ne (Or.inr (wd_21 hw)) (Or.inr (wd_23 hw)) (by decide) (t := .int) (t' := (.object kc0)) (by decide) (by decide)))).other W35 (Or.inr (slot_ne (Or.inr (wd_21 hw)) (Or.inr (wd_25 hw)) (by decide) (t := .int) (t' := (.object kc0)) (by decide) (by decide)))).ext E40).ext E53).other W61 (Or.inr (slot_ne (Or.inr (wd_21 hw)) (Or.inr (wd_47 hw)) (by decide) (t := .int) (t' := (.array .byte)) (by decide) (by decide))))
 have f71 : Fld Z h61 a0 kc1 "contentType" "Ljava/lang/String;" .null := ((((f30.other W35 (Or.inr (slot_ne (Or.inr (wd_23 hw)) (Or.inr (wd_25 hw)) (by decide) (t := (.object kc0)) (t' := (.object kc0)) (by decide) (by decide)))).ext E40).ext E53).other W61 (Or.inr (slot_ne (Or.inr (wd_23 hw)) (Or.inr (wd_47 hw)) (by decide) (t := (.object kc0)) (t' := (.array .byte)) (by decide) (by decide))))
 have f72 : Fld Z h61 a0 kc1 "location" "Ljava/lang/String;" .null := (((f37.ext E40).ext E53).other W61 (Or.inr (slot_ne (Or.inr (wd_25 hw)) (Or.inr (wd_47 hw)) (by decide) (t := (.object kc0)) (t' := (.array .byte)) (by decide) (by decide))))
 have y73 : Safe Z EL T40.vm h61 b53 := (Safe.wr W61 (Safe.exa hZ40.alike f59 (by decide) (by decide)) C56.1 (Safe.ext E53 C43.1 (Safe.new (Nat.le_of_eq g53.symm))))
 have le74 : h40.size ≤ h61.size := (Nat.le_trans E53.1 (Keep.of_wr W61).1)
 exact w_doneH X61 hlk (v := none) e61 hh hZ40 (own_EW hw) hS40 (Nat.le_trans hk40 le74) C62 (fun _ => rfl) (fun fs hr => X61.returnOut hx hret (d4_39 hby) hr) (by decide) (by decide) (fun hsy => ⟨b53, rfl, N65, K64, sz55, (hsy _ (Nat.lt_of_lt_of_le A53.lt (Keep.of_wr W61).1) y73), f67, f68, f69, f70, f71, f72, f63⟩)
theorem ef_m4_24 (m : MethodId) (a0 : Addr) (p1 : Int32) (a3 : Addr) (a4 : Addr)  : entryFrame m #[(.ref a0), (.int p1), .null, (.ref a3), (.ref a4)] 5 = mkF m 0 #[.val (.ref a0), .val (.int p1), .val .null, .val (.ref a3), .val (.ref a4)] [] := by first | (simp [entryFrame, mkF, argsToLocals, Value.category]; done) | rfl
def Q_m4_24 (Z : State) (a0 : Addr) (p1 : Int32) (a3 : Addr) (a4 : Addr) (k_a4 : ClassId) (jj0 : Int32) (l_a4 : List Int32) (h0 : Heap) (n0 : Nat) (v : Option Value) (h : Heap) (L : List Loc) (S : Addr → Prop) : Prop := ∃ (r0 : Addr), v = none ∧ Fr n0 L ∧ Keep h0 h [a0] ∧ h0.size ≤ r0 ∧ S r0 ∧ Arv Z h r0 k_a4 .byte jj0 (mI l_a4) (.int (0 : Int32)) ∧ Exa Z h r0 "[B" ∧ Exa Z h a0 kc1 ∧ Fld Z h a0 kc1 "status" "I" (.int p1) ∧ Fld Z h a0 kc1 "contentType" "Ljava/lang/String;" .null ∧ Fld Z h a0 kc1 "location" "Ljava/lang/String;" (.ref a3) ∧ Fld Z h a0 kc1 "body" "[B" (.ref r0)
theorem rm_m4_24 (l : Launch) (Z : State) (aZ : Array Value) (hw : ∀ d ∈ tables_1, d.before aZ Z = true) (ws : List Jvm.Cond) (a0 : Addr) (p1 : Int32) (a3 : Addr) (a4 : Addr) (k_a4 : ClassId) (jj0 : Int32) (l_a4 : List Int32) (h0 : Heap) (n0 : Nat) (Z0 : n0 ≤ h0.size) (E_a0 : Exa Z h0 a0 kc1) (zz1 : Fld Z h0 a0 kc1 "status" "I" (.int (0 : Int32))) (zz2 : n0 ≤ a0) (zz3 : Fld Z h0 a0 kc1 "contentType" "Ljava/lang/String;" .null) (zz4 : Fld Z h0 a0 kc1 "location" "Ljava/lang/String;" .null) (E_a4 : Exa Z h0 a4 "[B") (V_a4 : Arv Z h0 a4 k_a4 .byte jj0 (mI l_a4) (.int (0 : Int32))) (zz5 : jj0.toNatClampNeg ≤ 3) (zz6 : Fld Z h0 a0 kc1 "body" "[B" .null) :
    MetH l Z EL yn_4 prog_12_method_1_code 5 none ws ({ frames := 1, cells := 3, slots := 23, locals := 15 } : Room) #[(.ref a0), (.int p1), .null, (.ref a3), (.ref a4)] h0 (Q_m4_24 Z a0 p1 a3 a4 k_a4 jj0 l_a4 h0 n0) [] := by
 refine MetH.of (plainFor_of_name pn_4) ?_
 intro p e s m below meth c s₁ hret hx hby hml hown hnm hlk hZ X0 e0 hh hH hsf hS0 C0
 have N0 := Fr.nil n0
 rw [ef_m4_24 m a0 p1 a3 a4]
 refine w_aloadN X0 hx (d4_0 hby) rfl rfl (pc' := 1) rfl ?_
 refine w_initO X0 hx 0 hZ hown (wd_17 hw) (wd_18 hw) (wd_19 hw) e0 (by rw [hml]; rfl) (d4_1 hby) (by decide) (Nat.le_of_eq rfl) (by decide) (pc' := 4) rfl ?_
 intro T20 X20 e20
 refine w_aloadN X20 hx (d4_4 hby) rfl rfl (pc' := 5) rfl ?_
 refine w_iloadN X20 hx (d4_5 hby) rfl (pc' := 6) rfl ?_
 refine w_putF X20 hx "" hZ hown (Or.inl (wd_20 hw)) Via.refl e20 zz1 E_a0 (Or.inr ⟨(wd_21 hw), rfl, hnm⟩) (wd_12 hw) (ty := .int) (by decide) rfl rfl (d4_6 hby) (pc' := 9) rfl ?_
 intro T21 h21 X21 e21 W21
 have C22 : CHr Z EL s.vm h0 s.vm h21 := C0.trans (CHr.wr W21 (Safe.exa hZ.alike E_a0 (by decide) (by decide)) C0.1)
 have f23 : Fld Z h21 a0 kc1 "status" "I" (.int p1) := zz1.same W21
 have K24 : Keep h0 h21 [a0] := (Keep.refl h0 [a0]).wr W21 (Or.inl (by simp))
 have N25 := Fr.snoc X21 N0 zz2
 refine w_aloadN X21 hx (d4_9 hby) rfl rfl (pc' := 10) rfl ?_
 refine w_aloadN X21 hx (d4_10 hby) rfl rfl (pc' := 11) rfl ?_
 have f26 : Exa Z h21 a0 kc1 := (E_a0.wr W21)
 have f27 : Fld Z h21 a0 kc1 "contentType" "Ljava/lang/String;" .null := (zz3.other W21 (Or.inr (slot_ne (Or.inr (wd_23 hw)) (Or.inr (wd_21 hw)) (by decide) (t := (.object kc0)) (t' := .int) (by decide) (by decide))))
 refine w_putF X21 hx "" hZ hown (Or.inl (wd_22 hw)) Via.refl e21 f27 f26 (Or.inr ⟨(wd_23 hw), rfl, hnm⟩) (wd_12 hw) (ty := (.object kc0)) (by decide) rfl rfl (d4_11 hby) (pc' := 14) rfl ?_
 intro T28 h28 X28 e28 W28
 have C29 : CHr Z EL s.vm h0 s.vm h28 := C22.trans (CHr.wr W28 (Safe.exa hZ.alike f26 (by decide) (by decide)) C22.1)
 have f30 : Fld Z h28 a0 kc1 "contentType" "Ljava/lang/String;" .null := f27.same W28
 have K31 : Keep h0 h28 [a0] := K24.wr W28 (Or.inl (by simp))
 have N32 := Fr.snoc X28 N25 zz2
 refine w_aloadN X28 hx (d4_14 hby) rfl rfl (pc' := 15) rfl ?_
 refine w_aloadN X28 hx (d4_15 hby) rfl rfl (pc' := 16) rfl ?_
 have f33 : Exa Z h28 a0 kc1 := (f26.wr W28)
 have f34 : Fld Z h28 a0 kc1 "location" "Ljava/lang/String;" .null := ((zz4.other W21 (Or.inr (slot_ne (Or.inr (wd_25 hw)) (Or.inr (wd_21 hw)) (by decide) (t := (.object kc0)) (t' := .int) (by decide) (by decide)))).other W28 (Or.inr (slot_ne (Or.inr (wd_25 hw)) (Or.inr (wd_23 hw)) (by decide) (t := (.object kc0)) (t' := (.object kc0)) (by decide) (by decide))))
 refine w_putF X28 hx "" hZ hown (Or.inl (wd_24 hw)) Via.refl e28 f34 f33 (Or.inr ⟨(wd_25 hw), rfl, hnm⟩) (wd_12 hw) (ty := (.object kc0)) (by decide) rfl rfl (d4_16 hby) (pc' := 19) rfl ?_
 intro T35 h35 X35 e35 W35
 have C36 : CHr Z EL s.vm h0 s.vm h35 := C29.trans (CHr.wr W35 (Safe.exa hZ.alike f33 (by decide) (by decide)) C29.1)
 have f37 : Fld Z h35 a0 kc1 "location" "Ljava/lang/String;" (.ref a3) := f34.same W35
 have K38 : Keep h0 h35 [a0] := K31.wr W35 (Or.inl (by simp))
 have N39 := Fr.snoc X35 N32 zz2
 refine w_aloadN X35 hx (d4_19 hby) rfl rfl (pc' := 20) rfl ?_
 refine w_aload X35 hx (d4_20 hby) rfl rfl (pc' := 22) rfl ?_
 have le41 : h0.size ≤ h28.size := (Nat.le_trans (Keep.of_wr W21).1 (Keep.of_wr W28).1)
 have le42 : h0.size ≤ h35.size := (Nat.le_trans le41 (Keep.of_wr W35).1)
 obtain ⟨a40, T40, h40, k40, b40, c40, X40, e40, E40, hS40, hk40, hZ40, hown40, gE40, gC40, gV40, gA40, lt40, ltb40, A40, -, ns40, st40⟩ := ldcCH X35 hx hZ hown (wd_26 hw) (own_wS hw) e35 hS0 (Nat.le_trans (Nat.le_refl _) le42) (own_EW hw) (by simp [EL, x]) C36.1 (vs := [(.int (98 : Int32)), (.int (111 : Int32)), (.int (100 : Int32)), (.int (121 : Int32))]) (z := (4 : Int32)) (by decide +kernel) (by decide) (by decide) (g := (mkF m 22 #[.val (.ref a0), .val (.int p1), .val .null, .val (.ref a3), .val (.ref a4)] [(.ref a4), (.ref a0)])) rfl (d4_22 hby) (n := 16) (by decide +kernel) (by decide) (by decide) (by decide)
 refine Runs.by ?_ st40
 have C43 : CHr Z EL s.vm h0 T40.vm h40 := C36.trans A40
 have K44 : Keep h0 h40 [a0] := K38.ext E40
 show Runs _ _ _ _ (T40.setTop (mkF m 24 #[.val (.ref a0), .val (.int p1), .val .null, .val (.ref a3), .val (.ref a4)] [(.ref a40), (.ref a4), (.ref a0)]))
 have le45 : h0.size ≤ h40.size := (Nat.le_trans le42 E40.1)
 refine w_static X40 hx (y := yn_6) hown40 (mvT hZ40 (wd_33 hw)) (mvT hZ40 (wd_34 hw)) (mvT hZ40 (wd_35 hw)) (mvT hZ40 (wd_36 hw)) (by decide) (backOf (W := 1) (rm_m6_23 l Z aZ hw [] a4 a40 h40 n0 (Nat.le_trans Z0 le45) ) hZ40 (wd_36 hw) (wd_35 hw) (by decide) (by decide)) (by rw [hml]; rfl) [(.ref a4), (.ref a40)] (lenOf pd_7 rfl) rfl (Nat.le_of_eq rfl) (d4_24 hby) (fun _ _ => ⟨rfl, e40, (by decide : 2 + 0 ≤ _), (by decide : 20 + 0 ≤ _)⟩) (pc' := 27) rfl ?_
 rintro _ _ ⟨T46, L46, k46, n46⟩ X46 ⟨Lc46, hQ46, l46, y46, z46⟩
 dsimp only [Pt.U, Pt.locs, Pt.cells, Pt.slots] at X46 l46 y46 z46 hQ46 ⊢
 subst l46 y46 z46
 obtain ⟨rfl, N46q, e46⟩ := hQ46
 have N47 := Fr.app N39 N46q
 show Runs _ _ _ _ (T46.setTop (mkF m 27 #[.val (.ref a0), .val (.int p1), .val .null, .val (.ref a3), .val (.ref a4)] [(.ref a4), (.ref a0)]))
 have f48 : Exa Z h40 a4 "[B" := ((((E_a4.wr W21).wr W28).wr W35).ext E40)
 refine w_castY X46 hx hZ40 hown40 (wd_37 hw) e46 (Ins.self f48) (d4_27 hby) (pc' := 30) rfl ?_
 intro T49 X49 e49
 have f51 : Exa Z h40 a0 kc1 := ((f33.wr W35).ext E40)
 have ne50 : a4 ≠ a0 := ne_exa f48 f51 (by decide)
 have f52 : Arv Z h40 a4 k_a4 .byte jj0 (mI l_a4) (.int (0 : Int32)) := ((((V_a4.other W21 ne50).other W28 ne50).other W35 ne50).ext E40)
 refine w_clone X49 hx 1 3 hZ40 hown40 (wd_39 hw) (wd_40 hw) (wd_44 hw) (wd_42 hw) (wd_43 hw) (wd_45 hw) e49 f52 f48 (by rw [hml]; rfl) (d4_30 hby) (by decide) (Nat.le_of_eq rfl) (by decide) zz5 (by decide) (by decide) (pc' := 33) rfl ?_
 intro T53 h53 b53 X53 e53 E53 g53 A53 Q53
 have ge54 : n0 ≤ b53 := Nat.le_trans (Nat.le_trans Z0 le45) (Nat.le_of_eq g53.symm)
 have sz55 : h0.size ≤ b53 := Nat.le_trans le45 (Nat.le_of_eq g53.symm)
 have C56 : CHr Z EL s.vm h0 T40.vm h53 := C43.trans (CHr.ext E53 C43.1)
 have K57 : Keep h0 h53 [a0] := K44.ext E53
 refine w_castY X53 hx hZ40 hown40 (wd_37 hw) e53 (Ins.self Q53) (d4_33 hby) (pc' := 36) rfl ?_
 intro T58 X58 e58
 have f59 : Exa Z h53 a0 kc1 := (f51.ext E53)
 have f60 : Fld Z h53 a0 kc1 "body" "[B" .null := (((((zz6.other W21 (Or.inr (slot_ne (Or.inr (wd_47 hw)) (Or.inr (wd_21 hw)) (by decide) (t := (.array .byte)) (t' := .int) (by decide) (by decide)))).other W28 (Or.inr (slot_ne (Or.inr (wd_47 hw)) (Or.inr (wd_23 hw)) (by decide) (t := (.array .byte)) (t' := (.object kc0)) (by decide) (by decide)))).other W35 (Or.inr (slot_ne (Or.inr (wd_47 hw)) (Or.inr (wd_25 hw)) (by decide) (t := (.array .byte)) (t' := (.object kc0)) (by decide) (by decide)))).ext E40).ext E53)
 refine w_putF X58 hx "" hZ40 hown40 (Or.inl (wd_46 hw)) Via.refl e58 f60 f59 (Or.inr ⟨(wd_47 hw), rfl, hnm⟩) (wd_12 hw) (ty := (.array .byte)) (by decide) rfl rfl (d4_36 hby) (pc' := 39) rfl ?_
 intro T61 h61 X61 e61 W61
 have C62 : CHr Z EL s.vm h0 T40.vm h61 := C56.trans (CHr.wr W61 (Safe.exa hZ40.alike f59 (by decide) (by decide)) C56.1)
 have f63 : Fld Z h61 a0 kc1 "body" "[B" (.ref b53) := f60.same W61
 have K64 : Keep h0 h61 [a0] := K57.wr W61 (Or.inl (by simp))
 have N65 := Fr.snoc X61 N47 zz2
 have ne66 : a0 ≠ b53 := (Nat.ne_of_lt (Nat.lt_of_lt_of_le zz1.lt (Nat.le_trans le45 (Nat.le_of_eq g53.symm))))
 have f67 : Arv Z h61 b53 k_a4 .byte jj0 (mI l_a4) (.int (0 : Int32)) := (A53.other W61 (Ne.symm ne66))
 have f68 : Exa Z h61 b53 "[B" := (Q53.wr W61)
 have f69 : Exa Z h61 a0 kc1 := (f59.wr W61)
 have f70 : Fld Z h61 a0 kc1 "status" "I" (.int p1) := (((((f23.other W28 (Or.inr (slot_ne (Or.inr (wd_21 hw)) (Or.inr (wd_23 hw)) (by decide) (t := .int) (t' := (.object kc0)) (by decide) (by decide)))).other W35 (Or.inr (slot_ne (Or.inr (wd_21 hw)) (Or.inr (wd_25 hw)) (by decide) (t := .int) (t' := (.object kc0)) (by decide) (by decide)))).ext E40).ext E53).other W61 (Or.inr (slot_ne (Or.inr (wd_21 hw)) (Or.inr (wd_47 hw)) (by decide) (t := .int) (t' := (.array .byte)) (by decide) (by decide))))
 have f71 : Fld Z h61 a0 kc1 "contentType" "Ljava/lang/String;" .null := ((((f30.other W35 (Or.inr (slot_ne (Or.inr (wd_23 hw)) (Or.inr (wd_25 hw)) (by decide) (t := (.object kc0)) (t' := (.object kc0)) (by decide) (by decide)))).ext E40).ext E53).other W61 (Or.inr (slot_ne (Or.inr (wd_23 hw)) (Or.inr (wd_47 hw)) (by decide) (t := (.object kc0)) (t' := (.array .byte)) (by decide) (by decide))))
 have f72 : Fld Z h61 a0 kc1 "location" "Ljava/lang/String;" (.ref a3) := (((f37.ext E40).ext E53).other W61 (Or.inr (slot_ne (Or.inr (wd_25 hw)) (Or.inr (wd_47 hw)) (by decide) (t := (.object kc0)) (t' := (.array .byte)) (by decide) (by decide))))
 have y73 : Safe Z EL T40.vm h61 b53 := (Safe.wr W61 (Safe.exa hZ40.alike f59 (by decide) (by decide)) C56.1 (Safe.ext E53 C43.1 (Safe.new (Nat.le_of_eq g53.symm))))
 have le74 : h40.size ≤ h61.size := (Nat.le_trans E53.1 (Keep.of_wr W61).1)
 exact w_doneH X61 hlk (v := none) e61 hh hZ40 (own_EW hw) hS40 (Nat.le_trans hk40 le74) C62 (fun _ => rfl) (fun fs hr => X61.returnOut hx hret (d4_39 hby) hr) (by decide) (by decide) (fun hsy => ⟨b53, rfl, N65, K64, sz55, (hsy _ (Nat.lt_of_lt_of_le A53.lt (Keep.of_wr W61).1) y73), f67, f68, f69, f70, f71, f72, f63⟩)
theorem ef_m4_25 (m : MethodId) (a0 : Addr) (p1 : Int32) (a2 : Addr) (a4 : Addr)  : entryFrame m #[(.ref a0), (.int p1), (.ref a2), .null, (.ref a4)] 5 = mkF m 0 #[.val (.ref a0), .val (.int p1), .val (.ref a2), .val .null, .val (.ref a4)] [] := by first | (simp [entryFrame, mkF, argsToLocals, Value.category]; done) | rfl
def Q_m4_25 (Z : State) (a0 : Addr) (p1 : Int32) (a2 : Addr) (a4 : Addr) (k_a4 : ClassId) (jj0 : Int32) (l_a4 : List Int32) (h0 : Heap) (n0 : Nat) (v : Option Value) (h : Heap) (L : List Loc) (S : Addr → Prop) : Prop := ∃ (r0 : Addr), v = none ∧ Fr n0 L ∧ Keep h0 h [a0] ∧ h0.size ≤ r0 ∧ S r0 ∧ Arv Z h r0 k_a4 .byte jj0 (mI l_a4) (.int (0 : Int32)) ∧ Exa Z h r0 "[B" ∧ Exa Z h a0 kc1 ∧ Fld Z h a0 kc1 "status" "I" (.int p1) ∧ Fld Z h a0 kc1 "contentType" "Ljava/lang/String;" (.ref a2) ∧ Fld Z h a0 kc1 "location" "Ljava/lang/String;" .null ∧ Fld Z h a0 kc1 "body" "[B" (.ref r0)
theorem rm_m4_25 (l : Launch) (Z : State) (aZ : Array Value) (hw : ∀ d ∈ tables_1, d.before aZ Z = true) (ws : List Jvm.Cond) (a0 : Addr) (p1 : Int32) (a2 : Addr) (a4 : Addr) (k_a4 : ClassId) (jj0 : Int32) (l_a4 : List Int32) (h0 : Heap) (n0 : Nat) (Z0 : n0 ≤ h0.size) (E_a0 : Exa Z h0 a0 kc1) (zz1 : Fld Z h0 a0 kc1 "status" "I" (.int (0 : Int32))) (zz2 : n0 ≤ a0) (zz3 : Fld Z h0 a0 kc1 "contentType" "Ljava/lang/String;" .null) (zz4 : Fld Z h0 a0 kc1 "location" "Ljava/lang/String;" .null) (E_a4 : Exa Z h0 a4 "[B") (V_a4 : Arv Z h0 a4 k_a4 .byte jj0 (mI l_a4) (.int (0 : Int32))) (zz5 : jj0.toNatClampNeg ≤ 3) (zz6 : Fld Z h0 a0 kc1 "body" "[B" .null) :
    MetH l Z EL yn_4 prog_12_method_1_code 5 none ws ({ frames := 1, cells := 3, slots := 23, locals := 15 } : Room) #[(.ref a0), (.int p1), (.ref a2), .null, (.ref a4)] h0 (Q_m4_25 Z a0 p1 a2 a4 k_a4 jj0 l_a4 h0 n0) [] := by
 refine MetH.of (plainFor_of_name pn_4) ?_
 intro p e s m below meth c s₁ hret hx hby hml hown hnm hlk hZ X0 e0 hh hH hsf hS0 C0
 have N0 := Fr.nil n0
 rw [ef_m4_25 m a0 p1 a2 a4]
 refine w_aloadN X0 hx (d4_0 hby) rfl rfl (pc' := 1) rfl ?_
 refine w_initO X0 hx 0 hZ hown (wd_17 hw) (wd_18 hw) (wd_19 hw) e0 (by rw [hml]; rfl) (d4_1 hby) (by decide) (Nat.le_of_eq rfl) (by decide) (pc' := 4) rfl ?_
 intro T20 X20 e20
 refine w_aloadN X20 hx (d4_4 hby) rfl rfl (pc' := 5) rfl ?_
 refine w_iloadN X20 hx (d4_5 hby) rfl (pc' := 6) rfl ?_
 refine w_putF X20 hx "" hZ hown (Or.inl (wd_20 hw)) Via.refl e20 zz1 E_a0 (Or.inr ⟨(wd_21 hw), rfl, hnm⟩) (wd_12 hw) (ty := .int) (by decide) rfl rfl (d4_6 hby) (pc' := 9) rfl ?_
 intro T21 h21 X21 e21 W21
 have C22 : CHr Z EL s.vm h0 s.vm h21 := C0.trans (CHr.wr W21 (Safe.exa hZ.alike E_a0 (by decide) (by decide)) C0.1)
 have f23 : Fld Z h21 a0 kc1 "status" "I" (.int p1) := zz1.same W21
 have K24 : Keep h0 h21 [a0] := (Keep.refl h0 [a0]).wr W21 (Or.inl (by simp))
 have N25 := Fr.snoc X21 N0 zz2
 refine w_aloadN X21 hx (d4_9 hby) rfl rfl (pc' := 10) rfl ?_
 refine w_aloadN X21 hx (d4_10 hby) rfl rfl (pc' := 11) rfl ?_
 have f26 : Exa Z h21 a0 kc1 := (E_a0.wr W21)
 have f27 : Fld Z h21 a0 kc1 "contentType" "Ljava/lang/String;" .null := (zz3.other W21 (Or.inr (slot_ne (Or.inr (wd_23 hw)) (Or.inr (wd_21 hw)) (by decide) (t := (.object kc0)) (t' := .int) (by decide) (by decide))))
 refine w_putF X21 hx "" hZ hown (Or.inl (wd_22 hw)) Via.refl e21 f27 f26 (Or.inr ⟨(wd_23 hw), rfl, hnm⟩) (wd_12 hw) (ty := (.object kc0)) (by decide) rfl rfl (d4_11 hby) (pc' := 14) rfl ?_
 intro T28 h28 X28 e28 W28
 have C29 : CHr Z EL s.vm h0 s.vm h28 := C22.trans (CHr.wr W28 (Safe.exa hZ.alike f26 (by decide) (by decide)) C22.1)
 have f30 : Fld Z h28 a0 kc1 "contentType" "Ljava/lang/String;" (.ref a2) := f27.same W28
 have K31 : Keep h0 h28 [a0] := K24.wr W28 (Or.inl (by simp))
 have N32 := Fr.snoc X28 N25 zz2
 refine w_aloadN X28 hx (d4_14 hby) rfl rfl (pc' := 15) rfl ?_
 refine w_aloadN X28 hx (d4_15 hby) rfl rfl (pc' := 16) rfl ?_
 have f33 : Exa Z h28 a0 kc1 := (f26.wr W28)
 have f34 : Fld Z h28 a0 kc1 "location" "Ljava/lang/String;" .null := ((zz4.other W21 (Or.inr (slot_ne (Or.inr (wd_25 hw)) (Or.inr (wd_21 hw)) (by decide) (t := (.object kc0)) (t' := .int) (by decide) (by decide)))).other W28 (Or.inr (slot_ne (Or.inr (wd_25 hw)) (Or.inr (wd_23 hw)) (by decide) (t := (.object kc0)) (t' := (.object kc0)) (by decide) (by decide))))
 refine w_putF X28 hx "" hZ hown (Or.inl (wd_24 hw)) Via.refl e28 f34 f33 (Or.inr ⟨(wd_25 hw), rfl, hnm⟩) (wd_12 hw) (ty := (.object kc0)) (by decide) rfl rfl (d4_16 hby) (pc' := 19) rfl ?_
 intro T35 h35 X35 e35 W35
 have C36 : CHr Z EL s.vm h0 s.vm h35 := C29.trans (CHr.wr W35 (Safe.exa hZ.alike f33 (by decide) (by decide)) C29.1)
 have f37 : Fld Z h35 a0 kc1 "location" "Ljava/lang/String;" .null := f34.same W35
 have K38 : Keep h0 h35 [a0] := K31.wr W35 (Or.inl (by simp))
 have N39 := Fr.snoc X35 N32 zz2
 refine w_aloadN X35 hx (d4_19 hby) rfl rfl (pc' := 20) rfl ?_
 refine w_aload X35 hx (d4_20 hby) rfl rfl (pc' := 22) rfl ?_
 have le41 : h0.size ≤ h28.size := (Nat.le_trans (Keep.of_wr W21).1 (Keep.of_wr W28).1)
 have le42 : h0.size ≤ h35.size := (Nat.le_trans le41 (Keep.of_wr W35).1)
 obtain ⟨a40, T40, h40, k40, b40, c40, X40, e40, E40, hS40, hk40, hZ40, hown40, gE40, gC40, gV40, gA40, lt40, ltb40, A40, -, ns40, st40⟩ := ldcCH X35 hx hZ hown (wd_26 hw) (own_wS hw) e35 hS0 (Nat.le_trans (Nat.le_refl _) le42) (own_EW hw) (by simp [EL, x]) C36.1 (vs := [(.int (98 : Int32)), (.int (111 : Int32)), (.int (100 : Int32)), (.int (121 : Int32))]) (z := (4 : Int32)) (by decide +kernel) (by decide) (by decide) (g := (mkF m 22 #[.val (.ref a0), .val (.int p1), .val (.ref a2), .val .null, .val (.ref a4)] [(.ref a4), (.ref a0)])) rfl (d4_22 hby) (n := 16) (by decide +kernel) (by decide) (by decide) (by decide)
 refine Runs.by ?_ st40
 have C43 : CHr Z EL s.vm h0 T40.vm h40 := C36.trans A40
 have K44 : Keep h0 h40 [a0] := K38.ext E40
 show Runs _ _ _ _ (T40.setTop (mkF m 24 #[.val (.ref a0), .val (.int p1), .val (.ref a2), .val .null, .val (.ref a4)] [(.ref a40), (.ref a4), (.ref a0)]))
 have le45 : h0.size ≤ h40.size := (Nat.le_trans le42 E40.1)
 refine w_static X40 hx (y := yn_6) hown40 (mvT hZ40 (wd_33 hw)) (mvT hZ40 (wd_34 hw)) (mvT hZ40 (wd_35 hw)) (mvT hZ40 (wd_36 hw)) (by decide) (backOf (W := 1) (rm_m6_23 l Z aZ hw [] a4 a40 h40 n0 (Nat.le_trans Z0 le45) ) hZ40 (wd_36 hw) (wd_35 hw) (by decide) (by decide)) (by rw [hml]; rfl) [(.ref a4), (.ref a40)] (lenOf pd_7 rfl) rfl (Nat.le_of_eq rfl) (d4_24 hby) (fun _ _ => ⟨rfl, e40, (by decide : 2 + 0 ≤ _), (by decide : 20 + 0 ≤ _)⟩) (pc' := 27) rfl ?_
 rintro _ _ ⟨T46, L46, k46, n46⟩ X46 ⟨Lc46, hQ46, l46, y46, z46⟩
 dsimp only [Pt.U, Pt.locs, Pt.cells, Pt.slots] at X46 l46 y46 z46 hQ46 ⊢
 subst l46 y46 z46
 obtain ⟨rfl, N46q, e46⟩ := hQ46
 have N47 := Fr.app N39 N46q
 show Runs _ _ _ _ (T46.setTop (mkF m 27 #[.val (.ref a0), .val (.int p1), .val (.ref a2), .val .null, .val (.ref a4)] [(.ref a4), (.ref a0)]))
 have f48 : Exa Z h40 a4 "[B" := ((((E_a4.wr W21).wr W28).wr W35).ext E40)
 refine w_castY X46 hx hZ40 hown40 (wd_37 hw) e46 (Ins.self f48) (d4_27 hby) (pc' := 30) rfl ?_
 intro T49 X49 e49
 have f51 : Exa Z h40 a0 kc1 := ((f33.wr W35).ext E40)
 have ne50 : a4 ≠ a0 := ne_exa f48 f51 (by decide)
 have f52 : Arv Z h40 a4 k_a4 .byte jj0 (mI l_a4) (.int (0 : Int32)) := ((((V_a4.other W21 ne50).other W28 ne50).other W35 ne50).ext E40)
 refine w_clone X49 hx 1 3 hZ40 hown40 (wd_39 hw) (wd_40 hw) (wd_44 hw) (wd_42 hw) (wd_43 hw) (wd_45 hw) e49 f52 f48 (by rw [hml]; rfl) (d4_30 hby) (by decide) (Nat.le_of_eq rfl) (by decide) zz5 (by decide) (by decide) (pc' := 33) rfl ?_
 intro T53 h53 b53 X53 e53 E53 g53 A53 Q53
 have ge54 : n0 ≤ b53 := Nat.le_trans (Nat.le_trans Z0 le45) (Nat.le_of_eq g53.symm)
 have sz55 : h0.size ≤ b53 := Nat.le_trans le45 (Nat.le_of_eq g53.symm)
 have C56 : CHr Z EL s.vm h0 T40.vm h53 := C43.trans (CHr.ext E53 C43.1)
 have K57 : Keep h0 h53 [a0] := K44.ext E53
 refine w_castY X53 hx hZ40 hown40 (wd_37 hw) e53 (Ins.self Q53) (d4_33 hby) (pc' := 36) rfl ?_
 intro T58 X58 e58
 have f59 : Exa Z h53 a0 kc1 := (f51.ext E53)
 have f60 : Fld Z h53 a0 kc1 "body" "[B" .null := (((((zz6.other W21 (Or.inr (slot_ne (Or.inr (wd_47 hw)) (Or.inr (wd_21 hw)) (by decide) (t := (.array .byte)) (t' := .int) (by decide) (by decide)))).other W28 (Or.inr (slot_ne (Or.inr (wd_47 hw)) (Or.inr (wd_23 hw)) (by decide) (t := (.array .byte)) (t' := (.object kc0)) (by decide) (by decide)))).other W35 (Or.inr (slot_ne (Or.inr (wd_47 hw)) (Or.inr (wd_25 hw)) (by decide) (t := (.array .byte)) (t' := (.object kc0)) (by decide) (by decide)))).ext E40).ext E53)
 refine w_putF X58 hx "" hZ40 hown40 (Or.inl (wd_46 hw)) Via.refl e58 f60 f59 (Or.inr ⟨(wd_47 hw), rfl, hnm⟩) (wd_12 hw) (ty := (.array .byte)) (by decide) rfl rfl (d4_36 hby) (pc' := 39) rfl ?_
 intro T61 h61 X61 e61 W61
 have C62 : CHr Z EL s.vm h0 T40.vm h61 := C56.trans (CHr.wr W61 (Safe.exa hZ40.alike f59 (by decide) (by decide)) C56.1)
 have f63 : Fld Z h61 a0 kc1 "body" "[B" (.ref b53) := f60.same W61
 have K64 : Keep h0 h61 [a0] := K57.wr W61 (Or.inl (by simp))
 have N65 := Fr.snoc X61 N47 zz2
 have ne66 : a0 ≠ b53 := (Nat.ne_of_lt (Nat.lt_of_lt_of_le zz1.lt (Nat.le_trans le45 (Nat.le_of_eq g53.symm))))
 have f67 : Arv Z h61 b53 k_a4 .byte jj0 (mI l_a4) (.int (0 : Int32)) := (A53.other W61 (Ne.symm ne66))
 have f68 : Exa Z h61 b53 "[B" := (Q53.wr W61)
 have f69 : Exa Z h61 a0 kc1 := (f59.wr W61)
 have f70 : Fld Z h61 a0 kc1 "status" "I" (.int p1) := (((((f23.other W28 (Or.inr (slot_ne (Or.inr (wd_21 hw)) (Or.inr (wd_23 hw)) (by decide) (t := .int) (t' := (.object kc0)) (by decide) (by decide)))).other W35 (Or.inr (slot_ne (Or.inr (wd_21 hw)) (Or.inr (wd_25 hw)) (by decide) (t := .int) (t' := (.object kc0)) (by decide) (by decide)))).ext E40).ext E53).other W61 (Or.inr (slot_ne (Or.inr (wd_21 hw)) (Or.inr (wd_47 hw)) (by decide) (t := .int) (t' := (.array .byte)) (by decide) (by decide))))
 have f71 : Fld Z h61 a0 kc1 "contentType" "Ljava/lang/String;" (.ref a2) := ((((f30.other W35 (Or.inr (slot_ne (Or.inr (wd_23 hw)) (Or.inr (wd_25 hw)) (by decide) (t := (.object kc0)) (t' := (.object kc0)) (by decide) (by decide)))).ext E40).ext E53).other W61 (Or.inr (slot_ne (Or.inr (wd_23 hw)) (Or.inr (wd_47 hw)) (by decide) (t := (.object kc0)) (t' := (.array .byte)) (by decide) (by decide))))
 have f72 : Fld Z h61 a0 kc1 "location" "Ljava/lang/String;" .null := (((f37.ext E40).ext E53).other W61 (Or.inr (slot_ne (Or.inr (wd_25 hw)) (Or.inr (wd_47 hw)) (by decide) (t := (.object kc0)) (t' := (.array .byte)) (by decide) (by decide))))
 have y73 : Safe Z EL T40.vm h61 b53 := (Safe.wr W61 (Safe.exa hZ40.alike f59 (by decide) (by decide)) C56.1 (Safe.ext E53 C43.1 (Safe.new (Nat.le_of_eq g53.symm))))
 have le74 : h40.size ≤ h61.size := (Nat.le_trans E53.1 (Keep.of_wr W61).1)
 exact w_doneH X61 hlk (v := none) e61 hh hZ40 (own_EW hw) hS40 (Nat.le_trans hk40 le74) C62 (fun _ => rfl) (fun fs hr => X61.returnOut hx hret (d4_39 hby) hr) (by decide) (by decide) (fun hsy => ⟨b53, rfl, N65, K64, sz55, (hsy _ (Nat.lt_of_lt_of_le A53.lt (Keep.of_wr W61).1) y73), f67, f68, f69, f70, f71, f72, f63⟩)
theorem ef_m4_26 (m : MethodId) (a0 : Addr) (p1 : Int32) (a2 : Addr) (a3 : Addr) (a4 : Addr)  : entryFrame m #[(.ref a0), (.int p1), (.ref a2), (.ref a3), (.ref a4)] 5 = mkF m 0 #[.val (.ref a0), .val (.int p1), .val (.ref a2), .val (.ref a3), .val (.ref a4)] [] := by first | (simp [entryFrame, mkF, argsToLocals, Value.category]; done) | rfl
def Q_m4_26 (Z : State) (a0 : Addr) (p1 : Int32) (a2 : Addr) (a3 : Addr) (a4 : Addr) (k_a4 : ClassId) (jj0 : Int32) (l_a4 : List Int32) (h0 : Heap) (n0 : Nat) (v : Option Value) (h : Heap) (L : List Loc) (S : Addr → Prop) : Prop := ∃ (r0 : Addr), v = none ∧ Fr n0 L ∧ Keep h0 h [a0] ∧ h0.size ≤ r0 ∧ S r0 ∧ Arv Z h r0 k_a4 .byte jj0 (mI l_a4) (.int (0 : Int32)) ∧ Exa Z h r0 "[B" ∧ Exa Z h a0 kc1 ∧ Fld Z h a0 kc1 "status" "I" (.int p1) ∧ Fld Z h a0 kc1 "contentType" "Ljava/lang/String;" (.ref a2) ∧ Fld Z h a0 kc1 "location" "Ljava/lang/String;" (.ref a3) ∧ Fld Z h a0 kc1 "body" "[B" (.ref r0)
theorem rm_m4_26 (l : Launch) (Z : State) (aZ : Array Value) (hw : ∀ d ∈ tables_1, d.before aZ Z = true) (ws : List Jvm.Cond) (a0 : Addr) (p1 : Int32) (a2 : Addr) (a3 : Addr) (a4 : Addr) (k_a4 : ClassId) (jj0 : Int32) (l_a4 : List Int32) (h0 : Heap) (n0 : Nat) (Z0 : n0 ≤ h0.size) (E_a0 : Exa Z h0 a0 kc1) (zz1 : Fld Z h0 a0 kc1 "status" "I" (.int (0 : Int32))) (zz2 : n0 ≤ a0) (zz3 : Fld Z h0 a0 kc1 "contentType" "Ljava/lang/String;" .null) (zz4 : Fld Z h0 a0 kc1 "location" "Ljava/lang/String;" .null) (E_a4 : Exa Z h0 a4 "[B") (V_a4 : Arv Z h0 a4 k_a4 .byte jj0 (mI l_a4) (.int (0 : Int32))) (zz5 : jj0.toNatClampNeg ≤ 3) (zz6 : Fld Z h0 a0 kc1 "body" "[B" .null) :
    MetH l Z EL yn_4 prog_12_method_1_code 5 none ws ({ frames := 1, cells := 3, slots := 23, locals := 15 } : Room) #[(.ref a0), (.int p1), (.ref a2), (.ref a3), (.ref a4)] h0 (Q_m4_26 Z a0 p1 a2 a3 a4 k_a4 jj0 l_a4 h0 n0) [] := by
 refine MetH.of (plainFor_of_name pn_4) ?_
 intro p e s m below meth c s₁ hret hx hby hml hown hnm hlk hZ X0 e0 hh hH hsf hS0 C0
 have N0 := Fr.nil n0
 rw [ef_m4_26 m a0 p1 a2 a3 a4]
 refine w_aloadN X0 hx (d4_0 hby) rfl rfl (pc' := 1) rfl ?_
 refine w_initO X0 hx 0 hZ hown (wd_17 hw) (wd_18 hw) (wd_19 hw) e0 (by rw [hml]; rfl) (d4_1 hby) (by decide) (Nat.le_of_eq rfl) (by decide) (pc' := 4) rfl ?_
 intro T20 X20 e20
 refine w_aloadN X20 hx (d4_4 hby) rfl rfl (pc' := 5) rfl ?_
 refine w_iloadN X20 hx (d4_5 hby) rfl (pc' := 6) rfl ?_
 refine w_putF X20 hx "" hZ hown (Or.inl (wd_20 hw)) Via.refl e20 zz1 E_a0 (Or.inr ⟨(wd_21 hw), rfl, hnm⟩) (wd_12 hw) (ty := .int) (by decide) rfl rfl (d4_6 hby) (pc' := 9) rfl ?_
 intro T21 h21 X21 e21 W21
 have C22 : CHr Z EL s.vm h0 s.vm h21 := C0.trans (CHr.wr W21 (Safe.exa hZ.alike E_a0 (by decide) (by decide)) C0.1)
 have f23 : Fld Z h21 a0 kc1 "status" "I" (.int p1) := zz1.same W21
 have K24 : Keep h0 h21 [a0] := (Keep.refl h0 [a0]).wr W21 (Or.inl (by simp))
 have N25 := Fr.snoc X21 N0 zz2
 refine w_aloadN X21 hx (d4_9 hby) rfl rfl (pc' := 10) rfl ?_
 refine w_aloadN X21 hx (d4_10 hby) rfl rfl (pc' := 11) rfl ?_
 have f26 : Exa Z h21 a0 kc1 := (E_a0.wr W21)
 have f27 : Fld Z h21 a0 kc1 "contentType" "Ljava/lang/String;" .null := (zz3.other W21 (Or.inr (slot_ne (Or.inr (wd_23 hw)) (Or.inr (wd_21 hw)) (by decide) (t := (.object kc0)) (t' := .int) (by decide) (by decide))))
 refine w_putF X21 hx "" hZ hown (Or.inl (wd_22 hw)) Via.refl e21 f27 f26 (Or.inr ⟨(wd_23 hw), rfl, hnm⟩) (wd_12 hw) (ty := (.object kc0)) (by decide) rfl rfl (d4_11 hby) (pc' := 14) rfl ?_
 intro T28 h28 X28 e28 W28
 have C29 : CHr Z EL s.vm h0 s.vm h28 := C22.trans (CHr.wr W28 (Safe.exa hZ.alike f26 (by decide) (by decide)) C22.1)
 have f30 : Fld Z h28 a0 kc1 "contentType" "Ljava/lang/String;" (.ref a2) := f27.same W28
 have K31 : Keep h0 h28 [a0] := K24.wr W28 (Or.inl (by simp))
 have N32 := Fr.snoc X28 N25 zz2
 refine w_aloadN X28 hx (d4_14 hby) rfl rfl (pc' := 15) rfl ?_
 refine w_aloadN X28 hx (d4_15 hby) rfl rfl (pc' := 16) rfl ?_
 have f33 : Exa Z h28 a0 kc1 := (f26.wr W28)
 have f34 : Fld Z h28 a0 kc1 "location" "Ljava/lang/String;" .null := ((zz4.other W21 (Or.inr (slot_ne (Or.inr (wd_25 hw)) (Or.inr (wd_21 hw)) (by decide) (t := (.object kc0)) (t' := .int) (by decide) (by decide)))).other W28 (Or.inr (slot_ne (Or.inr (wd_25 hw)) (Or.inr (wd_23 hw)) (by decide) (t := (.object kc0)) (t' := (.object kc0)) (by decide) (by decide))))
 refine w_putF X28 hx "" hZ hown (Or.inl (wd_24 hw)) Via.refl e28 f34 f33 (Or.inr ⟨(wd_25 hw), rfl, hnm⟩) (wd_12 hw) (ty := (.object kc0)) (by decide) rfl rfl (d4_16 hby) (pc' := 19) rfl ?_
 intro T35 h35 X35 e35 W35
 have C36 : CHr Z EL s.vm h0 s.vm h35 := C29.trans (CHr.wr W35 (Safe.exa hZ.alike f33 (by decide) (by decide)) C29.1)
 have f37 : Fld Z h35 a0 kc1 "location" "Ljava/lang/String;" (.ref a3) := f34.same W35
 have K38 : Keep h0 h35 [a0] := K31.wr W35 (Or.inl (by simp))
 have N39 := Fr.snoc X35 N32 zz2
 refine w_aloadN X35 hx (d4_19 hby) rfl rfl (pc' := 20) rfl ?_
 refine w_aload X35 hx (d4_20 hby) rfl rfl (pc' := 22) rfl ?_
 have le41 : h0.size ≤ h28.size := (Nat.le_trans (Keep.of_wr W21).1 (Keep.of_wr W28).1)
 have le42 : h0.size ≤ h35.size := (Nat.le_trans le41 (Keep.of_wr W35).1)
 obtain ⟨a40, T40, h40, k40, b40, c40, X40, e40, E40, hS40, hk40, hZ40, hown40, gE40, gC40, gV40, gA40, lt40, ltb40, A40, -, ns40, st40⟩ := ldcCH X35 hx hZ hown (wd_26 hw) (own_wS hw) e35 hS0 (Nat.le_trans (Nat.le_refl _) le42) (own_EW hw) (by simp [EL, x]) C36.1 (vs := [(.int (98 : Int32)), (.int (111 : Int32)), (.int (100 : Int32)), (.int (121 : Int32))]) (z := (4 : Int32)) (by decide +kernel) (by decide) (by decide) (g := (mkF m 22 #[.val (.ref a0), .val (.int p1), .val (.ref a2), .val (.ref a3), .val (.ref a4)] [(.ref a4), (.ref a0)])) rfl (d4_22 hby) (n := 16) (by decide +kernel) (by decide) (by decide) (by decide)
 refine Runs.by ?_ st40
 have C43 : CHr Z EL s.vm h0 T40.vm h40 := C36.trans A40
 have K44 : Keep h0 h40 [a0] := K38.ext E40
 show Runs _ _ _ _ (T40.setTop (mkF m 24 #[.val (.ref a0), .val (.int p1), .val (.ref a2), .val (.ref a3), .val (.ref a4)] [(.ref a40), (.ref a4), (.ref a0)]))
 have le45 : h0.size ≤ h40.size := (Nat.le_trans le42 E40.1)
 refine w_static X40 hx (y := yn_6) hown40 (mvT hZ40 (wd_33 hw)) (mvT hZ40 (wd_34 hw)) (mvT hZ40 (wd_35 hw)) (mvT hZ40 (wd_36 hw)) (by decide) (backOf (W := 1) (rm_m6_23 l Z aZ hw [] a4 a40 h40 n0 (Nat.le_trans Z0 le45) ) hZ40 (wd_36 hw) (wd_35 hw) (by decide) (by decide)) (by rw [hml]; rfl) [(.ref a4), (.ref a40)] (lenOf pd_7 rfl) rfl (Nat.le_of_eq rfl) (d4_24 hby) (fun _ _ => ⟨rfl, e40, (by decide : 2 + 0 ≤ _), (by decide : 20 + 0 ≤ _)⟩) (pc' := 27) rfl ?_
 rintro _ _ ⟨T46, L46, k46, n46⟩ X46 ⟨Lc46, hQ46, l46, y46, z46⟩
 dsimp only [Pt.U, Pt.locs, Pt.cells, Pt.slots] at X46 l46 y46 z46 hQ46 ⊢
 subst l46 y46 z46
 obtain ⟨rfl, N46q, e46⟩ := hQ46
 have N47 := Fr.app N39 N46q
 show Runs _ _ _ _ (T46.setTop (mkF m 27 #[.val (.ref a0), .val (.int p1), .val (.ref a2), .val (.ref a3), .val (.ref a4)] [(.ref a4), (.ref a0)]))
 have f48 : Exa Z h40 a4 "[B" := ((((E_a4.wr W21).wr W28).wr W35).ext E40)
 refine w_castY X46 hx hZ40 hown40 (wd_37 hw) e46 (Ins.self f48) (d4_27 hby) (pc' := 30) rfl ?_
 intro T49 X49 e49
 have f51 : Exa Z h40 a0 kc1 := ((f33.wr W35).ext E40)
 have ne50 : a4 ≠ a0 := ne_exa f48 f51 (by decide)
 have f52 : Arv Z h40 a4 k_a4 .byte jj0 (mI l_a4) (.int (0 : Int32)) := ((((V_a4.other W21 ne50).other W28 ne50).other W35 ne50).ext E40)
 refine w_clone X49 hx 1 3 hZ40 hown40 (wd_39 hw) (wd_40 hw) (wd_44 hw) (wd_42 hw) (wd_43 hw) (wd_45 hw) e49 f52 f48 (by rw [hml]; rfl) (d4_30 hby) (by decide) (Nat.le_of_eq rfl) (by decide) zz5 (by decide) (by decide) (pc' := 33) rfl ?_
 intro T53 h53 b53 X53 e53 E53 g53 A53 Q53
 have ge54 : n0 ≤ b53 := Nat.le_trans (Nat.le_trans Z0 le45) (Nat.le_of_eq g53.symm)
 have sz55 : h0.size ≤ b53 := Nat.le_trans le45 (Nat.le_of_eq g53.symm)
 have C56 : CHr Z EL s.vm h0 T40.vm h53 := C43.trans (CHr.ext E53 C43.1)
 have K57 : Keep h0 h53 [a0] := K44.ext E53
 refine w_castY X53 hx hZ40 hown40 (wd_37 hw) e53 (Ins.self Q53) (d4_33 hby) (pc' := 36) rfl ?_
 intro T58 X58 e58
 have f59 : Exa Z h53 a0 kc1 := (f51.ext E53)
 have f60 : Fld Z h53 a0 kc1 "body" "[B" .null := (((((zz6.other W21 (Or.inr (slot_ne (Or.inr (wd_47 hw)) (Or.inr (wd_21 hw)) (by decide) (t := (.array .byte)) (t' := .int) (by decide) (by decide)))).other W28 (Or.inr (slot_ne (Or.inr (wd_47 hw)) (Or.inr (wd_23 hw)) (by decide) (t := (.array .byte)) (t' := (.object kc0)) (by decide) (by decide)))).other W35 (Or.inr (slot_ne (Or.inr (wd_47 hw)) (Or.inr (wd_25 hw)) (by decide) (t := (.array .byte)) (t' := (.object kc0)) (by decide) (by decide)))).ext E40).ext E53)
 refine w_putF X58 hx "" hZ40 hown40 (Or.inl (wd_46 hw)) Via.refl e58 f60 f59 (Or.inr ⟨(wd_47 hw), rfl, hnm⟩) (wd_12 hw) (ty := (.array .byte)) (by decide) rfl rfl (d4_36 hby) (pc' := 39) rfl ?_
 intro T61 h61 X61 e61 W61
 have C62 : CHr Z EL s.vm h0 T40.vm h61 := C56.trans (CHr.wr W61 (Safe.exa hZ40.alike f59 (by decide) (by decide)) C56.1)
 have f63 : Fld Z h61 a0 kc1 "body" "[B" (.ref b53) := f60.same W61
 have K64 : Keep h0 h61 [a0] := K57.wr W61 (Or.inl (by simp))
 have N65 := Fr.snoc X61 N47 zz2
 have ne66 : a0 ≠ b53 := (Nat.ne_of_lt (Nat.lt_of_lt_of_le zz1.lt (Nat.le_trans le45 (Nat.le_of_eq g53.symm))))
 have f67 : Arv Z h61 b53 k_a4 .byte jj0 (mI l_a4) (.int (0 : Int32)) := (A53.other W61 (Ne.symm ne66))
 have f68 : Exa Z h61 b53 "[B" := (Q53.wr W61)
 have f69 : Exa Z h61 a0 kc1 := (f59.wr W61)
 have f70 : Fld Z h61 a0 kc1 "status" "I" (.int p1) := (((((f23.other W28 (Or.inr (slot_ne (Or.inr (wd_21 hw)) (Or.inr (wd_23 hw)) (by decide) (t := .int) (t' := (.object kc0)) (by decide) (by decide)))).other W35 (Or.inr (slot_ne (Or.inr (wd_21 hw)) (Or.inr (wd_25 hw)) (by decide) (t := .int) (t' := (.object kc0)) (by decide) (by decide)))).ext E40).ext E53).other W61 (Or.inr (slot_ne (Or.inr (wd_21 hw)) (Or.inr (wd_47 hw)) (by decide) (t := .int) (t' := (.array .byte)) (by decide) (by decide))))
 have f71 : Fld Z h61 a0 kc1 "contentType" "Ljava/lang/String;" (.ref a2) := ((((f30.other W35 (Or.inr (slot_ne (Or.inr (wd_23 hw)) (Or.inr (wd_25 hw)) (by decide) (t := (.object kc0)) (t' := (.object kc0)) (by decide) (by decide)))).ext E40).ext E53).other W61 (Or.inr (slot_ne (Or.inr (wd_23 hw)) (Or.inr (wd_47 hw)) (by decide) (t := (.object kc0)) (t' := (.array .byte)) (by decide) (by decide))))
 have f72 : Fld Z h61 a0 kc1 "location" "Ljava/lang/String;" (.ref a3) := (((f37.ext E40).ext E53).other W61 (Or.inr (slot_ne (Or.inr (wd_25 hw)) (Or.inr (wd_47 hw)) (by decide) (t := (.object kc0)) (t' := (.array .byte)) (by decide) (by decide))))
 have y73 : Safe Z EL T40.vm h61 b53 := (Safe.wr W61 (Safe.exa hZ40.alike f59 (by decide) (by decide)) C56.1 (Safe.ext E53 C43.1 (Safe.new (Nat.le_of_eq g53.symm))))
 have le74 : h40.size ≤ h61.size := (Nat.le_trans E53.1 (Keep.of_wr W61).1)
 exact w_doneH X61 hlk (v := none) e61 hh hZ40 (own_EW hw) hS40 (Nat.le_trans hk40 le74) C62 (fun _ => rfl) (fun fs hr => X61.returnOut hx hret (d4_39 hby) hr) (by decide) (by decide) (fun hsy => ⟨b53, rfl, N65, K64, sz55, (hsy _ (Nat.lt_of_lt_of_le A53.lt (Keep.of_wr W61).1) y73), f67, f68, f69, f70, f71, f72, f63⟩)
theorem ef_m1_4 (m : MethodId) (p0 : Int32) (p1 : Int32) (p2 : Int32) (q3 : Int64) (p4 : Int32)  : entryFrame m #[(.int p0), (.int p1), (.int p2), (.long q3), (.int p4)] 9 = mkF m 0 #[.val (.int p0), .val (.int p1), .val (.int p2), .val (.long q3), .second, .val (.int p4), .unset, .unset, .unset] [] := by first | (simp [entryFrame, mkF, argsToLocals, Value.category]; done) | rfl
def Q_m1_4 (Z : State) (p0 : Int32) (p1 : Int32) (p2 : Int32) (q3 : Int64) (p4 : Int32) (jj0 : Int32) (h0 : Heap) (n0 : Nat) (v : Option Value) (h : Heap) (L : List Loc) (S : Addr → Prop) : Prop := (∃ (r : Addr) (bd : Addr) (kb : ClassId), v = some (.ref r) ∧ Fr n0 L ∧ Keep h0 h [] ∧ (p4 &&& (3 : Int32)) = (0 : Int32) ∧ (((p4.toUInt32 >>> ((2 : Int32) &&& 31).toUInt32).toInt32) &&& (3 : Int32)) = (0 : Int32) ∧ h0.size ≤ r ∧ Exa Z h r kc1 ∧ Fld Z h r kc1 "status" "I" (.int p0) ∧ Fld Z h r kc1 "contentType" "Ljava/lang/String;" .null ∧ Fld Z h r kc1 "location" "Ljava/lang/String;" .null ∧ Fld Z h r kc1 "body" "[B" (.ref bd) ∧ h0.size ≤ bd ∧ S bd ∧ Exa Z h bd "[B" ∧ Arv Z h bd kb .byte (bn (((p4.toUInt32 >>> ((4 : Int32) &&& 31).toUInt32).toInt32) &&& (3 : Int32))) (mI (bl q3 (((p4.toUInt32 >>> ((4 : Int32) &&& 31).toUInt32).toInt32) &&& (3 : Int32)))) (.int (0 : Int32))) ∨ (∃ (r : Addr) (bd : Addr) (kb : ClassId) (s1 : Addr) (t1 : Addr) (k1 : ClassId), v = some (.ref r) ∧ Fr n0 L ∧ Keep h0 h [] ∧ (p4 &&& (3 : Int32)) = (0 : Int32) ∧ ¬ ((((p4.toUInt32 >>> ((2 : Int32) &&& 31).toUInt32).toInt32) &&& (3 : Int32)) = (0 : Int32)) ∧ h0.size ≤ r ∧ Exa Z h r kc1 ∧ Fld Z h r kc1 "status" "I" (.int p0) ∧ Fld Z h r kc1 "contentType" "Ljava/lang/String;" .null ∧ Fld Z h r kc1 "location" "Ljava/lang/String;" (.ref s1) ∧ h0.size ≤ s1 ∧ S s1 ∧ Exa Z h s1 kc0 ∧ Fld Z h s1 kc0 "coder" "B" (.int (0 : Int32)) ∧ Fld Z h s1 kc0 "value" "[B" (.ref t1) ∧ Fld Z h s1 kc0 "hash" "I" (.int (0 : Int32)) ∧ Fld Z h s1 kc0 "hashIsZero" "Z" (.int (0 : Int32)) ∧ EB Z h t1 (tn (((p4.toUInt32 >>> ((2 : Int32) &&& 31).toUInt32).toInt32) &&& (3 : Int32))) ∧ Arv Z h t1 k1 .byte (tn (((p4.toUInt32 >>> ((2 : Int32) &&& 31).toUInt32).toInt32) &&& (3 : Int32))) (mI (tl p2 (((p4.toUInt32 >>> ((2 : Int32) &&& 31).toUInt32).toInt32) &&& (3 : Int32)))) (.int (0 : Int32)) ∧ Fld Z h r kc1 "body" "[B" (.ref bd) ∧ h0.size ≤ bd ∧ S bd ∧ Exa Z h bd "[B" ∧ Arv Z h bd kb .byte (bn (((p4.toUInt32 >>> ((4 : Int32) &&& 31).toUInt32).toInt32) &&& (3 : Int32))) (mI (bl q3 (((p4.toUInt32 >>> ((4 : Int32) &&& 31).toUInt32).toInt32) &&& (3 : Int32)))) (.int (0 : Int32))) ∨ (∃ (r : Addr) (bd : Addr) (kb : ClassId) (s0 : Addr) (t0 : Addr) (k0 : ClassId), v = some (.ref r) ∧ Fr n0 L ∧ Keep h0 h [] ∧ ¬ ((p4 &&& (3 : Int32)) = (0 : Int32)) ∧ (((p4.toUInt32 >>> ((2 : Int32) &&& 31).toUInt32).toInt32) &&& (3 : Int32)) = (0 : Int32) ∧ h0.size ≤ r ∧ Exa Z h r kc1 ∧ Fld Z h r kc1 "status" "I" (.int p0) ∧ Fld Z h r kc1 "contentType" "Ljava/lang/String;" (.ref s0) ∧ h0.size ≤ s0 ∧ S s0 ∧ Exa Z h s0 kc0 ∧ Fld Z h s0 kc0 "coder" "B" (.int (0 : Int32)) ∧ Fld Z h s0 kc0 "value" "[B" (.ref t0) ∧ Fld Z h s0 kc0 "hash" "I" (.int (0 : Int32)) ∧ Fld Z h s0 kc0 "hashIsZero" "Z" (.int (0 : Int32)) ∧ EB Z h t0 (tn (p4 &&& (3 : Int32))) ∧ Arv Z h t0 k0 .byte (tn (p4 &&& (3 : Int32))) (mI (tl p1 (p4 &&& (3 : Int32)))) (.int (0 : Int32)) ∧ Fld Z h r kc1 "location" "Ljava/lang/String;" .null ∧ Fld Z h r kc1 "body" "[B" (.ref bd) ∧ h0.size ≤ bd ∧ S bd ∧ Exa Z h bd "[B" ∧ Arv Z h bd kb .byte (bn (((p4.toUInt32 >>> ((4 : Int32) &&& 31).toUInt32).toInt32) &&& (3 : Int32))) (mI (bl q3 (((p4.toUInt32 >>> ((4 : Int32) &&& 31).toUInt32).toInt32) &&& (3 : Int32)))) (.int (0 : Int32))) ∨ (∃ (r : Addr) (bd : Addr) (kb : ClassId) (s0 : Addr) (t0 : Addr) (k0 : ClassId) (s1 : Addr) (t1 : Addr) (k1 : ClassId), v = some (.ref r) ∧ Fr n0 L ∧ Keep h0 h [] ∧ ¬ ((p4 &&& (3 : Int32)) = (0 : Int32)) ∧ ¬ ((((p4.toUInt32 >>> ((2 : Int32) &&& 31).toUInt32).toInt32) &&& (3 : Int32)) = (0 : Int32)) ∧ h0.size ≤ r ∧ Exa Z h r kc1 ∧ Fld Z h r kc1 "status" "I" (.int p0) ∧ Fld Z h r kc1 "contentType" "Ljava/lang/String;" (.ref s0) ∧ h0.size ≤ s0 ∧ S s0 ∧ Exa Z h s0 kc0 ∧ Fld Z h s0 kc0 "coder" "B" (.int (0 : Int32)) ∧ Fld Z h s0 kc0 "value" "[B" (.ref t0) ∧ Fld Z h s0 kc0 "hash" "I" (.int (0 : Int32)) ∧ Fld Z h s0 kc0 "hashIsZero" "Z" (.int (0 : Int32)) ∧ EB Z h t0 (tn (p4 &&& (3 : Int32))) ∧ Arv Z h t0 k0 .byte (tn (p4 &&& (3 : Int32))) (mI (tl p1 (p4 &&& (3 : Int32)))) (.int (0 : Int32)) ∧ Fld Z h r kc1 "location" "Ljava/lang/String;" (.ref s1) ∧ h0.size ≤ s1 ∧ S s1 ∧ Exa Z h s1 kc0 ∧ Fld Z h s1 kc0 "coder" "B" (.int (0 : Int32)) ∧ Fld Z h s1 kc0 "value" "[B" (.ref t1) ∧ Fld Z h s1 kc0 "hash" "I" (.int (0 : Int32)) ∧ Fld Z h s1 kc0 "hashIsZero" "Z" (.int (0 : Int32)) ∧ EB Z h t1 (tn (((p4.toUInt32 >>> ((2 : Int32) &&& 31).toUInt32).toInt32) &&& (3 : Int32))) ∧ Arv Z h t1 k1 .byte (tn (((p4.toUInt32 >>> ((2 : Int32) &&& 31).toUInt32).toInt32) &&& (3 : Int32))) (mI (tl p2 (((p4.toUInt32 >>> ((2 : Int32) &&& 31).toUInt32).toInt32) &&& (3 : Int32)))) (.int (0 : Int32)) ∧ Fld Z h r kc1 "body" "[B" (.ref bd) ∧ h0.size ≤ bd ∧ S bd ∧ Exa Z h bd "[B" ∧ Arv Z h bd kb .byte (bn (((p4.toUInt32 >>> ((4 : Int32) &&& 31).toUInt32).toInt32) &&& (3 : Int32))) (mI (bl q3 (((p4.toUInt32 >>> ((4 : Int32) &&& 31).toUInt32).toInt32) &&& (3 : Int32)))) (.int (0 : Int32)) ∧ s0 ≠ s1)
theorem rm_m1_4 (l : Launch) (Z : State) (aZ : Array Value) (hw : ∀ d ∈ tables_1, d.before aZ Z = true) (ws : List Jvm.Cond) (p0 : Int32) (p1 : Int32) (p2 : Int32) (q3 : Int64) (p4 : Int32) (jj0 : Int32) (h0 : Heap) (n0 : Nat) (Z0 : n0 ≤ h0.size) (zz1 : Sta Z Z.heap kc0 "COMPACT_STRINGS" "Z" (.int jj0)) (O0 : Old Z n0 h0) (hP_2 : ¬ (jj0 = (0 : Int32))) :
    MetH l Z EL yn_1 method_3_code 9 (some (.object kc1)) ws ({ frames := 5, cells := 17, slots := 54, locals := 80 } : Room) #[(.int p0), (.int p1), (.int p2), (.long q3), (.int p4)] h0 (Q_m1_4 Z p0 p1 p2 q3 p4 jj0 h0 n0) [] := by
 refine MetH.of (plainFor_of_name pn_2) ?_
 intro p e s m below meth c s₁ hret hx hby hml hown hnm hlk hZ X0 e0 hh hH hsf hS0 C0
 have N0 := Fr.nil n0
 rw [ef_m1_4 m p0 p1 p2 q3 p4]
 refine w_iloadN X0 hx (d1_0 hby) rfl (pc' := 1) rfl ?_
 refine w_iload X0 hx (d1_1 hby) rfl (pc' := 3) rfl ?_
 refine w_iconst X0 hx (d1_3 hby) (v := (3 : Int32)) rfl (pc' := 4) rfl ?_
 refine w_iand X0 hx (d1_4 hby) (pc' := 5) rfl ?_
 refine w_staticS X0 hx (y := yn_2) hown (mvT hZ (wd_4 hw)) (mvT hZ (wd_5 hw)) (mvT hZ (wd_2 hw)) (mvT hZ (wd_6 hw)) (by decide) (backOfY (W := 0) (rm_m2_7 l Z aZ hw [] p1 (p4 &&& (3 : Int32)) jj0 h0 n0 Z0 zz1 O0 hP_2) hZ (wd_6 hw) (wd_2 hw) (by decide) (by decide) (own_EW hw) C0.1 sf0 all0) (by rw [hml]; rfl) [(.int p1), (.int (p4 &&& (3 : Int32)))] (lenOf pd_5 rfl) rfl (Nat.le_of_eq rfl) (d1_5 hby) (fun _ _ => ⟨rfl, e0, (by decide : 0 + 6 ≤ _), (by decide : 0 + 12 ≤ _)⟩) (pc' := 8) rfl ?_
 rintro _ _ ⟨T20, L20, k20, n20⟩ XX20 hSS20 hg20 ⟨Lc20, hQ20, l20, y20, z20, A20⟩
 dsimp only [Pt.U, Pt.locs, Pt.cells, Pt.slots] at XX20 l20 y20 z20 hQ20 hSS20 hg20 A20 ⊢
 subst l20 y20 z20
 obtain ⟨X20, hS20, hZ20, hown20⟩ := rebS hS0 (Nat.le_refl _) XX20 hSS20 (e0 ▸ hg20) hZ hown
 rcases hQ20 with ⟨rfl, N20q, K20, g20_0⟩ | ⟨r_20, t_20, kb_20, rfl, N20q, K20, g20_0, g20_1, g20_2, g20_3, g20_4, g20_5, g20_6, g20_7, g20_8, g20_9⟩
 · have N21 := Fr.app N0 N20q
   have C22 : CHr Z EL s.vm h0 T20.vm T20.heap := C0.trans A20
   have K23 : Keep h0 T20.heap [] := (Keep.refl h0 []).trans K20 (all0 (P := fun x => x ∈ [] ∨ h0.size ≤ x))
   show Runs _ _ _ _ (T20.setTop (mkF m 8 #[.val (.int p0), .val (.int p1), .val (.int p2), .val (.long q3), .second, .val (.int p4), .unset, .unset, .unset] [.null]))
   refine w_astore X20 hx (d1_8 hby) rfl (L' := #[.val (.int p0), .val (.int p1), .val (.int p2), .val (.long q3), .second, .val (.int p4), .val .null, .unset, .unset]) rfl (pc' := 10) rfl ?_
   refine w_iloadN X20 hx (d1_10 hby) rfl (pc' := 11) rfl ?_
   refine w_iload X20 hx (d1_11 hby) rfl (pc' := 13) rfl ?_
   refine w_iconst X20 hx (d1_13 hby) (v := (2 : Int32)) rfl (pc' := 14) rfl ?_
   refine w_iushr X20 hx (d1_14 hby) (pc' := 15) rfl ?_
   refine w_iconst X20 hx (d1_15 hby) (v := (3 : Int32)) rfl (pc' := 16) rfl ?_
   refine w_iand X20 hx (d1_16 hby) (pc' := 17) rfl ?_
   have f24 : Old Z n0 T20.heap := (O0.keep K20 all0)
   refine w_staticS X20 hx (y := yn_2) hown20 (mvT hZ20 (wd_4 hw)) (mvT hZ20 (wd_5 hw)) (mvT hZ20 (wd_2 hw)) (mvT hZ20 (wd_6 hw)) (by decide) (backOfY (W := 0) (rm_m2_7 l Z aZ hw [] p2 (((p4.toUInt32 >>> ((2 : Int32) &&& 31).toUInt32).toInt32) &&& (3 : Int32)) jj0 T20.heap n0 (Nat.le_trans Z0 K20.1) zz1 f24 hP_2) hZ20 (wd_6 hw) (wd_2 hw) (by decide) (by decide) (own_EW hw) C22.1 sf0 all0) (by rw [hml]; rfl) [(.int p2), (.int (((p4.toUInt32 >>> ((2 : Int32) &&& 31).toUInt32).toInt32) &&& (3 : Int32)))] (lenOf pd_5 rfl) rfl (Nat.le_of_eq rfl) (d1_17 hby) (fun _ _ => ⟨rfl, rfl, (by decide : 6 + 6 ≤ _), (by decide : 12 + 12 ≤ _)⟩) (pc' := 20) rfl ?_
   rintro _ _ ⟨T25, L25, k25, n25⟩ XX25 hSS25 hg25 ⟨Lc25, hQ25, l25, y25, z25, A25⟩
   dsimp only [Pt.U, Pt.locs, Pt.cells, Pt.slots] at XX25 l25 y25 z25 hQ25 hSS25 hg25 A25 ⊢
   subst l25 y25 z25
   obtain ⟨X25, hS25, hZ25, hown25⟩ := rebS hS20 (Nat.le_refl _) XX25 hSS25 hg25 hZ20 hown20
   rcases hQ25 with ⟨rfl, N25q, K25, g25_0⟩ | ⟨r_25, t_25, kb_25, rfl, N25q, K25, g25_0, g25_1, g25_2, g25_3, g25_4, g25_5, g25_6, g25_7, g25_8, g25_9⟩
   · have N26 := Fr.app N21 N25q
     have C27 : CHr Z EL s.vm h0 T25.vm T25.heap := C22.trans A25
     have K28 : Keep h0 T25.heap [] := K23.trans K25 (all0 (P := fun x => x ∈ [] ∨ h0.size ≤ x))
     show Runs _ _ _ _ (T25.setTop (mkF m 20 #[.val (.int p0), .val (.int p1), .val (.int p2), .val (.long q3), .second, .val (.int p4), .val .null, .unset, .unset] [.null]))
     refine w_astore X25 hx (d1_20 hby) rfl (L' := #[.val (.int p0), .val (.int p1), .val (.int p2), .val (.long q3), .second, .val (.int p4), .val .null, .val .null, .unset]) rfl (pc' := 22) rfl ?_
     refine w_lloadN X25 hx (d1_22 hby) rfl (pc' := 23) rfl ?_
     refine w_iload X25 hx (d1_23 hby) rfl (pc' := 25) rfl ?_
     refine w_iconst X25 hx (d1_25 hby) (v := (4 : Int32)) rfl (pc' := 26) rfl ?_
     refine w_iushr X25 hx (d1_26 hby) (pc' := 27) rfl ?_
     refine w_iconst X25 hx (d1_27 hby) (v := (3 : Int32)) rfl (pc' := 28) rfl ?_
     refine w_iand X25 hx (d1_28 hby) (pc' := 29) rfl ?_
     have le29 : h0.size ≤ T25.heap.size := (Nat.le_trans K20.1 K25.1)
     refine w_static X25 hx (y := yn_3) hown25 (mvT hZ25 (wd_7 hw)) (mvT hZ25 (wd_8 hw)) (mvT hZ25 (wd_2 hw)) (mvT hZ25 (wd_9 hw)) (by decide) (backOf (W := 0) (rm_m3_21 l Z aZ hw [] q3 (((p4.toUInt32 >>> ((4 : Int32) &&& 31).toUInt32).toInt32) &&& (3 : Int32)) T25.heap n0 (Nat.le_trans Z0 le29) ) hZ25 (wd_9 hw) (wd_2 hw) (by decide) (by decide)) (by rw [hml]; rfl) [(.long q3), (.int (((p4.toUInt32 >>> ((4 : Int32) &&& 31).toUInt32).toInt32) &&& (3 : Int32)))] (lenOf pd_6 rfl) rfl (Nat.le_of_eq rfl) (d1_29 hby) (fun _ _ => ⟨rfl, rfl, (by decide : 12 + 1 ≤ _), (by decide : 24 + 3 ≤ _)⟩) (pc' := 32) rfl ?_
     rintro _ _ ⟨T30, L30, k30, n30⟩ X30 ⟨Lc30, hQ30, l30, y30, z30⟩
     dsimp only [Pt.U, Pt.locs, Pt.cells, Pt.slots] at X30 l30 y30 z30 hQ30 ⊢
     subst l30 y30 z30
     obtain ⟨t_30, kb_30, rfl, N30q, K30, g30_0, g30_1, g30_2⟩ := hQ30
     have N31 := Fr.app N26 N30q
     have C32 : CHr Z EL s.vm h0 T25.vm T30.heap := C27.trans (CHr.keep K30 sf0 C27.1)
     have K33 : Keep h0 T30.heap [] := K28.trans K30 (all0 (P := fun x => x ∈ [] ∨ h0.size ≤ x))
     have ge34 : n0 ≤ t_30 := Nat.le_trans (Nat.le_trans Z0 le29) g30_0
     have sz35 : h0.size ≤ t_30 := Nat.le_trans le29 g30_0
     show Runs _ _ _ _ (T30.setTop (mkF m 32 #[.val (.int p0), .val (.int p1), .val (.int p2), .val (.long q3), .second, .val (.int p4), .val .null, .val .null, .unset] [(.ref t_30)]))
     refine w_astore X30 hx (d1_32 hby) rfl (L' := #[.val (.int p0), .val (.int p1), .val (.int p2), .val (.long q3), .second, .val (.int p4), .val .null, .val .null, .val (.ref t_30)]) rfl (pc' := 34) rfl ?_
     refine w_new X30 hx hZ25 hown25 (wd_11 hw) (wd_12 hw) (wd_13 hw) rfl (d1_34 hby) (by decide) (by decide) (pc' := 37) rfl ?_
     intro T36 h36 b36 X36 e36 E36 g36 A36 D36
     have le38 : h0.size ≤ T30.heap.size := (Nat.le_trans le29 K30.1)
     have ge37 : n0 ≤ b36 := Nat.le_trans (Nat.le_trans Z0 le38) (Nat.le_of_eq g36.symm)
     have sz39 : h0.size ≤ b36 := Nat.le_trans le38 (Nat.le_of_eq g36.symm)
     have C40 : CHr Z EL s.vm h0 T25.vm h36 := C32.trans (CHr.ext E36 C32.1)
     have K41 : Keep h0 h36 [] := K33.ext E36
     have f42 : Fld Z h36 b36 kc1 "status" "I" (.int (0 : Int32)) := D36 (Or.inr (wd_21 hw)) (ty := .int) (by decide)
     have f43 : Fld Z h36 b36 kc1 "contentType" "Ljava/lang/String;" .null := D36 (Or.inr (wd_23 hw)) (ty := (.object kc0)) (by decide)
     have f44 : Fld Z h36 b36 kc1 "location" "Ljava/lang/String;" .null := D36 (Or.inr (wd_25 hw)) (ty := (.object kc0)) (by decide)
     have f45 : Fld Z h36 b36 kc1 "body" "[B" .null := D36 (Or.inr (wd_47 hw)) (ty := (.array .byte)) (by decide)
     refine w_dup X36 hx (d1_37 hby) rfl (pc' := 38) rfl ?_
     refine w_iloadN X36 hx (d1_38 hby) rfl (pc' := 39) rfl ?_
     refine w_aload X36 hx (d1_39 hby) rfl rfl (pc' := 41) rfl ?_
     refine w_aload X36 hx (d1_41 hby) rfl rfl (pc' := 43) rfl ?_
     refine w_aload X36 hx (d1_43 hby) rfl rfl (pc' := 45) rfl ?_
     have f46 : Exa Z h36 t_30 "[B" := (g30_1.ext E36)
     have f47 : Arv Z h36 t_30 kb_30 .byte (bn (((p4.toUInt32 >>> ((4 : Int32) &&& 31).toUInt32).toInt32) &&& (3 : Int32))) (mI (bl q3 (((p4.toUInt32 >>> ((4 : Int32) &&& 31).toUInt32).toInt32) &&& (3 : Int32)))) (.int (0 : Int32)) := (g30_2.ext E36)
     have le48 : h0.size ≤ h36.size := (Nat.le_trans le38 E36.1)
     refine w_specialS X36 hx (y := yn_4) rfl hown25 (mvT hZ25 (wd_14 hw)) (mvT hZ25 (wd_15 hw)) (mvT hZ25 (wd_16 hw)) (by decide) (backOfY (W := 1) (rm_m4_22 l Z aZ hw [] b36 p0 t_30 kb_30 (bn (((p4.toUInt32 >>> ((4 : Int32) &&& 31).toUInt32).toInt32) &&& (3 : Int32))) (bl q3 (((p4.toUInt32 >>> ((4 : Int32) &&& 31).toUInt32).toInt32) &&& (3 : Int32))) h36 n0 (Nat.le_trans Z0 le48) A36 f42 ge37 f43 f44 f46 f47 (own_bn3 _) f45) hZ25 (wd_16 hw) (wd_13 hw) (by decide) (by decide) (own_EW hw) C40.1 sf0 all0) (by rw [hml]; rfl) [(.int p0), .null, .null, (.ref t_30)] (lenOf pd_8 rfl) rfl (Nat.le_of_eq rfl) (d1_45 hby) (fun _ _ => ⟨rfl, e36, (by decide : 14 + 3 ≤ _), (by decide : 31 + 23 ≤ _)⟩) (pc' := 48) rfl ?_
     rintro _ _ ⟨T49, L49, k49, n49⟩ XX49 hSS49 hg49 ⟨Lc49, hQ49, l49, y49, z49, A49⟩
     dsimp only [Pt.U, Pt.locs, Pt.cells, Pt.slots] at XX49 l49 y49 z49 hQ49 hSS49 hg49 A49 ⊢
     subst l49 y49 z49
     have le50 : T25.heap.size ≤ h36.size := (Nat.le_trans K30.1 E36.1)
     obtain ⟨X49, hS49, hZ49, hown49⟩ := rebS hS25 (Nat.le_trans (Nat.le_refl _) le50) XX49 hSS49 (e36 ▸ hg49) hZ25 hown25
     obtain ⟨r0_49, rfl, N49q, K49, g49_0, g49_1, g49_2, g49_3, g49_4, g49_5, g49_6, g49_7, g49_8⟩ := hQ49
     have N51 := Fr.app N31 N49q
     have C52 : CHr Z EL s.vm h0 T49.vm T49.heap := C40.trans A49
     have K53 : Keep h0 T49.heap [] := K41.trans K49 (allS (Or.inr sz39) (all0 (P := fun x => x ∈ [] ∨ h0.size ≤ x)))
     have ge54 : n0 ≤ r0_49 := Nat.le_trans (Nat.le_trans Z0 le48) g49_0
     have sz55 : h0.size ≤ r0_49 := Nat.le_trans le48 g49_0
     show Runs _ _ _ _ (T49.setTop (mkF m 48 #[.val (.int p0), .val (.int p1), .val (.int p2), .val (.long q3), .second, .val (.int p4), .val .null, .val .null, .val (.ref t_30)] [(.ref b36)]))
     exact w_doneH X49 hlk (v := some (.ref b36)) rfl hh hZ49 (own_EW hw) hS49 (Nat.le_refl _) C52 (fun h => by rw [hret] at h; cases h) (fun fs hr => retOut X49 hx hret rfl (Or.inr (Or.inr (Or.inr (Or.inr ⟨rfl, rfl, rfl⟩)))) (d1_48 hby) hr) (by decide) (by decide) (fun hsy => Or.inl ⟨b36, r0_49, kb_30, rfl, N51, K53, g20_0, g25_0, sz39, g49_4, g49_5, g49_6, g49_7, g49_8, sz55, (hsy _ (Nat.lt_of_lt_of_le g49_2.lt (Nat.le_refl _)) g49_1), g49_3, g49_2⟩)
   · have N56 := Fr.app N21 N25q
     have C57 : CHr Z EL s.vm h0 T25.vm T25.heap := C22.trans A25
     have K58 : Keep h0 T25.heap [] := K23.trans K25 (all0 (P := fun x => x ∈ [] ∨ h0.size ≤ x))
     have ge59 : n0 ≤ r_25 := Nat.le_trans (Nat.le_trans Z0 K20.1) g25_1
     have sz60 : h0.size ≤ r_25 := Nat.le_trans K20.1 g25_1
     show Runs _ _ _ _ (T25.setTop (mkF m 20 #[.val (.int p0), .val (.int p1), .val (.int p2), .val (.long q3), .second, .val (.int p4), .val .null, .unset, .unset] [(.ref r_25)]))
     refine w_astore X25 hx (d1_20 hby) rfl (L' := #[.val (.int p0), .val (.int p1), .val (.int p2), .val (.long q3), .second, .val (.int p4), .val .null, .val (.ref r_25), .unset]) rfl (pc' := 22) rfl ?_
     refine w_lloadN X25 hx (d1_22 hby) rfl (pc' := 23) rfl ?_
     refine w_iload X25 hx (d1_23 hby) rfl (pc' := 25) rfl ?_
     refine w_iconst X25 hx (d1_25 hby) (v := (4 : Int32)) rfl (pc' := 26) rfl ?_
     refine w_iushr X25 hx (d1_26 hby) (pc' := 27) rfl ?_
     refine w_iconst X25 hx (d1_27 hby) (v := (3 : Int32)) rfl (pc' := 28) rfl ?_
     refine w_iand X25 hx (d1_28 hby) (pc' := 29) rfl ?_
     have le61 : h0.size ≤ T25.heap.size := (Nat.le_trans K20.1 K25.1)
     refine w_static X25 hx (y := yn_3) hown25 (mvT hZ25 (wd_7 hw)) (mvT hZ25 (wd_8 hw)) (mvT hZ25 (wd_2 hw)) (mvT hZ25 (wd_9 hw)) (by decide) (backOf (W := 0) (rm_m3_21 l Z aZ hw [] q3 (((p4.toUInt32 >>> ((4 : Int32) &&& 31).toUInt32).toInt32) &&& (3 : Int32)) T25.heap n0 (Nat.le_trans Z0 le61) ) hZ25 (wd_9 hw) (wd_2 hw) (by decide) (by decide)) (by rw [hml]; rfl) [(.long q3), (.int (((p4.toUInt32 >>> ((4 : Int32) &&& 31).toUInt32).toInt32) &&& (3 : Int32)))] (lenOf pd_6 rfl) rfl (Nat.le_of_eq rfl) (d1_29 hby) (fun _ _ => ⟨rfl, rfl, (by decide : 12 + 1 ≤ _), (by decide : 24 + 3 ≤ _)⟩) (pc' := 32) rfl ?_
     rintro _ _ ⟨T62, L62, k62, n62⟩ X62 ⟨Lc62, hQ62, l62, y62, z62⟩
     dsimp only [Pt.U, Pt.locs, Pt.cells, Pt.slots] at X62 l62 y62 z62 hQ62 ⊢
     subst l62 y62 z62
     obtain ⟨t_62, kb_62, rfl, N62q, K62, g62_0, g62_1, g62_2⟩ := hQ62
     have N63 := Fr.app N56 N62q
     have C64 : CHr Z EL s.vm h0 T25.vm T62.heap := C57.trans (CHr.keep K62 sf0 C57.1)
     have K65 : Keep h0 T62.heap [] := K58.trans K62 (all0 (P := fun x => x ∈ [] ∨ h0.size ≤ x))
     have ge66 : n0 ≤ t_62 := Nat.le_trans (Nat.le_trans Z0 le61) g62_0
     have sz67 : h0.size ≤ t_62 := Nat.le_trans le61 g62_0
     show Runs _ _ _ _ (T62.setTop (mkF m 32 #[.val (.int p0), .val (.int p1), .val (.int p2), .val (.long q3), .second, .val (.int p4), .val .null, .val (.ref r_25), .unset] [(.ref t_62)]))
     refine w_astore X62 hx (d1_32 hby) rfl (L' := #[.val (.int p0), .val (.int p1), .val (.int p2), .val (.long q3), .second, .val (.int p4), .val .null, .val (.ref r_25), .val (.ref t_62)]) rfl (pc' := 34) rfl ?_
     refine w_new X62 hx hZ25 hown25 (wd_11 hw) (wd_12 hw) (wd_13 hw) rfl (d1_34 hby) (by decide) (by decide) (pc' := 37) rfl ?_
     intro T68 h68 b68 X68 e68 E68 g68 A68 D68
     have le70 : h0.size ≤ T62.heap.size := (Nat.le_trans le61 K62.1)
     have ge69 : n0 ≤ b68 := Nat.le_trans (Nat.le_trans Z0 le70) (Nat.le_of_eq g68.symm)
     have sz71 : h0.size ≤ b68 := Nat.le_trans le70 (Nat.le_of_eq g68.symm)
     have C72 : CHr Z EL s.vm h0 T25.vm h68 := C64.trans (CHr.ext E68 C64.1)
     have K73 : Keep h0 h68 [] := K65.ext E68
     have f74 : Fld Z h68 b68 kc1 "status" "I" (.int (0 : Int32)) := D68 (Or.inr (wd_21 hw)) (ty := .int) (by decide)
     have f75 : Fld Z h68 b68 kc1 "contentType" "Ljava/lang/String;" .null := D68 (Or.inr (wd_23 hw)) (ty := (.object kc0)) (by decide)
     have f76 : Fld Z h68 b68 kc1 "location" "Ljava/lang/String;" .null := D68 (Or.inr (wd_25 hw)) (ty := (.object kc0)) (by decide)
     have f77 : Fld Z h68 b68 kc1 "body" "[B" .null := D68 (Or.inr (wd_47 hw)) (ty := (.array .byte)) (by decide)
     refine w_dup X68 hx (d1_37 hby) rfl (pc' := 38) rfl ?_
     refine w_iloadN X68 hx (d1_38 hby) rfl (pc' := 39) rfl ?_
     refine w_aload X68 hx (d1_39 hby) rfl rfl (pc' := 41) rfl ?_
     refine w_aload X68 hx (d1_41 hby) rfl rfl (pc' := 43) rfl ?_
     refine w_aload X68 hx (d1_43 hby) rfl rfl (pc' := 45) rfl ?_
     have f78 : Exa Z h68 t_62 "[B" := (g62_1.ext E68)
     have f79 : Arv Z h68 t_62 kb_62 .byte (bn (((p4.toUInt32 >>> ((4 : Int32) &&& 31).toUInt32).toInt32) &&& (3 : Int32))) (mI (bl q3 (((p4.toUInt32 >>> ((4 : Int32) &&& 31).toUInt32).toInt32) &&& (3 : Int32)))) (.int (0 : Int32)) := (g62_2.ext E68)
     have le80 : h0.size ≤ h68.size := (Nat.le_trans le70 E68.1)
     refine w_specialS X68 hx (y := yn_4) rfl hown25 (mvT hZ25 (wd_14 hw)) (mvT hZ25 (wd_15 hw)) (mvT hZ25 (wd_16 hw)) (by decide) (backOfY (W := 1) (rm_m4_24 l Z aZ hw [] b68 p0 r_25 t_62 kb_62 (bn (((p4.toUInt32 >>> ((4 : Int32) &&& 31).toUInt32).toInt32) &&& (3 : Int32))) (bl q3 (((p4.toUInt32 >>> ((4 : Int32) &&& 31).toUInt32).toInt32) &&& (3 : Int32))) h68 n0 (Nat.le_trans Z0 le80) A68 f74 ge69 f75 f76 f78 f79 (own_bn3 _) f77) hZ25 (wd_16 hw) (wd_13 hw) (by decide) (by decide) (own_EW hw) C72.1 sf0 all0) (by rw [hml]; rfl) [(.int p0), .null, (.ref r_25), (.ref t_62)] (lenOf pd_8 rfl) rfl (Nat.le_of_eq rfl) (d1_45 hby) (fun _ _ => ⟨rfl, e68, (by decide : 14 + 3 ≤ _), (by decide : 31 + 23 ≤ _)⟩) (pc' := 48) rfl ?_
     rintro _ _ ⟨T81, L81, k81, n81⟩ XX81 hSS81 hg81 ⟨Lc81, hQ81, l81, y81, z81, A81⟩
     dsimp only [Pt.U, Pt.locs, Pt.cells, Pt.slots] at XX81 l81 y81 z81 hQ81 hSS81 hg81 A81 ⊢
     subst l81 y81 z81
     have le82 : T25.heap.size ≤ h68.size := (Nat.le_trans K62.1 E68.1)
     obtain ⟨X81, hS81, hZ81, hown81⟩ := rebS hS25 (Nat.le_trans (Nat.le_refl _) le82) XX81 hSS81 (e68 ▸ hg81) hZ25 hown25
     obtain ⟨r0_81, rfl, N81q, K81, g81_0, g81_1, g81_2, g81_3, g81_4, g81_5, g81_6, g81_7, g81_8⟩ := hQ81
     have N83 := Fr.app N63 N81q
     have C84 : CHr Z EL s.vm h0 T81.vm T81.heap := C72.trans A81
     have K85 : Keep h0 T81.heap [] := K73.trans K81 (allS (Or.inr sz71) (all0 (P := fun x => x ∈ [] ∨ h0.size ≤ x)))
     have ge86 : n0 ≤ r0_81 := Nat.le_trans (Nat.le_trans Z0 le80) g81_0
     have sz87 : h0.size ≤ r0_81 := Nat.le_trans le80 g81_0
     show Runs _ _ _ _ (T81.setTop (mkF m 48 #[.val (.int p0), .val (.int p1), .val (.int p2), .val (.long q3), .second, .val (.int p4), .val .null, .val (.ref r_25), .val (.ref t_62)] [(.ref b68)]))
     have y88 : Safe Z EL T81.vm T81.heap r_25 := (CHr.safe A81 (Nat.lt_of_lt_of_le g25_3.lt le82) (Safe.ext E68 C64.1 (Safe.keep K62 sf0 C57.1 g25_2)))
     have le89 : T25.heap.size ≤ T81.heap.size := (Nat.le_trans le82 K81.1)
     have f90 : Exa Z T81.heap r_25 kc0 := (((g25_3.keep K62).ext E68).keep K81)
     have ne91 : r_25 ≠ b68 := (Nat.ne_of_lt (Nat.lt_of_lt_of_le g25_3.lt (Nat.le_trans K62.1 (Nat.le_of_eq g68.symm))))
     have f92 : Fld Z T81.heap r_25 kc0 "coder" "B" (.int (0 : Int32)) := (((g25_4.keep K62 nin0).ext E68).keep K81 (ninS ne91 nin0))
     have f93 : Fld Z T81.heap r_25 kc0 "value" "[B" (.ref t_25) := (((g25_5.keep K62 nin0).ext E68).keep K81 (ninS ne91 nin0))
     have f94 : Fld Z T81.heap r_25 kc0 "hash" "I" (.int (0 : Int32)) := (((g25_6.keep K62 nin0).ext E68).keep K81 (ninS ne91 nin0))
     have f95 : Fld Z T81.heap r_25 kc0 "hashIsZero" "Z" (.int (0 : Int32)) := (((g25_7.keep K62 nin0).ext E68).keep K81 (ninS ne91 nin0))
     have f96 : EB Z T81.heap t_25 (tn (((p4.toUInt32 >>> ((2 : Int32) &&& 31).toUInt32).toInt32) &&& (3 : Int32))) := (((g25_8.keep K62).ext E68).keep K81)
     have ne97 : t_25 ≠ b68 := (Nat.ne_of_lt (Nat.lt_of_lt_of_le g25_9.lt (Nat.le_trans K62.1 (Nat.le_of_eq g68.symm))))
     have f98 : Arv Z T81.heap t_25 kb_25 .byte (tn (((p4.toUInt32 >>> ((2 : Int32) &&& 31).toUInt32).toInt32) &&& (3 : Int32))) (mI (tl p2 (((p4.toUInt32 >>> ((2 : Int32) &&& 31).toUInt32).toInt32) &&& (3 : Int32)))) (.int (0 : Int32)) := (((g25_9.keep K62 nin0).ext E68).keep K81 (ninS ne97 nin0))
     exact w_doneH X81 hlk (v := some (.ref b68)) rfl hh hZ81 (own_EW hw) hS81 (Nat.le_refl _) C84 (fun h => by rw [hret] at h; cases h) (fun fs hr => retOut X81 hx hret rfl (Or.inr (Or.inr (Or.inr (Or.inr ⟨rfl, rfl, rfl⟩)))) (d1_48 hby) hr) (by decide) (by decide) (fun hsy => Or.inr (Or.inl ⟨b68, r0_81, kb_62, r_25, t_25, kb_25, rfl, N83, K85, g20_0, g25_0, sz71, g81_4, g81_5, g81_6, g81_7, sz60, (hsy _ (Nat.lt_of_lt_of_le g25_3.lt le89) y88), f90, f92, f93, f94, f95, f96, f98, g81_8, sz87, (hsy _ (Nat.lt_of_lt_of_le g81_2.lt (Nat.le_refl _)) g81_1), g81_3, g81_2⟩))
 · have N99 := Fr.app N0 N20q
   have C100 : CHr Z EL s.vm h0 T20.vm T20.heap := C0.trans A20
   have K101 : Keep h0 T20.heap [] := (Keep.refl h0 []).trans K20 (all0 (P := fun x => x ∈ [] ∨ h0.size ≤ x))
   have ge102 : n0 ≤ r_20 := Nat.le_trans Z0 g20_1
   have sz103 : h0.size ≤ r_20 := Nat.le_trans (Nat.le_refl _) g20_1
   show Runs _ _ _ _ (T20.setTop (mkF m 8 #[.val (.int p0), .val (.int p1), .val (.int p2), .val (.long q3), .second, .val (.int p4), .unset, .unset, .unset] [(.ref r_20)]))
   refine w_astore X20 hx (d1_8 hby) rfl (L' := #[.val (.int p0), .val (.int p1), .val (.int p2), .val (.long q3), .second, .val (.int p4), .val (.ref r_20), .unset, .unset]) rfl (pc' := 10) rfl ?_
   refine w_iloadN X20 hx (d1_10 hby) rfl (pc' := 11) rfl ?_
   refine w_iload X20 hx (d1_11 hby) rfl (pc' := 13) rfl ?_
   refine w_iconst X20 hx (d1_13 hby) (v := (2 : Int32)) rfl (pc' := 14) rfl ?_
   refine w_iushr X20 hx (d1_14 hby) (pc' := 15) rfl ?_
   refine w_iconst X20 hx (d1_15 hby) (v := (3 : Int32)) rfl (pc' := 16) rfl ?_
   refine w_iand X20 hx (d1_16 hby) (pc' := 17) rfl ?_
   have f104 : Old Z n0 T20.heap := (O0.keep K20 all0)
   refine w_staticS X20 hx (y := yn_2) hown20 (mvT hZ20 (wd_4 hw)) (mvT hZ20 (wd_5 hw)) (mvT hZ20 (wd_2 hw)) (mvT hZ20 (wd_6 hw)) (by decide) (backOfY (W := 0) (rm_m2_7 l Z aZ hw [] p2 (((p4.toUInt32 >>> ((2 : Int32) &&& 31).toUInt32).toInt32) &&& (3 : Int32)) jj0 T20.heap n0 (Nat.le_trans Z0 K20.1) zz1 f104 hP_2) hZ20 (wd_6 hw) (wd_2 hw) (by decide) (by decide) (own_EW hw) C100.1 sf0 all0) (by rw [hml]; rfl) [(.int p2), (.int (((p4.toUInt32 >>> ((2 : Int32) &&& 31).toUInt32).toInt32) &&& (3 : Int32)))] (lenOf pd_5 rfl) rfl (Nat.le_of_eq rfl) (d1_17 hby) (fun _ _ => ⟨rfl, rfl, (by decide : 6 + 6 ≤ _), (by decide : 12 + 12 ≤ _)⟩) (pc' := 20) rfl ?_
   rintro _ _ ⟨T105, L105, k105, n105⟩ XX105 hSS105 hg105 ⟨Lc105, hQ105, l105, y105, z105, A105⟩
   dsimp only [Pt.U, Pt.locs, Pt.cells, Pt.slots] at XX105 l105 y105 z105 hQ105 hSS105 hg105 A105 ⊢
   subst l105 y105 z105
   obtain ⟨X105, hS105, hZ105, hown105⟩ := rebS hS20 (Nat.le_refl _) XX105 hSS105 hg105 hZ20 hown20
   rcases hQ105 with ⟨rfl, N105q, K105, g105_0⟩ | ⟨r_105, t_105, kb_105, rfl, N105q, K105, g105_0, g105_1, g105_2, g105_3, g105_4, g105_5, g105_6, g105_7, g105_8, g105_9⟩
   · have N106 := Fr.app N99 N105q
     have C107 : CHr Z EL s.vm h0 T105.vm T105.heap := C100.trans A105
     have K108 : Keep h0 T105.heap [] := K101.trans K105 (all0 (P := fun x => x ∈ [] ∨ h0.size ≤ x))
     show Runs _ _ _ _ (T105.setTop (mkF m 20 #[.val (.int p0), .val (.int p1), .val (.int p2), .val (.long q3), .second, .val (.int p4), .val (.ref r_20), .unset, .unset] [.null]))
     refine w_astore X105 hx (d1_20 hby) rfl (L' := #[.val (.int p0), .val (.int p1), .val (.int p2), .val (.long q3), .second, .val (.int p4), .val (.ref r_20), .val .null, .unset]) rfl (pc' := 22) rfl ?_
     refine w_lloadN X105 hx (d1_22 hby) rfl (pc' := 23) rfl ?_
     refine w_iload X105 hx (d1_23 hby) rfl (pc' := 25) rfl ?_
     refine w_iconst X105 hx (d1_25 hby) (v := (4 : Int32)) rfl (pc' := 26) rfl ?_
     refine w_iushr X105 hx (d1_26 hby) (pc' := 27) rfl ?_
     refine w_iconst X105 hx (d1_27 hby) (v := (3 : Int32)) rfl (pc' := 28) rfl ?_
     refine w_iand X105 hx (d1_28 hby) (pc' := 29) rfl ?_
     have le109 : h0.size ≤ T105.heap.size := (Nat.le_trans K20.1 K105.1)
     refine w_static X105 hx (y := yn_3) hown105 (mvT hZ105 (wd_7 hw)) (mvT hZ105 (wd_8 hw)) (mvT hZ105 (wd_2 hw)) (mvT hZ105 (wd_9 hw)) (by decide) (backOf (W := 0) (rm_m3_21 l Z aZ hw [] q3 (((p4.toUInt32 >>> ((4 : Int32) &&& 31).toUInt32).toInt32) &&& (3 : Int32)) T105.heap n0 (Nat.le_trans Z0 le109) ) hZ105 (wd_9 hw) (wd_2 hw) (by decide) (by decide)) (by rw [hml]; rfl) [(.long q3), (.int (((p4.toUInt32 >>> ((4 : Int32) &&& 31).toUInt32).toInt32) &&& (3 : Int32)))] (lenOf pd_6 rfl) rfl (Nat.le_of_eq rfl) (d1_29 hby) (fun _ _ => ⟨rfl, rfl, (by decide : 12 + 1 ≤ _), (by decide : 24 + 3 ≤ _)⟩) (pc' := 32) rfl ?_
     rintro _ _ ⟨T110, L110, k110, n110⟩ X110 ⟨Lc110, hQ110, l110, y110, z110⟩
     dsimp only [Pt.U, Pt.locs, Pt.cells, Pt.slots] at X110 l110 y110 z110 hQ110 ⊢
     subst l110 y110 z110
     obtain ⟨t_110, kb_110, rfl, N110q, K110, g110_0, g110_1, g110_2⟩ := hQ110
     have N111 := Fr.app N106 N110q
     have C112 : CHr Z EL s.vm h0 T105.vm T110.heap := C107.trans (CHr.keep K110 sf0 C107.1)
     have K113 : Keep h0 T110.heap [] := K108.trans K110 (all0 (P := fun x => x ∈ [] ∨ h0.size ≤ x))
     have ge114 : n0 ≤ t_110 := Nat.le_trans (Nat.le_trans Z0 le109) g110_0
     have sz115 : h0.size ≤ t_110 := Nat.le_trans le109 g110_0
     show Runs _ _ _ _ (T110.setTop (mkF m 32 #[.val (.int p0), .val (.int p1), .val (.int p2), .val (.long q3), .second, .val (.int p4), .val (.ref r_20), .val .null, .unset] [(.ref t_110)]))
     refine w_astore X110 hx (d1_32 hby) rfl (L' := #[.val (.int p0), .val (.int p1), .val (.int p2), .val (.long q3), .second, .val (.int p4), .val (.ref r_20), .val .null, .val (.ref t_110)]) rfl (pc' := 34) rfl ?_
     refine w_new X110 hx hZ105 hown105 (wd_11 hw) (wd_12 hw) (wd_13 hw) rfl (d1_34 hby) (by decide) (by decide) (pc' := 37) rfl ?_
     intro T116 h116 b116 X116 e116 E116 g116 A116 D116
     have le118 : h0.size ≤ T110.heap.size := (Nat.le_trans le109 K110.1)
     have ge117 : n0 ≤ b116 := Nat.le_trans (Nat.le_trans Z0 le118) (Nat.le_of_eq g116.symm)
     have sz119 : h0.size ≤ b116 := Nat.le_trans le118 (Nat.le_of_eq g116.symm)
     have C120 : CHr Z EL s.vm h0 T105.vm h116 := C112.trans (CHr.ext E116 C112.1)
     have K121 : Keep h0 h116 [] := K113.ext E116
     have f122 : Fld Z h116 b116 kc1 "status" "I" (.int (0 : Int32)) := D116 (Or.inr (wd_21 hw)) (ty := .int) (by decide)
     have f123 : Fld Z h116 b116 kc1 "contentType" "Ljava/lang/String;" .null := D116 (Or.inr (wd_23 hw)) (ty := (.object kc0)) (by decide)
     have f124 : Fld Z h116 b116 kc1 "location" "Ljava/lang/String;" .null := D116 (Or.inr (wd_25 hw)) (ty := (.object kc0)) (by decide)
     have f125 : Fld Z h116 b116 kc1 "body" "[B" .null := D116 (Or.inr (wd_47 hw)) (ty := (.array .byte)) (by decide)
     refine w_dup X116 hx (d1_37 hby) rfl (pc' := 38) rfl ?_
     refine w_iloadN X116 hx (d1_38 hby) rfl (pc' := 39) rfl ?_
     refine w_aload X116 hx (d1_39 hby) rfl rfl (pc' := 41) rfl ?_
     refine w_aload X116 hx (d1_41 hby) rfl rfl (pc' := 43) rfl ?_
     refine w_aload X116 hx (d1_43 hby) rfl rfl (pc' := 45) rfl ?_
     have f126 : Exa Z h116 t_110 "[B" := (g110_1.ext E116)
     have f127 : Arv Z h116 t_110 kb_110 .byte (bn (((p4.toUInt32 >>> ((4 : Int32) &&& 31).toUInt32).toInt32) &&& (3 : Int32))) (mI (bl q3 (((p4.toUInt32 >>> ((4 : Int32) &&& 31).toUInt32).toInt32) &&& (3 : Int32)))) (.int (0 : Int32)) := (g110_2.ext E116)
     have le128 : h0.size ≤ h116.size := (Nat.le_trans le118 E116.1)
     refine w_specialS X116 hx (y := yn_4) rfl hown105 (mvT hZ105 (wd_14 hw)) (mvT hZ105 (wd_15 hw)) (mvT hZ105 (wd_16 hw)) (by decide) (backOfY (W := 1) (rm_m4_25 l Z aZ hw [] b116 p0 r_20 t_110 kb_110 (bn (((p4.toUInt32 >>> ((4 : Int32) &&& 31).toUInt32).toInt32) &&& (3 : Int32))) (bl q3 (((p4.toUInt32 >>> ((4 : Int32) &&& 31).toUInt32).toInt32) &&& (3 : Int32))) h116 n0 (Nat.le_trans Z0 le128) A116 f122 ge117 f123 f124 f126 f127 (own_bn3 _) f125) hZ105 (wd_16 hw) (wd_13 hw) (by decide) (by decide) (own_EW hw) C120.1 sf0 all0) (by rw [hml]; rfl) [(.int p0), (.ref r_20), .null, (.ref t_110)] (lenOf pd_8 rfl) rfl (Nat.le_of_eq rfl) (d1_45 hby) (fun _ _ => ⟨rfl, e116, (by decide : 14 + 3 ≤ _), (by decide : 31 + 23 ≤ _)⟩) (pc' := 48) rfl ?_
     rintro _ _ ⟨T129, L129, k129, n129⟩ XX129 hSS129 hg129 ⟨Lc129, hQ129, l129, y129, z129, A129⟩
     dsimp only [Pt.U, Pt.locs, Pt.cells, Pt.slots] at XX129 l129 y129 z129 hQ129 hSS129 hg129 A129 ⊢
     subst l129 y129 z129
     have le130 : T105.heap.size ≤ h116.size := (Nat.le_trans K110.1 E116.1)
     obtain ⟨X129, hS129, hZ129, hown129⟩ := rebS hS105 (Nat.le_trans (Nat.le_refl _) le130) XX129 hSS129 (e116 ▸ hg129) hZ105 hown105
     obtain ⟨r0_129, rfl, N129q, K129, g129_0, g129_1, g129_2, g129_3, g129_4, g129_5, g129_6, g129_7, g129_8⟩ := hQ129
     have N131 := Fr.app N111 N129q
     have C132 : CHr Z EL s.vm h0 T129.vm T129.heap := C120.trans A129
     have K133 : Keep h0 T129.heap [] := K121.trans K129 (allS (Or.inr sz119) (all0 (P := fun x => x ∈ [] ∨ h0.size ≤ x)))
     have ge134 : n0 ≤ r0_129 := Nat.le_trans (Nat.le_trans Z0 le128) g129_0
     have sz135 : h0.size ≤ r0_129 := Nat.le_trans le128 g129_0
     show Runs _ _ _ _ (T129.setTop (mkF m 48 #[.val (.int p0), .val (.int p1), .val (.int p2), .val (.long q3), .second, .val (.int p4), .val (.ref r_20), .val .null, .val (.ref t_110)] [(.ref b116)]))
     have le136 : T20.heap.size ≤ T110.heap.size := (Nat.le_trans K105.1 K110.1)
     have le137 : T20.heap.size ≤ h116.size := (Nat.le_trans le136 E116.1)
     have y138 : Safe Z EL T129.vm T129.heap r_20 := (CHr.safe A129 (Nat.lt_of_lt_of_le g20_3.lt le137) (Safe.ext E116 C112.1 (Safe.keep K110 sf0 C107.1 (CHr.safe A105 (Nat.lt_of_lt_of_le g20_3.lt (Nat.le_refl _)) g20_2))))
     have le139 : T20.heap.size ≤ T129.heap.size := (Nat.le_trans le137 K129.1)
     have f140 : Exa Z T129.heap r_20 kc0 := ((((g20_3.keep K105).keep K110).ext E116).keep K129)
     have ne141 : r_20 ≠ b116 := (Nat.ne_of_lt (Nat.lt_of_lt_of_le g20_3.lt (Nat.le_trans le136 (Nat.le_of_eq g116.symm))))
     have f142 : Fld Z T129.heap r_20 kc0 "coder" "B" (.int (0 : Int32)) := ((((g20_4.keep K105 nin0).keep K110 nin0).ext E116).keep K129 (ninS ne141 nin0))
     have f143 : Fld Z T129.heap r_20 kc0 "value" "[B" (.ref t_20) := ((((g20_5.keep K105 nin0).keep K110 nin0).ext E116).keep K129 (ninS ne141 nin0))
     have f144 : Fld Z T129.heap r_20 kc0 "hash" "I" (.int (0 : Int32)) := ((((g20_6.keep K105 nin0).keep K110 nin0).ext E116).keep K129 (ninS ne141 nin0))
     have f145 : Fld Z T129.heap r_20 kc0 "hashIsZero" "Z" (.int (0 : Int32)) := ((((g20_7.keep K105 nin0).keep K110 nin0).ext E116).keep K129 (ninS ne141 nin0))
     have f146 : EB Z T129.heap t_20 (tn (p4 &&& (3 : Int32))) := ((((g20_8.keep K105).keep K110).ext E116).keep K129)
     have ne147 : t_20 ≠ b116 := (Nat.ne_of_lt (Nat.lt_of_lt_of_le g20_9.lt (Nat.le_trans le136 (Nat.le_of_eq g116.symm))))
     have f148 : Arv Z T129.heap t_20 kb_20 .byte (tn (p4 &&& (3 : Int32))) (mI (tl p1 (p4 &&& (3 : Int32)))) (.int (0 : Int32)) := ((((g20_9.keep K105 nin0).keep K110 nin0).ext E116).keep K129 (ninS ne147 nin0))
     exact w_doneH X129 hlk (v := some (.ref b116)) rfl hh hZ129 (own_EW hw) hS129 (Nat.le_refl _) C132 (fun h => by rw [hret] at h; cases h) (fun fs hr => retOut X129 hx hret rfl (Or.inr (Or.inr (Or.inr (Or.inr ⟨rfl, rfl, rfl⟩)))) (d1_48 hby) hr) (by decide) (by decide) (fun hsy => Or.inr (Or.inr (Or.inl ⟨b116, r0_129, kb_110, r_20, t_20, kb_20, rfl, N131, K133, g20_0, g105_0, sz119, g129_4, g129_5, g129_6, sz103, (hsy _ (Nat.lt_of_lt_of_le g20_3.lt le139) y138), f140, f142, f143, f144, f145, f146, f148, g129_7, g129_8, sz135, (hsy _ (Nat.lt_of_lt_of_le g129_2.lt (Nat.le_refl _)) g129_1), g129_3, g129_2⟩)))
   · have N149 := Fr.app N99 N105q
     have C150 : CHr Z EL s.vm h0 T105.vm T105.heap := C100.trans A105
     have K151 : Keep h0 T105.heap [] := K101.trans K105 (all0 (P := fun x => x ∈ [] ∨ h0.size ≤ x))
     have ge152 : n0 ≤ r_105 := Nat.le_trans (Nat.le_trans Z0 K20.1) g105_1
     have sz153 : h0.size ≤ r_105 := Nat.le_trans K20.1 g105_1
     show Runs _ _ _ _ (T105.setTop (mkF m 20 #[.val (.int p0), .val (.int p1), .val (.int p2), .val (.long q3), .second, .val (.int p4), .val (.ref r_20), .unset, .unset] [(.ref r_105)]))
     refine w_astore X105 hx (d1_20 hby) rfl (L' := #[.val (.int p0), .val (.int p1), .val (.int p2), .val (.long q3), .second, .val (.int p4), .val (.ref r_20), .val (.ref r_105), .unset]) rfl (pc' := 22) rfl ?_
     refine w_lloadN X105 hx (d1_22 hby) rfl (pc' := 23) rfl ?_
     refine w_iload X105 hx (d1_23 hby) rfl (pc' := 25) rfl ?_
     refine w_iconst X105 hx (d1_25 hby) (v := (4 : Int32)) rfl (pc' := 26) rfl ?_
     refine w_iushr X105 hx (d1_26 hby) (pc' := 27) rfl ?_
     refine w_iconst X105 hx (d1_27 hby) (v := (3 : Int32)) rfl (pc' := 28) rfl ?_
     refine w_iand X105 hx (d1_28 hby) (pc' := 29) rfl ?_
     have le154 : h0.size ≤ T105.heap.size := (Nat.le_trans K20.1 K105.1)
     refine w_static X105 hx (y := yn_3) hown105 (mvT hZ105 (wd_7 hw)) (mvT hZ105 (wd_8 hw)) (mvT hZ105 (wd_2 hw)) (mvT hZ105 (wd_9 hw)) (by decide) (backOf (W := 0) (rm_m3_21 l Z aZ hw [] q3 (((p4.toUInt32 >>> ((4 : Int32) &&& 31).toUInt32).toInt32) &&& (3 : Int32)) T105.heap n0 (Nat.le_trans Z0 le154) ) hZ105 (wd_9 hw) (wd_2 hw) (by decide) (by decide)) (by rw [hml]; rfl) [(.long q3), (.int (((p4.toUInt32 >>> ((4 : Int32) &&& 31).toUInt32).toInt32) &&& (3 : Int32)))] (lenOf pd_6 rfl) rfl (Nat.le_of_eq rfl) (d1_29 hby) (fun _ _ => ⟨rfl, rfl, (by decide : 12 + 1 ≤ _), (by decide : 24 + 3 ≤ _)⟩) (pc' := 32) rfl ?_
     rintro _ _ ⟨T155, L155, k155, n155⟩ X155 ⟨Lc155, hQ155, l155, y155, z155⟩
     dsimp only [Pt.U, Pt.locs, Pt.cells, Pt.slots] at X155 l155 y155 z155 hQ155 ⊢
     subst l155 y155 z155
     obtain ⟨t_155, kb_155, rfl, N155q, K155, g155_0, g155_1, g155_2⟩ := hQ155
     have N156 := Fr.app N149 N155q
     have C157 : CHr Z EL s.vm h0 T105.vm T155.heap := C150.trans (CHr.keep K155 sf0 C150.1)
     have K158 : Keep h0 T155.heap [] := K151.trans K155 (all0 (P := fun x => x ∈ [] ∨ h0.size ≤ x))
     have ge159 : n0 ≤ t_155 := Nat.le_trans (Nat.le_trans Z0 le154) g155_0
     have sz160 : h0.size ≤ t_155 := Nat.le_trans le154 g155_0
     show Runs _ _ _ _ (T155.setTop (mkF m 32 #[.val (.int p0), .val (.int p1), .val (.int p2), .val (.long q3), .second, .val (.int p4), .val (.ref r_20), .val (.ref r_105), .unset] [(.ref t_155)]))
     refine w_astore X155 hx (d1_32 hby) rfl (L' := #[.val (.int p0), .val (.int p1), .val (.int p2), .val (.long q3), .second, .val (.int p4), .val (.ref r_20), .val (.ref r_105), .val (.ref t_155)]) rfl (pc' := 34) rfl ?_
     refine w_new X155 hx hZ105 hown105 (wd_11 hw) (wd_12 hw) (wd_13 hw) rfl (d1_34 hby) (by decide) (by decide) (pc' := 37) rfl ?_
     intro T161 h161 b161 X161 e161 E161 g161 A161 D161
     have le163 : h0.size ≤ T155.heap.size := (Nat.le_trans le154 K155.1)
     have ge162 : n0 ≤ b161 := Nat.le_trans (Nat.le_trans Z0 le163) (Nat.le_of_eq g161.symm)
     have sz164 : h0.size ≤ b161 := Nat.le_trans le163 (Nat.le_of_eq g161.symm)
     have C165 : CHr Z EL s.vm h0 T105.vm h161 := C157.trans (CHr.ext E161 C157.1)
     have K166 : Keep h0 h161 [] := K158.ext E161
     have f167 : Fld Z h161 b161 kc1 "status" "I" (.int (0 : Int32)) := D161 (Or.inr (wd_21 hw)) (ty := .int) (by decide)
     have f168 : Fld Z h161 b161 kc1 "contentType" "Ljava/lang/String;" .null := D161 (Or.inr (wd_23 hw)) (ty := (.object kc0)) (by decide)
     have f169 : Fld Z h161 b161 kc1 "location" "Ljava/lang/String;" .null := D161 (Or.inr (wd_25 hw)) (ty := (.object kc0)) (by decide)
     have f170 : Fld Z h161 b161 kc1 "body" "[B" .null := D161 (Or.inr (wd_47 hw)) (ty := (.array .byte)) (by decide)
     refine w_dup X161 hx (d1_37 hby) rfl (pc' := 38) rfl ?_
     refine w_iloadN X161 hx (d1_38 hby) rfl (pc' := 39) rfl ?_
     refine w_aload X161 hx (d1_39 hby) rfl rfl (pc' := 41) rfl ?_
     refine w_aload X161 hx (d1_41 hby) rfl rfl (pc' := 43) rfl ?_
     refine w_aload X161 hx (d1_43 hby) rfl rfl (pc' := 45) rfl ?_
     have f171 : Exa Z h161 t_155 "[B" := (g155_1.ext E161)
     have f172 : Arv Z h161 t_155 kb_155 .byte (bn (((p4.toUInt32 >>> ((4 : Int32) &&& 31).toUInt32).toInt32) &&& (3 : Int32))) (mI (bl q3 (((p4.toUInt32 >>> ((4 : Int32) &&& 31).toUInt32).toInt32) &&& (3 : Int32)))) (.int (0 : Int32)) := (g155_2.ext E161)
     have le173 : h0.size ≤ h161.size := (Nat.le_trans le163 E161.1)
     refine w_specialS X161 hx (y := yn_4) rfl hown105 (mvT hZ105 (wd_14 hw)) (mvT hZ105 (wd_15 hw)) (mvT hZ105 (wd_16 hw)) (by decide) (backOfY (W := 1) (rm_m4_26 l Z aZ hw [] b161 p0 r_20 r_105 t_155 kb_155 (bn (((p4.toUInt32 >>> ((4 : Int32) &&& 31).toUInt32).toInt32) &&& (3 : Int32))) (bl q3 (((p4.toUInt32 >>> ((4 : Int32) &&& 31).toUInt32).toInt32) &&& (3 : Int32))) h161 n0 (Nat.le_trans Z0 le173) A161 f167 ge162 f168 f169 f171 f172 (own_bn3 _) f170) hZ105 (wd_16 hw) (wd_13 hw) (by decide) (by decide) (own_EW hw) C165.1 sf0 all0) (by rw [hml]; rfl) [(.int p0), (.ref r_20), (.ref r_105), (.ref t_155)] (lenOf pd_8 rfl) rfl (Nat.le_of_eq rfl) (d1_45 hby) (fun _ _ => ⟨rfl, e161, (by decide : 14 + 3 ≤ _), (by decide : 31 + 23 ≤ _)⟩) (pc' := 48) rfl ?_
     rintro _ _ ⟨T174, L174, k174, n174⟩ XX174 hSS174 hg174 ⟨Lc174, hQ174, l174, y174, z174, A174⟩
     dsimp only [Pt.U, Pt.locs, Pt.cells, Pt.slots] at XX174 l174 y174 z174 hQ174 hSS174 hg174 A174 ⊢
     subst l174 y174 z174
     have le175 : T105.heap.size ≤ h161.size := (Nat.le_trans K155.1 E161.1)
     obtain ⟨X174, hS174, hZ174, hown174⟩ := rebS hS105 (Nat.le_trans (Nat.le_refl _) le175) XX174 hSS174 (e161 ▸ hg174) hZ105 hown105
     obtain ⟨r0_174, rfl, N174q, K174, g174_0, g174_1, g174_2, g174_3, g174_4, g174_5, g174_6, g174_7, g174_8⟩ := hQ174
     have N176 := Fr.app N156 N174q
     have C177 : CHr Z EL s.vm h0 T174.vm T174.heap := C165.trans A174
     have K178 : Keep h0 T174.heap [] := K166.trans K174 (allS (Or.inr sz164) (all0 (P := fun x => x ∈ [] ∨ h0.size ≤ x)))
     have ge179 : n0 ≤ r0_174 := Nat.le_trans (Nat.le_trans Z0 le173) g174_0
     have sz180 : h0.size ≤ r0_174 := Nat.le_trans le173 g174_0
     show Runs _ _ _ _ (T174.setTop (mkF m 48 #[.val (.int p0), .val (.int p1), .val (.int p2), .val (.long q3), .second, .val (.int p4), .val (.ref r_20), .val (.ref r_105), .val (.ref t_155)] [(.ref b161)]))
     have le181 : T20.heap.size ≤ T155.heap.size := (Nat.le_trans K105.1 K155.1)
     have le182 : T20.heap.size ≤ h161.size := (Nat.le_trans le181 E161.1)
     have y183 : Safe Z EL T174.vm T174.heap r_20 := (CHr.safe A174 (Nat.lt_of_lt_of_le g20_3.lt le182) (Safe.ext E161 C157.1 (Safe.keep K155 sf0 C150.1 (CHr.safe A105 (Nat.lt_of_lt_of_le g20_3.lt (Nat.le_refl _)) g20_2))))
     have le184 : T20.heap.size ≤ T174.heap.size := (Nat.le_trans le182 K174.1)
     have f185 : Exa Z T174.heap r_20 kc0 := ((((g20_3.keep K105).keep K155).ext E161).keep K174)
     have ne186 : r_20 ≠ b161 := (Nat.ne_of_lt (Nat.lt_of_lt_of_le g20_3.lt (Nat.le_trans le181 (Nat.le_of_eq g161.symm))))
     have f187 : Fld Z T174.heap r_20 kc0 "coder" "B" (.int (0 : Int32)) := ((((g20_4.keep K105 nin0).keep K155 nin0).ext E161).keep K174 (ninS ne186 nin0))
     have f188 : Fld Z T174.heap r_20 kc0 "value" "[B" (.ref t_20) := ((((g20_5.keep K105 nin0).keep K155 nin0).ext E161).keep K174 (ninS ne186 nin0))
     have f189 : Fld Z T174.heap r_20 kc0 "hash" "I" (.int (0 : Int32)) := ((((g20_6.keep K105 nin0).keep K155 nin0).ext E161).keep K174 (ninS ne186 nin0))
     have f190 : Fld Z T174.heap r_20 kc0 "hashIsZero" "Z" (.int (0 : Int32)) := ((((g20_7.keep K105 nin0).keep K155 nin0).ext E161).keep K174 (ninS ne186 nin0))
     have f191 : EB Z T174.heap t_20 (tn (p4 &&& (3 : Int32))) := ((((g20_8.keep K105).keep K155).ext E161).keep K174)
     have ne192 : t_20 ≠ b161 := (Nat.ne_of_lt (Nat.lt_of_lt_of_le g20_9.lt (Nat.le_trans le181 (Nat.le_of_eq g161.symm))))
     have f193 : Arv Z T174.heap t_20 kb_20 .byte (tn (p4 &&& (3 : Int32))) (mI (tl p1 (p4 &&& (3 : Int32)))) (.int (0 : Int32)) := ((((g20_9.keep K105 nin0).keep K155 nin0).ext E161).keep K174 (ninS ne192 nin0))
     have y194 : Safe Z EL T174.vm T174.heap r_105 := (CHr.safe A174 (Nat.lt_of_lt_of_le g105_3.lt le175) (Safe.ext E161 C157.1 (Safe.keep K155 sf0 C150.1 g105_2)))
     have le195 : T105.heap.size ≤ T174.heap.size := (Nat.le_trans le175 K174.1)
     have f196 : Exa Z T174.heap r_105 kc0 := (((g105_3.keep K155).ext E161).keep K174)
     have ne197 : r_105 ≠ b161 := (Nat.ne_of_lt (Nat.lt_of_lt_of_le g105_3.lt (Nat.le_trans K155.1 (Nat.le_of_eq g161.symm))))
     have f198 : Fld Z T174.heap r_105 kc0 "coder" "B" (.int (0 : Int32)) := (((g105_4.keep K155 nin0).ext E161).keep K174 (ninS ne197 nin0))
     have f199 : Fld Z T174.heap r_105 kc0 "value" "[B" (.ref t_105) := (((g105_5.keep K155 nin0).ext E161).keep K174 (ninS ne197 nin0))
     have f200 : Fld Z T174.heap r_105 kc0 "hash" "I" (.int (0 : Int32)) := (((g105_6.keep K155 nin0).ext E161).keep K174 (ninS ne197 nin0))
     have f201 : Fld Z T174.heap r_105 kc0 "hashIsZero" "Z" (.int (0 : Int32)) := (((g105_7.keep K155 nin0).ext E161).keep K174 (ninS ne197 nin0))
     have f202 : EB Z T174.heap t_105 (tn (((p4.toUInt32 >>> ((2 : Int32) &&& 31).toUInt32).toInt32) &&& (3 : Int32))) := (((g105_8.keep K155).ext E161).keep K174)
     have ne203 : t_105 ≠ b161 := (Nat.ne_of_lt (Nat.lt_of_lt_of_le g105_9.lt (Nat.le_trans K155.1 (Nat.le_of_eq g161.symm))))
     have f204 : Arv Z T174.heap t_105 kb_105 .byte (tn (((p4.toUInt32 >>> ((2 : Int32) &&& 31).toUInt32).toInt32) &&& (3 : Int32))) (mI (tl p2 (((p4.toUInt32 >>> ((2 : Int32) &&& 31).toUInt32).toInt32) &&& (3 : Int32)))) (.int (0 : Int32)) := (((g105_9.keep K155 nin0).ext E161).keep K174 (ninS ne203 nin0))
     have ne205 : r_20 ≠ r_105 := (Nat.ne_of_lt (Nat.lt_of_lt_of_le g20_3.lt (Nat.le_trans (Nat.le_refl _) g105_1)))
     exact w_doneH X174 hlk (v := some (.ref b161)) rfl hh hZ174 (own_EW hw) hS174 (Nat.le_refl _) C177 (fun h => by rw [hret] at h; cases h) (fun fs hr => retOut X174 hx hret rfl (Or.inr (Or.inr (Or.inr (Or.inr ⟨rfl, rfl, rfl⟩)))) (d1_48 hby) hr) (by decide) (by decide) (fun hsy => Or.inr (Or.inr (Or.inr (⟨b161, r0_174, kb_155, r_20, t_20, kb_20, r_105, t_105, kb_105, rfl, N176, K178, g20_0, g105_0, sz164, g174_4, g174_5, g174_6, sz103, (hsy _ (Nat.lt_of_lt_of_le g20_3.lt le184) y183), f185, f187, f188, f189, f190, f191, f193, g174_7, sz153, (hsy _ (Nat.lt_of_lt_of_le g105_3.lt le195) y194), f196, f198, f199, f200, f201, f202, f204, g174_8, sz180, (hsy _ (Nat.lt_of_lt_of_le g174_2.lt (Nat.le_refl _)) g174_1), g174_3, g174_2, ne205⟩))))
theorem ef_m31_30 (m : MethodId) (a0 : Addr)  : entryFrame m #[(.ref a0)] 1 = mkF m 0 #[.val (.ref a0)] [] := by first | (simp [entryFrame, mkF, argsToLocals, Value.category]; done) | rfl
def Q_m31_30 (Z : State) (a0 : Addr) (h0 : Heap) (n0 : Nat) (v : Option Value) (h : Heap) (L : List Loc) : Prop := v = none ∧ Fr n0 L ∧ h = h0
theorem rm_m31_30 (l : Launch) (Z : State) (aZ : Array Value) (hw : ∀ d ∈ tables_1, d.before aZ Z = true) (ws : List Jvm.Cond) (a0 : Addr) (h0 : Heap) (n0 : Nat) (Z0 : n0 ≤ h0.size) :
    MetN l Z yn_31 jdk_18_method_1_code 1 none ws ({ frames := 1, cells := 0, slots := 0, locals := 12 } : Room) #[(.ref a0)] h0 (Q_m31_30 Z a0 h0 n0) := by
 refine MetN.of (plainFor_of_name pn_5) ?_
 intro p e s m below meth c s₁ hret hx hby hml hown hnm hlk hZ X0 e0
 have N0 := Fr.nil n0
 rw [ef_m31_30 m a0]
 refine w_aloadN X0 hx (d31_0 hby) rfl rfl (pc' := 1) rfl ?_
 refine w_initO X0 hx 0 hZ hown (wd_171 hw) (wd_18 hw) (wd_19 hw) e0 (by rw [hml]; rfl) (d31_1 hby) (by decide) (Nat.le_of_eq rfl) (by decide) (pc' := 4) rfl ?_
 intro T20 X20 e20
 exact w_done X20 hlk (v := none) e20 (fun _ => rfl) (fun fs hr => X20.returnOut hx hret (d31_4 hby) hr) (by decide) (by decide) (⟨rfl, N0, rfl⟩)
theorem ef_m30_29 (m : MethodId) (a0 : Addr) (p1 : Int32)  : entryFrame m #[(.ref a0), (.int p1)] 2 = mkF m 0 #[.val (.ref a0), .val (.int p1)] [] := by first | (simp [entryFrame, mkF, argsToLocals, Value.category]; done) | rfl
def Q_m30_29 (Z : State) (a0 : Addr) (p1 : Int32) (h0 : Heap) (n0 : Nat) (v : Option Value) (h : Heap) (L : List Loc) : Prop := v = none ∧ Fr n0 L ∧ Keep h0 h [a0] ∧ Exa Z h a0 kc2 ∧ Fld Z h a0 kc2 "value" "I" (.int p1)
theorem rm_m30_29 (l : Launch) (Z : State) (aZ : Array Value) (hw : ∀ d ∈ tables_1, d.before aZ Z = true) (ws : List Jvm.Cond) (a0 : Addr) (p1 : Int32) (h0 : Heap) (n0 : Nat) (Z0 : n0 ≤ h0.size) (E_a0 : Exa Z h0 a0 kc2) (zz0 : Fld Z h0 a0 kc2 "value" "I" (.int (0 : Int32))) (zz1 : n0 ≤ a0) :
    MetN l Z yn_30 jdk_33_method_23_code 2 none ws ({ frames := 2, cells := 0, slots := 0, locals := 24 } : Room) #[(.ref a0), (.int p1)] h0 (Q_m30_29 Z a0 p1 h0 n0) := by
 refine MetN.of (plainFor_of_name pn_6) ?_
 intro p e s m below meth c s₁ hret hx hby hml hown hnm hlk hZ X0 e0
 have N0 := Fr.nil n0
 rw [ef_m30_29 m a0 p1]
 refine w_aloadN X0 hx (d30_0 hby) rfl rfl (pc' := 1) rfl ?_
 refine w_special X0 hx (y := yn_31) rfl hown (mvT hZ (wd_165 hw)) (mvT hZ (wd_166 hw)) (mvT hZ (wd_170 hw)) (by decide) (backOf (W := 0) (rm_m31_30 l Z aZ hw [] a0 h0 n0 Z0 ) hZ (wd_170 hw) (wd_169 hw) (by decide) (by decide)) (by rw [hml]; rfl) [] (lenOf pd_10 rfl) rfl (Nat.le_of_eq rfl) (d30_1 hby) (fun _ _ => ⟨rfl, e0, (by decide : 0 + 0 ≤ _), (by decide : 0 + 0 ≤ _)⟩) (pc' := 4) rfl ?_
 rintro _ _ ⟨T20, L20, k20, n20⟩ X20 ⟨Lc20, hQ20, l20, y20, z20⟩
 dsimp only [Pt.U, Pt.locs, Pt.cells, Pt.slots] at X20 l20 y20 z20 hQ20 ⊢
 subst l20 y20 z20
 obtain ⟨rfl, N20q, e20⟩ := hQ20
 have N21 := Fr.app N0 N20q
 show Runs _ _ _ _ (T20.setTop (mkF m 4 #[.val (.ref a0), .val (.int p1)] []))
 refine w_aloadN X20 hx (d30_4 hby) rfl rfl (pc' := 5) rfl ?_
 refine w_iloadN X20 hx (d30_5 hby) rfl (pc' := 6) rfl ?_
 refine w_putF X20 hx "" hZ hown (Or.inl (wd_79 hw)) Via.refl e20 zz0 E_a0 (Or.inr ⟨(wd_80 hw), rfl, hnm⟩) (wd_160 hw) (ty := .int) (by decide) rfl rfl (d30_6 hby) (pc' := 9) rfl ?_
 intro T22 h22 X22 e22 W22
 have f23 : Fld Z h22 a0 kc2 "value" "I" (.int p1) := zz0.same W22
 have K24 : Keep h0 h22 [a0] := (Keep.refl h0 [a0]).wr W22 (Or.inl (by simp))
 have N25 := Fr.snoc X22 N21 zz1
 have f26 : Exa Z h22 a0 kc2 := (E_a0.wr W22)
 exact w_done X22 hlk (v := none) e22 (fun _ => rfl) (fun fs hr => X22.returnOut hx hret (d30_9 hby) hr) (by decide) (by decide) (⟨rfl, N25, K24, f26, f23⟩)
theorem ef_m8_28 (m : MethodId) (p0 : Int32)  : entryFrame m #[(.int p0)] 1 = mkF m 0 #[.val (.int p0)] [] := by first | (simp [entryFrame, mkF, argsToLocals, Value.category]; done) | rfl
def Q_m8_28 (Z : State) (p0 : Int32) (jj0 : Addr) (jj1 : Cell) (h0 : Heap) (n0 : Nat) (v : Option Value) (h : Heap) (L : List Loc) : Prop := ∃ (r : Addr), v = some (.ref r) ∧ Fr n0 L ∧ Keep h0 h [] ∧ Exa Z h r kc2 ∧ Fld Z h r kc2 "value" "I" (.int p0)
theorem rm_m8_28 (l : Launch) (Z : State) (aZ : Array Value) (hw : ∀ d ∈ tables_1, d.before aZ Z = true) (ws : List Jvm.Cond) (p0 : Int32) (jj0 : Addr) (jj1 : Cell) (h0 : Heap) (n0 : Nat) (Z0 : n0 ≤ h0.size) (zz2 : Sta Z Z.heap kc4 "high" "I" (.int (127 : Int32))) (O0 : Old Z n0 h0) (zz3 : Sta Z Z.heap kc4 "cache" "[Ljava/lang/Integer;" (.ref jj0)) (zz4 : Bxs Z jj0 jj1 kc2 "I" (256 : Int32) (fun j => .int (j - 128))) :
    MetN l Z yn_8 jdk_33_method_22_code 1 (some (.object kc2)) ws ({ frames := 3, cells := 1, slots := 1, locals := 38 } : Room) #[(.int p0)] h0 (Q_m8_28 Z p0 jj0 jj1 h0 n0) := by
 refine MetN.of (plainFor_of_name pn_6) ?_
 intro p e s m below meth c s₁ hret hx hby hml hown hnm hlk hZ X0 e0
 have N0 := Fr.nil n0
 rw [ef_m8_28 m p0]
 refine w_iloadN X0 hx (d8_0 hby) rfl (pc' := 1) rfl ?_
 refine w_bipush X0 hx (d8_1 hby) (v := (-128 : Int32)) rfl (pc' := 3) rfl ?_
 by_cases hc20 : p0 < (-128 : Int32)
 · refine w_icY X0 hx (d8_3 hby) (tlt hc20).1 (pc' := 23) (by decide) (by decide) ?_
   refine w_new X0 hx hZ hown (wd_159 hw) (wd_160 hw) (wd_57 hw) e0 (d8_23 hby) (by decide) (by decide) (pc' := 26) rfl ?_
   intro T21 h21 b21 X21 e21 E21 g21 A21 D21
   have ge22 : n0 ≤ b21 := Nat.le_trans Z0 (Nat.le_of_eq g21.symm)
   have sz23 : h0.size ≤ b21 := Nat.le_trans (Nat.le_refl _) (Nat.le_of_eq g21.symm)
   have K24 : Keep h0 h21 [] := (Keep.refl h0 []).ext E21
   have f25 : Fld Z h21 b21 kc2 "value" "I" (.int (0 : Int32)) := D21 (Or.inr (wd_80 hw)) (ty := .int) (by decide)
   refine w_dup X21 hx (d8_26 hby) rfl (pc' := 27) rfl ?_
   refine w_iloadN X21 hx (d8_27 hby) rfl (pc' := 28) rfl ?_
   refine w_special X21 hx (y := yn_30) rfl hown (mvT hZ (wd_161 hw)) (mvT hZ (wd_162 hw)) (mvT hZ (wd_164 hw)) (by decide) (backOf (W := 1) (rm_m30_29 l Z aZ hw [] b21 p0 h21 n0 (Nat.le_trans Z0 E21.1) A21 f25 ge22) hZ (wd_164 hw) (wd_57 hw) (by decide) (by decide)) (by rw [hml]; rfl) [(.int p0)] (lenOf pd_11 rfl) rfl (Nat.le_of_eq rfl) (d8_28 hby) (fun _ _ => ⟨rfl, e21, (by decide : 1 + 0 ≤ _), (by decide : 1 + 0 ≤ _)⟩) (pc' := 31) rfl ?_
   rintro _ _ ⟨T26, L26, k26, n26⟩ X26 ⟨Lc26, hQ26, l26, y26, z26⟩
   dsimp only [Pt.U, Pt.locs, Pt.cells, Pt.slots] at X26 l26 y26 z26 hQ26 ⊢
   subst l26 y26 z26
   obtain ⟨rfl, N26q, K26, g26_0, g26_1⟩ := hQ26
   have N27 := Fr.app N0 N26q
   have K28 : Keep h0 T26.heap [] := K24.trans K26 (allS (Or.inr sz23) (all0 (P := fun x => x ∈ [] ∨ h0.size ≤ x)))
   show Runs _ _ _ _ (T26.setTop (mkF m 31 #[.val (.int p0)] [(.ref b21)]))
   exact w_done X26 hlk (v := some (.ref b21)) rfl (fun h => by rw [hret] at h; cases h) (fun fs hr => retOut X26 hx hret rfl (Or.inr (Or.inr (Or.inr (Or.inr ⟨rfl, rfl, rfl⟩)))) (d8_31 hby) hr) (by decide) (by decide) (⟨b21, rfl, N27, K28, g26_0, g26_1⟩)
 · refine w_icN X0 hx (d8_3 hby) (flt hc20).1 (pc' := 6) rfl ?_
   refine w_iloadN X0 hx (d8_6 hby) rfl (pc' := 7) rfl ?_
   refine w_getS X0 hx "" hZ hown (Or.inl (wd_59 hw)) Via.refl e0 (zz2.ext O0.2) (d8_7 hby) (pc' := 10) rfl ?_
   intro T29 X29 e29
   by_cases hc30 : (127 : Int32) < p0
   · refine w_icY X29 hx (d8_10 hby) (tlt hc30).2.2.1 (pc' := 23) (by decide) (by decide) ?_
     refine w_new X29 hx hZ hown (wd_159 hw) (wd_160 hw) (wd_57 hw) e29 (d8_23 hby) (by decide) (by decide) (pc' := 26) rfl ?_
     intro T31 h31 b31 X31 e31 E31 g31 A31 D31
     have ge32 : n0 ≤ b31 := Nat.le_trans Z0 (Nat.le_of_eq g31.symm)
     have sz33 : h0.size ≤ b31 := Nat.le_trans (Nat.le_refl _) (Nat.le_of_eq g31.symm)
     have K34 : Keep h0 h31 [] := (Keep.refl h0 []).ext E31
     have f35 : Fld Z h31 b31 kc2 "value" "I" (.int (0 : Int32)) := D31 (Or.inr (wd_80 hw)) (ty := .int) (by decide)
     refine w_dup X31 hx (d8_26 hby) rfl (pc' := 27) rfl ?_
     refine w_iloadN X31 hx (d8_27 hby) rfl (pc' := 28) rfl ?_
     refine w_special X31 hx (y := yn_30) rfl hown (mvT hZ (wd_161 hw)) (mvT hZ (wd_162 hw)) (mvT hZ (wd_164 hw)) (by decide) (backOf (W := 1) (rm_m30_29 l Z aZ hw [] b31 p0 h31 n0 (Nat.le_trans Z0 E31.1) A31 f35 ge32) hZ (wd_164 hw) (wd_57 hw) (by decide) (by decide)) (by rw [hml]; rfl) [(.int p0)] (lenOf pd_11 rfl) rfl (Nat.le_of_eq rfl) (d8_28 hby) (fun _ _ => ⟨rfl, e31, (by decide : 1 + 0 ≤ _), (by decide : 1 + 0 ≤ _)⟩) (pc' := 31) rfl ?_
     rintro _ _ ⟨T36, L36, k36, n36⟩ X36 ⟨Lc36, hQ36, l36, y36, z36⟩
     dsimp only [Pt.U, Pt.locs, Pt.cells, Pt.slots] at X36 l36 y36 z36 hQ36 ⊢
     subst l36 y36 z36
     obtain ⟨rfl, N36q, K36, g36_0, g36_1⟩ := hQ36
     have N37 := Fr.app N0 N36q
     have K38 : Keep h0 T36.heap [] := K34.trans K36 (allS (Or.inr sz33) (all0 (P := fun x => x ∈ [] ∨ h0.size ≤ x)))
     show Runs _ _ _ _ (T36.setTop (mkF m 31 #[.val (.int p0)] [(.ref b31)]))
     exact w_done X36 hlk (v := some (.ref b31)) rfl (fun h => by rw [hret] at h; cases h) (fun fs hr => retOut X36 hx hret rfl (Or.inr (Or.inr (Or.inr (Or.inr ⟨rfl, rfl, rfl⟩)))) (d8_31 hby) hr) (by decide) (by decide) (⟨b31, rfl, N37, K38, g36_0, g36_1⟩)
   · refine w_icN X29 hx (d8_10 hby) (flt hc30).2.2.1 (pc' := 13) rfl ?_
     refine w_getS X29 hx "" hZ hown (Or.inl (wd_61 hw)) Via.refl e29 (zz3.ext O0.2) (d8_13 hby) (pc' := 16) rfl ?_
     intro T39 X39 e39
     refine w_iloadN X39 hx (d8_16 hby) rfl (pc' := 17) rfl ?_
     refine w_sipush X39 hx (d8_17 hby) (v := (128 : Int32)) rfl (pc' := 20) rfl ?_
     refine w_iadd X39 hx (d8_20 hby) (pc' := 21) rfl ?_
     have hin40 : ¬ ((p0 + (128 : Int32)) < 0 ∨ jj1.slots.size ≤ ((p0 + (128 : Int32))).toNatClampNeg) := inb_of zz4.2.1 ⟨(own_box hc20 hc30).1, (own_box hc20 hc30).2⟩
     obtain ⟨b40, hb40, Eb40, Fb40⟩ := zz4.2.2.2 _ hin40
     have Ab40 := (zz4.ext O0.2).1
     refine w_aaload X39 hx hZ e39 Ab40 rfl hin40 hb40 (d8_21 hby) (pc' := 22) rfl ?_
     exact w_done X39 hlk (v := some (.ref b40)) e39 (fun h => by rw [hret] at h; cases h) (fun fs hr => retOut X39 hx hret rfl (Or.inr (Or.inr (Or.inr (Or.inr ⟨rfl, rfl, rfl⟩)))) (d8_22 hby) hr) (by decide) (by decide) (⟨b40, rfl, N0, (Keep.refl h0 []), (Eb40.ext O0.2), (by have hq : ((p0 + (128 : Int32)) - (128 : Int32)) = p0 := own_addsub _; have hf := (Fb40.ext O0.2); simp only [hq] at hf; exact hf)⟩)
theorem ef_m32_33 (m : MethodId) (a1 : Addr)  : entryFrame m #[(.int (1 : Int32)), (.ref a1), (.int (0 : Int32)), (.int (2 : Int32))] 6 = mkF m 0 #[.val (.int (1 : Int32)), .val (.ref a1), .val (.int (0 : Int32)), .val (.int (2 : Int32)), .unset, .unset] [] := by first | (simp [entryFrame, mkF, argsToLocals, Value.category]; done) | rfl
def Q_m32_33 (Z : State) (a1 : Addr) (k_a1 : ClassId) (jj0 : Int32) (jj1 : Int32) (h0 : Heap) (n0 : Nat) (v : Option Value) (h : Heap) (L : List Loc) : Prop := v = some (.int (((31 : Int32) * ((31 : Int32) + jj0)) + jj1)) ∧ Fr n0 L ∧ h = h0
theorem rm_m32_33 (l : Launch) (Z : State) (aZ : Array Value) (hw : ∀ d ∈ tables_1, d.before aZ Z = true) (ws : List Jvm.Cond) (a1 : Addr) (k_a1 : ClassId) (jj0 : Int32) (jj1 : Int32) (h0 : Heap) (n0 : Nat) (Z0 : n0 ≤ h0.size) (V_a1 : Arv Z h0 a1 k_a1 .byte (2 : Int32) [(.int jj0), (.int jj1)] (.int (0 : Int32))) :
    MetN l Z yn_32 jdk_48_method_6_code 6 (some .int) ws ({ frames := 0, cells := 0, slots := 0, locals := 0 } : Room) #[(.int (1 : Int32)), (.ref a1), (.int (0 : Int32)), (.int (2 : Int32))] h0 (Q_m32_33 Z a1 k_a1 jj0 jj1 h0 n0) := by
 refine MetN.of (plainFor_of_name pn_7) ?_
 intro p e s m below meth c s₁ hret hx hby hml hown hnm hlk hZ X0 e0
 have N0 := Fr.nil n0
 rw [ef_m32_33 m a1]
 refine w_iloadN X0 hx (d32_0 hby) rfl (pc' := 1) rfl ?_
 refine w_iloadN X0 hx (d32_1 hby) rfl (pc' := 2) rfl ?_
 refine w_iadd X0 hx (d32_2 hby) (pc' := 3) rfl ?_
 rw [show ((0 : Int32) + (2 : Int32)) = (2 : Int32) from by decide]
 refine w_istore X0 hx (d32_3 hby) (L' := #[.val (.int (1 : Int32)), .val (.ref a1), .val (.int (0 : Int32)), .val (.int (2 : Int32)), .val (.int (2 : Int32)), .unset]) rfl (pc' := 5) rfl ?_
 refine w_iloadN X0 hx (d32_5 hby) rfl (pc' := 6) rfl ?_
 refine w_istore X0 hx (d32_6 hby) (L' := #[.val (.int (1 : Int32)), .val (.ref a1), .val (.int (0 : Int32)), .val (.int (2 : Int32)), .val (.int (2 : Int32)), .val (.int (0 : Int32))]) rfl (pc' := 8) rfl ?_
 refine w_iload X0 hx (d32_8 hby) rfl (pc' := 10) rfl ?_
 refine w_iload X0 hx (d32_10 hby) rfl (pc' := 12) rfl ?_
 refine w_icN X0 hx (d32_12 hby) (tlt (by decide : (0 : Int32) < (2 : Int32))).2.1 (pc' := 15) rfl ?_
 refine w_bipush X0 hx (d32_15 hby) (v := (31 : Int32)) rfl (pc' := 17) rfl ?_
 refine w_iloadN X0 hx (d32_17 hby) rfl (pc' := 18) rfl ?_
 refine w_imul X0 hx (d32_18 hby) (pc' := 19) rfl ?_
 rw [show ((31 : Int32) * (1 : Int32)) = (31 : Int32) from by decide]
 refine w_aloadN X0 hx (d32_19 hby) rfl rfl (pc' := 20) rfl ?_
 refine w_iload X0 hx (d32_20 hby) rfl (pc' := 22) rfl ?_
 obtain ⟨clu20, Aru20, qu20, Su20, Nu20, Hu20, Gu20⟩ := id V_a1
 have hinu20 := inb_of (j := (0 : Int32)) Su20 ⟨by decide, by decide⟩
 refine w_baload X0 hx hZ e0 Aru20 hinu20 (Hu20.at hinu20 rfl) (d32_22 hby) (pc' := 23) rfl ?_
 refine w_iadd X0 hx (d32_23 hby) (pc' := 24) rfl ?_
 refine w_istoreN X0 hx (d32_24 hby) (L' := #[.val (.int ((31 : Int32) + jj0)), .val (.ref a1), .val (.int (0 : Int32)), .val (.int (2 : Int32)), .val (.int (2 : Int32)), .val (.int (0 : Int32))]) rfl (pc' := 25) rfl ?_
 refine w_iinc X0 hx (d32_25 hby) (v := (1 : Int32)) rfl rfl (L' := #[.val (.int ((31 : Int32) + jj0)), .val (.ref a1), .val (.int (0 : Int32)), .val (.int (2 : Int32)), .val (.int (2 : Int32)), .val (.int ((0 : Int32) + (1 : Int32)))]) rfl (pc' := 28) rfl ?_
 rw [show ((0 : Int32) + (1 : Int32)) = (1 : Int32) from by decide]
 refine w_goto X0 hx (d32_28 hby) (pc' := 8) (by decide) (by decide) ?_
 refine w_iload X0 hx (d32_8 hby) rfl (pc' := 10) rfl ?_
 refine w_iload X0 hx (d32_10 hby) rfl (pc' := 12) rfl ?_
 refine w_icN X0 hx (d32_12 hby) (tlt (by decide : (1 : Int32) < (2 : Int32))).2.1 (pc' := 15) rfl ?_
 refine w_bipush X0 hx (d32_15 hby) (v := (31 : Int32)) rfl (pc' := 17) rfl ?_
 refine w_iloadN X0 hx (d32_17 hby) rfl (pc' := 18) rfl ?_
 refine w_imul X0 hx (d32_18 hby) (pc' := 19) rfl ?_
 refine w_aloadN X0 hx (d32_19 hby) rfl rfl (pc' := 20) rfl ?_
 refine w_iload X0 hx (d32_20 hby) rfl (pc' := 22) rfl ?_
 obtain ⟨clu21, Aru21, qu21, Su21, Nu21, Hu21, Gu21⟩ := id V_a1
 have hinu21 := inb_of (j := (1 : Int32)) Su21 ⟨by decide, by decide⟩
 refine w_baload X0 hx hZ e0 Aru21 hinu21 (Hu21.at hinu21 rfl) (d32_22 hby) (pc' := 23) rfl ?_
 refine w_iadd X0 hx (d32_23 hby) (pc' := 24) rfl ?_
 refine w_istoreN X0 hx (d32_24 hby) (L' := #[.val (.int (((31 : Int32) * ((31 : Int32) + jj0)) + jj1)), .val (.ref a1), .val (.int (0 : Int32)), .val (.int (2 : Int32)), .val (.int (2 : Int32)), .val (.int (1 : Int32))]) rfl (pc' := 25) rfl ?_
 refine w_iinc X0 hx (d32_25 hby) (v := (1 : Int32)) rfl rfl (L' := #[.val (.int (((31 : Int32) * ((31 : Int32) + jj0)) + jj1)), .val (.ref a1), .val (.int (0 : Int32)), .val (.int (2 : Int32)), .val (.int (2 : Int32)), .val (.int ((1 : Int32) + (1 : Int32)))]) rfl (pc' := 28) rfl ?_
 rw [show ((1 : Int32) + (1 : Int32)) = (2 : Int32) from by decide]
 refine w_goto X0 hx (d32_28 hby) (pc' := 8) (by decide) (by decide) ?_
 refine w_iload X0 hx (d32_8 hby) rfl (pc' := 10) rfl ?_
 refine w_iload X0 hx (d32_10 hby) rfl (pc' := 12) rfl ?_
 refine w_icY X0 hx (d32_12 hby) (flt (by decide : ¬ ((2 : Int32) < (2 : Int32)))).2.1 (pc' := 31) (by decide) (by decide) ?_
 refine w_iloadN X0 hx (d32_31 hby) rfl (pc' := 32) rfl ?_
 exact w_done X0 hlk (v := some (.int (((31 : Int32) * ((31 : Int32) + jj0)) + jj1))) e0 (fun h => by rw [hret] at h; cases h) (fun fs hr => retI X0 hx hret (d32_32 hby) hr) (by decide) (by decide) (⟨rfl, N0, rfl⟩)
theorem ef_m26_32 (m : MethodId) (a0 : Addr)  : entryFrame m #[(.ref a0), (.int (0 : Int32)), (.int (2 : Int32)), (.int (1 : Int32)), (.int (8 : Int32))] 5 = mkF m 0 #[.val (.ref a0), .val (.int (0 : Int32)), .val (.int (2 : Int32)), .val (.int (1 : Int32)), .val (.int (8 : Int32))] [] := by first | (simp [entryFrame, mkF, argsToLocals, Value.category]; done) | rfl
def Q_m26_32 (Z : State) (a0 : Addr) (k_a0 : ClassId) (jj0 : Int32) (jj1 : Int32) (h0 : Heap) (n0 : Nat) (v : Option Value) (h : Heap) (L : List Loc) : Prop := v = some (.int (((31 : Int32) * ((31 : Int32) + jj0)) + jj1)) ∧ Fr n0 L ∧ h = h0
theorem rm_m26_32 (l : Launch) (Z : State) (aZ : Array Value) (hw : ∀ d ∈ tables_1, d.before aZ Z = true) (ws : List Jvm.Cond) (a0 : Addr) (k_a0 : ClassId) (jj0 : Int32) (jj1 : Int32) (h0 : Heap) (n0 : Nat) (Z0 : n0 ≤ h0.size) (E_a0 : Exa Z h0 a0 "[B") (V_a0 : Arv Z h0 a0 k_a0 .byte (2 : Int32) [(.int jj0), (.int jj1)] (.int (0 : Int32))) :
    MetN l Z yn_26 jdk_48_method_4_code 5 (some .int) ws ({ frames := 1, cells := 0, slots := 0, locals := 17 } : Room) #[(.ref a0), (.int (0 : Int32)), (.int (2 : Int32)), (.int (1 : Int32)), (.int (8 : Int32))] h0 (Q_m26_32 Z a0 k_a0 jj0 jj1 h0 n0) := by
 refine MetN.of (plainFor_of_name pn_7) ?_
 intro p e s m below meth c s₁ hret hx hby hml hown hnm hlk hZ X0 e0
 have N0 := Fr.nil n0
 rw [ef_m26_32 m a0]
 refine w_iload X0 hx (d26_0 hby) rfl (pc' := 2) rfl ?_
 refine w_tswIn X0 hx (d26_2 hby) (by decide) (o := 88) rfl (pc' := 90) (by decide) (by decide) ?_
 refine w_iloadN X0 hx (d26_90 hby) rfl (pc' := 91) rfl ?_
 refine w_aloadN X0 hx (d26_91 hby) rfl rfl (pc' := 92) rfl ?_
 refine w_castY X0 hx hZ hown (wd_144 hw) e0 (Ins.self E_a0) (d26_92 hby) (pc' := 95) rfl ?_
 intro T20 X20 e20
 refine w_iloadN X20 hx (d26_95 hby) rfl (pc' := 96) rfl ?_
 refine w_iloadN X20 hx (d26_96 hby) rfl (pc' := 97) rfl ?_
 refine w_static X20 hx (y := yn_32) hown (mvT hZ (wd_173 hw)) (mvT hZ (wd_174 hw)) (mvT hZ (wd_99 hw)) (mvT hZ (wd_175 hw)) (by decide) (backOf (W := 0) (rm_m32_33 l Z aZ hw [] a0 k_a0 jj0 jj1 h0 n0 Z0 V_a0) hZ (wd_175 hw) (wd_99 hw) (by decide) (by decide)) (by rw [hml]; rfl) [(.int (1 : Int32)), (.ref a0), (.int (0 : Int32)), (.int (2 : Int32))] (lenOf pd_13 rfl) rfl (Nat.le_of_eq rfl) (d26_97 hby) (fun _ _ => ⟨rfl, e20, (by decide : 0 + 0 ≤ _), (by decide : 0 + 0 ≤ _)⟩) (pc' := 100) rfl ?_
 rintro _ _ ⟨T21, L21, k21, n21⟩ X21 ⟨Lc21, hQ21, l21, y21, z21⟩
 dsimp only [Pt.U, Pt.locs, Pt.cells, Pt.slots] at X21 l21 y21 z21 hQ21 ⊢
 subst l21 y21 z21
 obtain ⟨rfl, N21q, e21⟩ := hQ21
 have N22 := Fr.app N0 N21q
 show Runs _ _ _ _ (T21.setTop (mkF m 100 #[.val (.ref a0), .val (.int (0 : Int32)), .val (.int (2 : Int32)), .val (.int (1 : Int32)), .val (.int (8 : Int32))] [(.int (((31 : Int32) * ((31 : Int32) + jj0)) + jj1))]))
 refine w_goto X21 hx (d26_100 hby) (pc' := 157) (by decide) (by decide) ?_
 exact w_done X21 hlk (v := some (.int (((31 : Int32) * ((31 : Int32) + jj0)) + jj1))) e21 (fun h => by rw [hret] at h; cases h) (fun fs hr => retI X21 hx hret (d26_157 hby) hr) (by decide) (by decide) (⟨rfl, N22, rfl⟩)
theorem ef_m32_35 (m : MethodId) (a1 : Addr)  : entryFrame m #[(.int (1 : Int32)), (.ref a1), (.int (0 : Int32)), (.int (3 : Int32))] 6 = mkF m 0 #[.val (.int (1 : Int32)), .val (.ref a1), .val (.int (0 : Int32)), .val (.int (3 : Int32)), .unset, .unset] [] := by first | (simp [entryFrame, mkF, argsToLocals, Value.category]; done) | rfl
def Q_m32_35 (Z : State) (a1 : Addr) (k_a1 : ClassId) (jj0 : Int32) (jj1 : Int32) (jj2 : Int32) (h0 : Heap) (n0 : Nat) (v : Option Value) (h : Heap) (L : List Loc) : Prop := v = some (.int (((31 : Int32) * (((31 : Int32) * ((31 : Int32) + jj0)) + jj1)) + jj2)) ∧ Fr n0 L ∧ h = h0
theorem rm_m32_35 (l : Launch) (Z : State) (aZ : Array Value) (hw : ∀ d ∈ tables_1, d.before aZ Z = true) (ws : List Jvm.Cond) (a1 : Addr) (k_a1 : ClassId) (jj0 : Int32) (jj1 : Int32) (jj2 : Int32) (h0 : Heap) (n0 : Nat) (Z0 : n0 ≤ h0.size) (V_a1 : Arv Z h0 a1 k_a1 .byte (3 : Int32) [(.int jj0), (.int jj1), (.int jj2)] (.int (0 : Int32))) :
    MetN l Z yn_32 jdk_48_method_6_code 6 (some .int) ws ({ frames := 0, cells := 0, slots := 0, locals := 0 } : Room) #[(.int (1 : Int32)), (.ref a1), (.int (0 : Int32)), (.int (3 : Int32))] h0 (Q_m32_35 Z a1 k_a1 jj0 jj1 jj2 h0 n0) := by
 refine MetN.of (plainFor_of_name pn_7) ?_
 intro p e s m below meth c s₁ hret hx hby hml hown hnm hlk hZ X0 e0
 have N0 := Fr.nil n0
 rw [ef_m32_35 m a1]
 refine w_iloadN X0 hx (d32_0 hby) rfl (pc' := 1) rfl ?_
 refine w_iloadN X0 hx (d32_1 hby) rfl (pc' := 2) rfl ?_
 refine w_iadd X0 hx (d32_2 hby) (pc' := 3) rfl ?_
 rw [show ((0 : Int32) + (3 : Int32)) = (3 : Int32) from by decide]
 refine w_istore X0 hx (d32_3 hby) (L' := #[.val (.int (1 : Int32)), .val (.ref a1), .val (.int (0 : Int32)), .val (.int (3 : Int32)), .val (.int (3 : Int32)), .unset]) rfl (pc' := 5) rfl ?_
 refine w_iloadN X0 hx (d32_5 hby) rfl (pc' := 6) rfl ?_
 refine w_istore X0 hx (d32_6 hby) (L' := #[.val (.int (1 : Int32)), .val (.ref a1), .val (.int (0 : Int32)), .val (.int (3 : Int32)), .val (.int (3 : Int32)), .val (.int (0 : Int32))]) rfl (pc' := 8) rfl ?_
 refine w_iload X0 hx (d32_8 hby) rfl (pc' := 10) rfl ?_
 refine w_iload X0 hx (d32_10 hby) rfl (pc' := 12) rfl ?_
 refine w_icN X0 hx (d32_12 hby) (tlt (by decide : (0 : Int32) < (3 : Int32))).2.1 (pc' := 15) rfl ?_
 refine w_bipush X0 hx (d32_15 hby) (v := (31 : Int32)) rfl (pc' := 17) rfl ?_
 refine w_iloadN X0 hx (d32_17 hby) rfl (pc' := 18) rfl ?_
 refine w_imul X0 hx (d32_18 hby) (pc' := 19) rfl ?_
 rw [show ((31 : Int32) * (1 : Int32)) = (31 : Int32) from by decide]
 refine w_aloadN X0 hx (d32_19 hby) rfl rfl (pc' := 20) rfl ?_
 refine w_iload X0 hx (d32_20 hby) rfl (pc' := 22) rfl ?_
 obtain ⟨clu20, Aru20, qu20, Su20, Nu20, Hu20, Gu20⟩ := id V_a1
 have hinu20 := inb_of (j := (0 : Int32)) Su20 ⟨by decide, by decide⟩
 refine w_baload X0 hx hZ e0 Aru20 hinu20 (Hu20.at hinu20 rfl) (d32_22 hby) (pc' := 23) rfl ?_
 refine w_iadd X0 hx (d32_23 hby) (pc' := 24) rfl ?_
 refine w_istoreN X0 hx (d32_24 hby) (L' := #[.val (.int ((31 : Int32) + jj0)), .val (.ref a1), .val (.int (0 : Int32)), .val (.int (3 : Int32)), .val (.int (3 : Int32)), .val (.int (0 : Int32))]) rfl (pc' := 25) rfl ?_
 refine w_iinc X0 hx (d32_25 hby) (v := (1 : Int32)) rfl rfl (L' := #[.val (.int ((31 : Int32) + jj0)), .val (.ref a1), .val (.int (0 : Int32)), .val (.int (3 : Int32)), .val (.int (3 : Int32)), .val (.int ((0 : Int32) + (1 : Int32)))]) rfl (pc' := 28) rfl ?_
 rw [show ((0 : Int32) + (1 : Int32)) = (1 : Int32) from by decide]
 refine w_goto X0 hx (d32_28 hby) (pc' := 8) (by decide) (by decide) ?_
 refine w_iload X0 hx (d32_8 hby) rfl (pc' := 10) rfl ?_
 refine w_iload X0 hx (d32_10 hby) rfl (pc' := 12) rfl ?_
 refine w_icN X0 hx (d32_12 hby) (tlt (by decide : (1 : Int32) < (3 : Int32))).2.1 (pc' := 15) rfl ?_
 refine w_bipush X0 hx (d32_15 hby) (v := (31 : Int32)) rfl (pc' := 17) rfl ?_
 refine w_iloadN X0 hx (d32_17 hby) rfl (pc' := 18) rfl ?_
 refine w_imul X0 hx (d32_18 hby) (pc' := 19) rfl ?_
 refine w_aloadN X0 hx (d32_19 hby) rfl rfl (pc' := 20) rfl ?_
 refine w_iload X0 hx (d32_20 hby) rfl (pc' := 22) rfl ?_
 obtain ⟨clu21, Aru21, qu21, Su21, Nu21, Hu21, Gu21⟩ := id V_a1
 have hinu21 := inb_of (j := (1 : Int32)) Su21 ⟨by decide, by decide⟩
 refine w_baload X0 hx hZ e0 Aru21 hinu21 (Hu21.at hinu21 rfl) (d32_22 hby) (pc' := 23) rfl ?_
 refine w_iadd X0 hx (d32_23 hby) (pc' := 24) rfl ?_
 refine w_istoreN X0 hx (d32_24 hby) (L' := #[.val (.int (((31 : Int32) * ((31 : Int32) + jj0)) + jj1)), .val (.ref a1), .val (.int (0 : Int32)), .val (.int (3 : Int32)), .val (.int (3 : Int32)), .val (.int (1 : Int32))]) rfl (pc' := 25) rfl ?_
 refine w_iinc X0 hx (d32_25 hby) (v := (1 : Int32)) rfl rfl (L' := #[.val (.int (((31 : Int32) * ((31 : Int32) + jj0)) + jj1)), .val (.ref a1), .val (.int (0 : Int32)), .val (.int (3 : Int32)), .val (.int (3 : Int32)), .val (.int ((1 : Int32) + (1 : Int32)))]) rfl (pc' := 28) rfl ?_
 rw [show ((1 : Int32) + (1 : Int32)) = (2 : Int32) from by decide]
 refine w_goto X0 hx (d32_28 hby) (pc' := 8) (by decide) (by decide) ?_
 refine w_iload X0 hx (d32_8 hby) rfl (pc' := 10) rfl ?_
 refine w_iload X0 hx (d32_10 hby) rfl (pc' := 12) rfl ?_
 refine w_icN X0 hx (d32_12 hby) (tlt (by decide : (2 : Int32) < (3 : Int32))).2.1 (pc' := 15) rfl ?_
 refine w_bipush X0 hx (d32_15 hby) (v := (31 : Int32)) rfl (pc' := 17) rfl ?_
 refine w_iloadN X0 hx (d32_17 hby) rfl (pc' := 18) rfl ?_
 refine w_imul X0 hx (d32_18 hby) (pc' := 19) rfl ?_
 refine w_aloadN X0 hx (d32_19 hby) rfl rfl (pc' := 20) rfl ?_
 refine w_iload X0 hx (d32_20 hby) rfl (pc' := 22) rfl ?_
 obtain ⟨clu22, Aru22, qu22, Su22, Nu22, Hu22, Gu22⟩ := id V_a1
 have hinu22 := inb_of (j := (2 : Int32)) Su22 ⟨by decide, by decide⟩
 refine w_baload X0 hx hZ e0 Aru22 hinu22 (Hu22.at hinu22 rfl) (d32_22 hby) (pc' := 23) rfl ?_
 refine w_iadd X0 hx (d32_23 hby) (pc' := 24) rfl ?_
 refine w_istoreN X0 hx (d32_24 hby) (L' := #[.val (.int (((31 : Int32) * (((31 : Int32) * ((31 : Int32) + jj0)) + jj1)) + jj2)), .val (.ref a1), .val (.int (0 : Int32)), .val (.int (3 : Int32)), .val (.int (3 : Int32)), .val (.int (2 : Int32))]) rfl (pc' := 25) rfl ?_
 refine w_iinc X0 hx (d32_25 hby) (v := (1 : Int32)) rfl rfl (L' := #[.val (.int (((31 : Int32) * (((31 : Int32) * ((31 : Int32) + jj0)) + jj1)) + jj2)), .val (.ref a1), .val (.int (0 : Int32)), .val (.int (3 : Int32)), .val (.int (3 : Int32)), .val (.int ((2 : Int32) + (1 : Int32)))]) rfl (pc' := 28) rfl ?_
 rw [show ((2 : Int32) + (1 : Int32)) = (3 : Int32) from by decide]
 refine w_goto X0 hx (d32_28 hby) (pc' := 8) (by decide) (by decide) ?_
 refine w_iload X0 hx (d32_8 hby) rfl (pc' := 10) rfl ?_
 refine w_iload X0 hx (d32_10 hby) rfl (pc' := 12) rfl ?_
 refine w_icY X0 hx (d32_12 hby) (flt (by decide : ¬ ((3 : Int32) < (3 : Int32)))).2.1 (pc' := 31) (by decide) (by decide) ?_
 refine w_iloadN X0 hx (d32_31 hby) rfl (pc' := 32) rfl ?_
 exact w_done X0 hlk (v := some (.int (((31 : Int32) * (((31 : Int32) * ((31 : Int32) + jj0)) + jj1)) + jj2))) e0 (fun h => by rw [hret] at h; cases h) (fun fs hr => retI X0 hx hret (d32_32 hby) hr) (by decide) (by decide) (⟨rfl, N0, rfl⟩)
theorem ef_m26_34 (m : MethodId) (a0 : Addr)  : entryFrame m #[(.ref a0), (.int (0 : Int32)), (.int (3 : Int32)), (.int (1 : Int32)), (.int (8 : Int32))] 5 = mkF m 0 #[.val (.ref a0), .val (.int (0 : Int32)), .val (.int (3 : Int32)), .val (.int (1 : Int32)), .val (.int (8 : Int32))] [] := by first | (simp [entryFrame, mkF, argsToLocals, Value.category]; done) | rfl
def Q_m26_34 (Z : State) (a0 : Addr) (k_a0 : ClassId) (jj0 : Int32) (jj1 : Int32) (jj2 : Int32) (h0 : Heap) (n0 : Nat) (v : Option Value) (h : Heap) (L : List Loc) : Prop := v = some (.int (((31 : Int32) * (((31 : Int32) * ((31 : Int32) + jj0)) + jj1)) + jj2)) ∧ Fr n0 L ∧ h = h0
theorem rm_m26_34 (l : Launch) (Z : State) (aZ : Array Value) (hw : ∀ d ∈ tables_1, d.before aZ Z = true) (ws : List Jvm.Cond) (a0 : Addr) (k_a0 : ClassId) (jj0 : Int32) (jj1 : Int32) (jj2 : Int32) (h0 : Heap) (n0 : Nat) (Z0 : n0 ≤ h0.size) (E_a0 : Exa Z h0 a0 "[B") (V_a0 : Arv Z h0 a0 k_a0 .byte (3 : Int32) [(.int jj0), (.int jj1), (.int jj2)] (.int (0 : Int32))) :
    MetN l Z yn_26 jdk_48_method_4_code 5 (some .int) ws ({ frames := 1, cells := 0, slots := 0, locals := 17 } : Room) #[(.ref a0), (.int (0 : Int32)), (.int (3 : Int32)), (.int (1 : Int32)), (.int (8 : Int32))] h0 (Q_m26_34 Z a0 k_a0 jj0 jj1 jj2 h0 n0) := by
 refine MetN.of (plainFor_of_name pn_7) ?_
 intro p e s m below meth c s₁ hret hx hby hml hown hnm hlk hZ X0 e0
 have N0 := Fr.nil n0
 rw [ef_m26_34 m a0]
 refine w_iload X0 hx (d26_0 hby) rfl (pc' := 2) rfl ?_
 refine w_tswIn X0 hx (d26_2 hby) (by decide) (o := 88) rfl (pc' := 90) (by decide) (by decide) ?_
 refine w_iloadN X0 hx (d26_90 hby) rfl (pc' := 91) rfl ?_
 refine w_aloadN X0 hx (d26_91 hby) rfl rfl (pc' := 92) rfl ?_
 refine w_castY X0 hx hZ hown (wd_144 hw) e0 (Ins.self E_a0) (d26_92 hby) (pc' := 95) rfl ?_
 intro T20 X20 e20
 refine w_iloadN X20 hx (d26_95 hby) rfl (pc' := 96) rfl ?_
 refine w_iloadN X20 hx (d26_96 hby) rfl (pc' := 97) rfl ?_
 refine w_static X20 hx (y := yn_32) hown (mvT hZ (wd_173 hw)) (mvT hZ (wd_174 hw)) (mvT hZ (wd_99 hw)) (mvT hZ (wd_175 hw)) (by decide) (backOf (W := 0) (rm_m32_35 l Z aZ hw [] a0 k_a0 jj0 jj1 jj2 h0 n0 Z0 V_a0) hZ (wd_175 hw) (wd_99 hw) (by decide) (by decide)) (by rw [hml]; rfl) [(.int (1 : Int32)), (.ref a0), (.int (0 : Int32)), (.int (3 : Int32))] (lenOf pd_13 rfl) rfl (Nat.le_of_eq rfl) (d26_97 hby) (fun _ _ => ⟨rfl, e20, (by decide : 0 + 0 ≤ _), (by decide : 0 + 0 ≤ _)⟩) (pc' := 100) rfl ?_
 rintro _ _ ⟨T21, L21, k21, n21⟩ X21 ⟨Lc21, hQ21, l21, y21, z21⟩
 dsimp only [Pt.U, Pt.locs, Pt.cells, Pt.slots] at X21 l21 y21 z21 hQ21 ⊢
 subst l21 y21 z21
 obtain ⟨rfl, N21q, e21⟩ := hQ21
 have N22 := Fr.app N0 N21q
 show Runs _ _ _ _ (T21.setTop (mkF m 100 #[.val (.ref a0), .val (.int (0 : Int32)), .val (.int (3 : Int32)), .val (.int (1 : Int32)), .val (.int (8 : Int32))] [(.int (((31 : Int32) * (((31 : Int32) * ((31 : Int32) + jj0)) + jj1)) + jj2))]))
 refine w_goto X21 hx (d26_100 hby) (pc' := 157) (by decide) (by decide) ?_
 exact w_done X21 hlk (v := some (.int (((31 : Int32) * (((31 : Int32) * ((31 : Int32) + jj0)) + jj1)) + jj2))) e21 (fun h => by rw [hret] at h; cases h) (fun fs hr => retI X21 hx hret (d26_157 hby) hr) (by decide) (by decide) (⟨rfl, N22, rfl⟩)
theorem ef_m9_31 (m : MethodId) (a0 : Addr)  : entryFrame m #[(.ref a0)] 1 = mkF m 0 #[.val (.ref a0)] [] := by first | (simp [entryFrame, mkF, argsToLocals, Value.category]; done) | rfl
def Q_m9_31 (Z : State) (a0 : Addr) (k_a0 : ClassId) (jj0 : Int32) (l_a0 : List Int32) (h0 : Heap) (n0 : Nat) (v : Option Value) (h : Heap) (L : List Loc) : Prop := v = some (.int (hB l_a0)) ∧ Fr n0 L ∧ h = h0
theorem rm_m9_31 (l : Launch) (Z : State) (aZ : Array Value) (hw : ∀ d ∈ tables_1, d.before aZ Z = true) (ws : List Jvm.Cond) (a0 : Addr) (k_a0 : ClassId) (jj0 : Int32) (l_a0 : List Int32) (h0 : Heap) (n0 : Nat) (Z0 : n0 ≤ h0.size) (V_a0 : Arv Z h0 a0 k_a0 .byte jj0 (mI l_a0) (.int (0 : Int32))) (hX_1 : TB jj0 l_a0) (E_a0 : Exa Z h0 a0 "[B") :
    MetN l Z yn_9 jdk_65_method_153_code 1 (some .int) ws ({ frames := 2, cells := 0, slots := 0, locals := 33 } : Room) #[(.ref a0)] h0 (Q_m9_31 Z a0 k_a0 jj0 l_a0 h0 n0) := by
 refine MetN.of (plainFor_of_name pn_8) ?_
 intro p e s m below meth c s₁ hret hx hby hml hown hnm hlk hZ X0 e0
 have N0 := Fr.nil n0
 rw [ef_m9_31 m a0]
 rcases hX_1 with ⟨rfl, rfl⟩ | ⟨x1, rfl, rfl⟩ | ⟨x1, x2, rfl, rfl⟩ | ⟨x1, x2, x3, rfl, rfl⟩
 · have V20 : Arv Z h0 a0 k_a0 .byte (0 : Int32) [] (.int (0 : Int32)) := V_a0
   refine w_aloadN X0 hx (d9_0 hby) rfl rfl (pc' := 1) rfl ?_
   refine w_ifnonnullY X0 hx (d9_1 hby) (pc' := 6) (by decide) (by decide) ?_
   refine w_aloadN X0 hx (d9_6 hby) rfl rfl (pc' := 7) rfl ?_
   refine w_alen X0 hx hZ e0 V20 (d9_7 hby) (pc' := 8) rfl ?_
   refine w_lswHit X0 hx (d9_8 hby) (by decide) (a := 0) (o := 28) (by decide) (pc' := 36) (by decide) (by decide) ?_
   refine w_iconst X0 hx (d9_36 hby) (v := (1 : Int32)) rfl (pc' := 37) rfl ?_
   refine w_goto X0 hx (d9_37 hby) (pc' := 59) (by decide) (by decide) ?_
   exact w_done X0 hlk (v := some (.int (1 : Int32))) e0 (fun h => by rw [hret] at h; cases h) (fun fs hr => retI X0 hx hret (d9_59 hby) hr) (by decide) (by decide) (⟨(congrArg (fun z => some (Value.int z)) (show (1 : Int32) = (hB []) from rfl)), N0, rfl⟩)
 · have V21 : Arv Z h0 a0 k_a0 .byte (1 : Int32) [(.int x1)] (.int (0 : Int32)) := V_a0
   refine w_aloadN X0 hx (d9_0 hby) rfl rfl (pc' := 1) rfl ?_
   refine w_ifnonnullY X0 hx (d9_1 hby) (pc' := 6) (by decide) (by decide) ?_
   refine w_aloadN X0 hx (d9_6 hby) rfl rfl (pc' := 7) rfl ?_
   refine w_alen X0 hx hZ e0 V21 (d9_7 hby) (pc' := 8) rfl ?_
   refine w_lswHit X0 hx (d9_8 hby) (by decide) (a := 1) (o := 32) (by decide) (pc' := 40) (by decide) (by decide) ?_
   refine w_bipush X0 hx (d9_40 hby) (v := (31 : Int32)) rfl (pc' := 42) rfl ?_
   refine w_aloadN X0 hx (d9_42 hby) rfl rfl (pc' := 43) rfl ?_
   refine w_iconst X0 hx (d9_43 hby) (v := (0 : Int32)) rfl (pc' := 44) rfl ?_
   obtain ⟨clu22, Aru22, qu22, Su22, Nu22, Hu22, Gu22⟩ := id V21
   have hinu22 := inb_of (j := (0 : Int32)) Su22 ⟨by decide, by decide⟩
   refine w_baload X0 hx hZ e0 Aru22 hinu22 (Hu22.at hinu22 rfl) (d9_44 hby) (pc' := 45) rfl ?_
   refine w_iadd X0 hx (d9_45 hby) (pc' := 46) rfl ?_
   refine w_goto X0 hx (d9_46 hby) (pc' := 59) (by decide) (by decide) ?_
   exact w_done X0 hlk (v := some (.int ((31 : Int32) + x1))) e0 (fun h => by rw [hret] at h; cases h) (fun fs hr => retI X0 hx hret (d9_59 hby) hr) (by decide) (by decide) (⟨(congrArg (fun z => some (Value.int z)) (show ((31 : Int32) + x1) = (hB [x1]) from rfl)), N0, rfl⟩)
 · have V23 : Arv Z h0 a0 k_a0 .byte (2 : Int32) [(.int x1), (.int x2)] (.int (0 : Int32)) := V_a0
   refine w_aloadN X0 hx (d9_0 hby) rfl rfl (pc' := 1) rfl ?_
   refine w_ifnonnullY X0 hx (d9_1 hby) (pc' := 6) (by decide) (by decide) ?_
   refine w_aloadN X0 hx (d9_6 hby) rfl rfl (pc' := 7) rfl ?_
   refine w_alen X0 hx hZ e0 V23 (d9_7 hby) (pc' := 8) rfl ?_
   refine w_lswMiss X0 hx (d9_8 hby) (by decide) (by decide) (pc' := 49) (by decide) (by decide) ?_
   refine w_aloadN X0 hx (d9_49 hby) rfl rfl (pc' := 50) rfl ?_
   refine w_iconst X0 hx (d9_50 hby) (v := (0 : Int32)) rfl (pc' := 51) rfl ?_
   refine w_aloadN X0 hx (d9_51 hby) rfl rfl (pc' := 52) rfl ?_
   refine w_alen X0 hx hZ e0 V23 (d9_52 hby) (pc' := 53) rfl ?_
   refine w_iconst X0 hx (d9_53 hby) (v := (1 : Int32)) rfl (pc' := 54) rfl ?_
   refine w_bipush X0 hx (d9_54 hby) (v := (8 : Int32)) rfl (pc' := 56) rfl ?_
   refine w_static X0 hx (y := yn_26) hown (mvT hZ (wd_172 hw)) (mvT hZ (wd_142 hw)) (mvT hZ (wd_99 hw)) (mvT hZ (wd_143 hw)) (by decide) (backOf (W := 0) (rm_m26_32 l Z aZ hw [] a0 k_a0 x1 x2 h0 n0 Z0 E_a0 V23) hZ (wd_143 hw) (wd_99 hw) (by decide) (by decide)) (by rw [hml]; rfl) [(.ref a0), (.int (0 : Int32)), (.int (2 : Int32)), (.int (1 : Int32)), (.int (8 : Int32))] (lenOf pd_14 rfl) rfl (Nat.le_of_eq rfl) (d9_56 hby) (fun _ _ => ⟨rfl, e0, (by decide : 0 + 0 ≤ _), (by decide : 0 + 0 ≤ _)⟩) (pc' := 59) rfl ?_
   rintro _ _ ⟨T24, L24, k24, n24⟩ X24 ⟨Lc24, hQ24, l24, y24, z24⟩
   dsimp only [Pt.U, Pt.locs, Pt.cells, Pt.slots] at X24 l24 y24 z24 hQ24 ⊢
   subst l24 y24 z24
   obtain ⟨rfl, N24q, e24⟩ := hQ24
   have N25 := Fr.app N0 N24q
   show Runs _ _ _ _ (T24.setTop (mkF m 59 #[.val (.ref a0)] [(.int (((31 : Int32) * ((31 : Int32) + x1)) + x2))]))
   exact w_done X24 hlk (v := some (.int (((31 : Int32) * ((31 : Int32) + x1)) + x2))) e24 (fun h => by rw [hret] at h; cases h) (fun fs hr => retI X24 hx hret (d9_59 hby) hr) (by decide) (by decide) (⟨(congrArg (fun z => some (Value.int z)) (show (((31 : Int32) * ((31 : Int32) + x1)) + x2) = (hB [x1, x2]) from rfl)), N25, rfl⟩)
 · have V26 : Arv Z h0 a0 k_a0 .byte (3 : Int32) [(.int x1), (.int x2), (.int x3)] (.int (0 : Int32)) := V_a0
   refine w_aloadN X0 hx (d9_0 hby) rfl rfl (pc' := 1) rfl ?_
   refine w_ifnonnullY X0 hx (d9_1 hby) (pc' := 6) (by decide) (by decide) ?_
   refine w_aloadN X0 hx (d9_6 hby) rfl rfl (pc' := 7) rfl ?_
   refine w_alen X0 hx hZ e0 V26 (d9_7 hby) (pc' := 8) rfl ?_
   refine w_lswMiss X0 hx (d9_8 hby) (by decide) (by decide) (pc' := 49) (by decide) (by decide) ?_
   refine w_aloadN X0 hx (d9_49 hby) rfl rfl (pc' := 50) rfl ?_
   refine w_iconst X0 hx (d9_50 hby) (v := (0 : Int32)) rfl (pc' := 51) rfl ?_
   refine w_aloadN X0 hx (d9_51 hby) rfl rfl (pc' := 52) rfl ?_
   refine w_alen X0 hx hZ e0 V26 (d9_52 hby) (pc' := 53) rfl ?_
   refine w_iconst X0 hx (d9_53 hby) (v := (1 : Int32)) rfl (pc' := 54) rfl ?_
   refine w_bipush X0 hx (d9_54 hby) (v := (8 : Int32)) rfl (pc' := 56) rfl ?_
   refine w_static X0 hx (y := yn_26) hown (mvT hZ (wd_172 hw)) (mvT hZ (wd_142 hw)) (mvT hZ (wd_99 hw)) (mvT hZ (wd_143 hw)) (by decide) (backOf (W := 0) (rm_m26_34 l Z aZ hw [] a0 k_a0 x1 x2 x3 h0 n0 Z0 E_a0 V26) hZ (wd_143 hw) (wd_99 hw) (by decide) (by decide)) (by rw [hml]; rfl) [(.ref a0), (.int (0 : Int32)), (.int (3 : Int32)), (.int (1 : Int32)), (.int (8 : Int32))] (lenOf pd_14 rfl) rfl (Nat.le_of_eq rfl) (d9_56 hby) (fun _ _ => ⟨rfl, e0, (by decide : 0 + 0 ≤ _), (by decide : 0 + 0 ≤ _)⟩) (pc' := 59) rfl ?_
   rintro _ _ ⟨T27, L27, k27, n27⟩ X27 ⟨Lc27, hQ27, l27, y27, z27⟩
   dsimp only [Pt.U, Pt.locs, Pt.cells, Pt.slots] at X27 l27 y27 z27 hQ27 ⊢
   subst l27 y27 z27
   obtain ⟨rfl, N27q, e27⟩ := hQ27
   have N28 := Fr.app N0 N27q
   show Runs _ _ _ _ (T27.setTop (mkF m 59 #[.val (.ref a0)] [(.int (((31 : Int32) * (((31 : Int32) * ((31 : Int32) + x1)) + x2)) + x3))]))
   exact w_done X27 hlk (v := some (.int (((31 : Int32) * (((31 : Int32) * ((31 : Int32) + x1)) + x2)) + x3))) e27 (fun h => by rw [hret] at h; cases h) (fun fs hr => retI X27 hx hret (d9_59 hby) hr) (by decide) (by decide) (⟨(congrArg (fun z => some (Value.int z)) (show (((31 : Int32) * (((31 : Int32) * ((31 : Int32) + x1)) + x2)) + x3) = (hB [x1, x2, x3]) from rfl)), N28, rfl⟩)
theorem ef_m13_39 (m : MethodId) (p0 : Int32)  : entryFrame m #[(.int p0)] 1 = mkF m 0 #[.val (.int p0)] [] := by first | (simp [entryFrame, mkF, argsToLocals, Value.category]; done) | rfl
def Q_m13_39 (Z : State) (p0 : Int32) (h0 : Heap) (n0 : Nat) (v : Option Value) (h : Heap) (L : List Loc) : Prop := v = some (.int p0) ∧ Fr n0 L ∧ h = h0
theorem rm_m13_39 (l : Launch) (Z : State) (aZ : Array Value) (hw : ∀ d ∈ tables_1, d.before aZ Z = true) (ws : List Jvm.Cond) (p0 : Int32) (h0 : Heap) (n0 : Nat) (Z0 : n0 ≤ h0.size) :
    MetN l Z yn_13 jdk_33_method_33_code 1 (some .int) ws ({ frames := 0, cells := 0, slots := 0, locals := 0 } : Room) #[(.int p0)] h0 (Q_m13_39 Z p0 h0 n0) := by
 refine MetN.of (plainFor_of_name pn_6) ?_
 intro p e s m below meth c s₁ hret hx hby hml hown hnm hlk hZ X0 e0
 have N0 := Fr.nil n0
 rw [ef_m13_39 m p0]
 refine w_iloadN X0 hx (d13_0 hby) rfl (pc' := 1) rfl ?_
 exact w_done X0 hlk (v := some (.int p0)) e0 (fun h => by rw [hret] at h; cases h) (fun fs hr => retI X0 hx hret (d13_1 hby) hr) (by decide) (by decide) (⟨rfl, N0, rfl⟩)
theorem ef_m12_38 (m : MethodId) (a0 : Addr)  : entryFrame m #[(.ref a0)] 1 = mkF m 0 #[.val (.ref a0)] [] := by first | (simp [entryFrame, mkF, argsToLocals, Value.category]; done) | rfl
def Q_m12_38 (Z : State) (a0 : Addr) (jj0 : Int32) (h0 : Heap) (n0 : Nat) (v : Option Value) (h : Heap) (L : List Loc) : Prop := v = some (.int jj0) ∧ Fr n0 L ∧ h = h0
theorem rm_m12_38 (l : Launch) (Z : State) (aZ : Array Value) (hw : ∀ d ∈ tables_1, d.before aZ Z = true) (ws : List Jvm.Cond) (a0 : Addr) (jj0 : Int32) (h0 : Heap) (n0 : Nat) (Z0 : n0 ≤ h0.size) (zz1 : Fld Z h0 a0 kc2 "value" "I" (.int jj0)) :
    MetN l Z yn_12 jdk_33_method_32_code 1 (some .int) ws ({ frames := 1, cells := 0, slots := 0, locals := 12 } : Room) #[(.ref a0)] h0 (Q_m12_38 Z a0 jj0 h0 n0) := by
 refine MetN.of (plainFor_of_name pn_6) ?_
 intro p e s m below meth c s₁ hret hx hby hml hown hnm hlk hZ X0 e0
 have N0 := Fr.nil n0
 rw [ef_m12_38 m a0]
 refine w_aloadN X0 hx (d12_0 hby) rfl rfl (pc' := 1) rfl ?_
 refine w_getF X0 hx "" hZ hown (Or.inl (wd_79 hw)) Via.refl e0 zz1 (d12_1 hby) (pc' := 4) rfl ?_
 intro T20 X20 e20
 refine w_static X20 hx (y := yn_13) hown (mvT hZ (wd_81 hw)) (mvT hZ (wd_82 hw)) (mvT hZ (wd_57 hw)) (mvT hZ (wd_83 hw)) (by decide) (backOf (W := 0) (rm_m13_39 l Z aZ hw [] jj0 h0 n0 Z0 ) hZ (wd_83 hw) (wd_57 hw) (by decide) (by decide)) (by rw [hml]; rfl) [(.int jj0)] (lenOf pd_16 rfl) rfl (Nat.le_of_eq rfl) (d12_4 hby) (fun _ _ => ⟨rfl, e20, (by decide : 0 + 0 ≤ _), (by decide : 0 + 0 ≤ _)⟩) (pc' := 7) rfl ?_
 rintro _ _ ⟨T21, L21, k21, n21⟩ X21 ⟨Lc21, hQ21, l21, y21, z21⟩
 dsimp only [Pt.U, Pt.locs, Pt.cells, Pt.slots] at X21 l21 y21 z21 hQ21 ⊢
 subst l21 y21 z21
 obtain ⟨rfl, N21q, e21⟩ := hQ21
 have N22 := Fr.app N0 N21q
 show Runs _ _ _ _ (T21.setTop (mkF m 7 #[.val (.ref a0)] [(.int jj0)]))
 exact w_done X21 hlk (v := some (.int jj0)) e21 (fun h => by rw [hret] at h; cases h) (fun fs hr => retI X21 hx hret (d12_7 hby) hr) (by decide) (by decide) (⟨rfl, N22, rfl⟩)
theorem ef_m11_37 (m : MethodId) (a0 : Addr)  : entryFrame m #[(.ref a0)] 6 = mkF m 0 #[.val (.ref a0), .unset, .unset, .unset, .unset, .unset] [] := by first | (simp [entryFrame, mkF, argsToLocals, Value.category]; done) | rfl
def Q_m11_37 (Z : State) (a0 : Addr) (k_a0 : ClassId) (jj0 : Addr) (jj1 : Addr) (jj2 : Int32) (jj3 : Int32) (h0 : Heap) (n0 : Nat) (v : Option Value) (h : Heap) (L : List Loc) : Prop := v = some (.int (((31 : Int32) * (((31 : Int32) * (((31 : Int32) * ((31 : Int32) + jj2)) + (0 : Int32))) + (0 : Int32))) + jj3)) ∧ Fr n0 L ∧ h = h0
theorem rm_m11_37 (l : Launch) (Z : State) (aZ : Array Value) (hw : ∀ d ∈ tables_1, d.before aZ Z = true) (ws : List Jvm.Cond) (a0 : Addr) (k_a0 : ClassId) (jj0 : Addr) (jj1 : Addr) (jj2 : Int32) (jj3 : Int32) (h0 : Heap) (n0 : Nat) (Z0 : n0 ≤ h0.size) (V_a0 : Arv Z h0 a0 k_a0 (.object kc3) (4 : Int32) [(.ref jj0), .null, .null, (.ref jj1)] .null) (zz4 : Exa Z h0 jj0 kc2) (zz5 : Fld Z h0 jj0 kc2 "value" "I" (.int jj2)) (zz6 : Exa Z h0 jj1 kc2) (zz7 : Fld Z h0 jj1 kc2 "value" "I" (.int jj3)) :
    MetN l Z yn_11 jdk_65_method_157_code 6 (some .int) ws ({ frames := 2, cells := 0, slots := 0, locals := 25 } : Room) #[(.ref a0)] h0 (Q_m11_37 Z a0 k_a0 jj0 jj1 jj2 jj3 h0 n0) := by
 refine MetN.of (plainFor_of_name pn_8) ?_
 intro p e s m below meth c s₁ hret hx hby hml hown hnm hlk hZ X0 e0
 have N0 := Fr.nil n0
 rw [ef_m11_37 m a0]
 refine w_aloadN X0 hx (d11_0 hby) rfl rfl (pc' := 1) rfl ?_
 refine w_ifnonnullY X0 hx (d11_1 hby) (pc' := 6) (by decide) (by decide) ?_
 refine w_iconst X0 hx (d11_6 hby) (v := (1 : Int32)) rfl (pc' := 7) rfl ?_
 refine w_istoreN X0 hx (d11_7 hby) (L' := #[.val (.ref a0), .val (.int (1 : Int32)), .unset, .unset, .unset, .unset]) rfl (pc' := 8) rfl ?_
 refine w_aloadN X0 hx (d11_8 hby) rfl rfl (pc' := 9) rfl ?_
 refine w_astoreN X0 hx (d11_9 hby) rfl (L' := #[.val (.ref a0), .val (.int (1 : Int32)), .val (.ref a0), .unset, .unset, .unset]) rfl (pc' := 10) rfl ?_
 refine w_aloadN X0 hx (d11_10 hby) rfl rfl (pc' := 11) rfl ?_
 refine w_alen X0 hx hZ e0 V_a0 (d11_11 hby) (pc' := 12) rfl ?_
 refine w_istoreN X0 hx (d11_12 hby) (L' := #[.val (.ref a0), .val (.int (1 : Int32)), .val (.ref a0), .val (.int (4 : Int32)), .unset, .unset]) rfl (pc' := 13) rfl ?_
 refine w_iconst X0 hx (d11_13 hby) (v := (0 : Int32)) rfl (pc' := 14) rfl ?_
 refine w_istore X0 hx (d11_14 hby) (L' := #[.val (.ref a0), .val (.int (1 : Int32)), .val (.ref a0), .val (.int (4 : Int32)), .val (.int (0 : Int32)), .unset]) rfl (pc' := 16) rfl ?_
 refine w_iload X0 hx (d11_16 hby) rfl (pc' := 18) rfl ?_
 refine w_iloadN X0 hx (d11_18 hby) rfl (pc' := 19) rfl ?_
 refine w_icN X0 hx (d11_19 hby) (tlt (by decide : (0 : Int32) < (4 : Int32))).2.1 (pc' := 22) rfl ?_
 refine w_aloadN X0 hx (d11_22 hby) rfl rfl (pc' := 23) rfl ?_
 refine w_iload X0 hx (d11_23 hby) rfl (pc' := 25) rfl ?_
 obtain ⟨clu20, Aru20, qu20, Su20, Nu20, Hu20, Gu20⟩ := id V_a0
 have hinu20 := inb_of (j := (0 : Int32)) Su20 ⟨by decide, by decide⟩
 refine w_aaload X0 hx hZ e0 Aru20 rfl hinu20 (Hu20.at hinu20 rfl) (d11_25 hby) (pc' := 26) rfl ?_
 refine w_astore X0 hx (d11_26 hby) rfl (L' := #[.val (.ref a0), .val (.int (1 : Int32)), .val (.ref a0), .val (.int (4 : Int32)), .val (.int (0 : Int32)), .val (.ref jj0)]) rfl (pc' := 28) rfl ?_
 refine w_bipush X0 hx (d11_28 hby) (v := (31 : Int32)) rfl (pc' := 30) rfl ?_
 refine w_iloadN X0 hx (d11_30 hby) rfl (pc' := 31) rfl ?_
 refine w_imul X0 hx (d11_31 hby) (pc' := 32) rfl ?_
 rw [show ((31 : Int32) * (1 : Int32)) = (31 : Int32) from by decide]
 refine w_aload X0 hx (d11_32 hby) rfl rfl (pc' := 34) rfl ?_
 refine w_ifnonnullY X0 hx (d11_34 hby) (pc' := 41) (by decide) (by decide) ?_
 refine w_aload X0 hx (d11_41 hby) rfl rfl (pc' := 43) rfl ?_
 obtain ⟨cq21, kq21, q21a, q21b, q21c⟩ := isOf hZ e0 zz4
 refine w_virtual X0 hx (y := (⟨kc3, "hashCode", "()I"⟩ : MethodName)) (z := yn_12) hown (mvT hZ (wd_73 hw)) (mvT hZ (wd_74 hw)) (own_nfS (args := #[]) (mvT hZ (wd_43 hw)) rfl) (mvT hZ (wd_76 hw)) (mvT hZ (wd_77 hw)) (by decide) (backOf (W := 1) (rm_m12_38 l Z aZ hw [] jj0 jj2 h0 n0 Z0 zz5) hZ (wd_78 hw) (wd_57 hw) (by decide) (by decide)) q21a q21c (by rw [hml]; rfl) [] (lenOf pd_17 rfl) rfl (Nat.le_of_eq rfl) (d11_43 hby) (fun _ _ => ⟨rfl, e0, (by decide : 0 + 0 ≤ _), (by decide : 0 + 0 ≤ _)⟩) (pc' := 46) rfl ?_
 rintro _ _ ⟨T21, L21, k21, n21⟩ X21 ⟨Lc21, hQ21, l21, y21, z21⟩
 dsimp only [Pt.U, Pt.locs, Pt.cells, Pt.slots] at X21 l21 y21 z21 hQ21 ⊢
 subst l21 y21 z21
 obtain ⟨rfl, N21q, e21⟩ := hQ21
 have N22 := Fr.app N0 N21q
 show Runs _ _ _ _ (T21.setTop (mkF m 46 #[.val (.ref a0), .val (.int (1 : Int32)), .val (.ref a0), .val (.int (4 : Int32)), .val (.int (0 : Int32)), .val (.ref jj0)] [(.int jj2), (.int (31 : Int32))]))
 refine w_iadd X21 hx (d11_46 hby) (pc' := 47) rfl ?_
 refine w_istoreN X21 hx (d11_47 hby) (L' := #[.val (.ref a0), .val (.int ((31 : Int32) + jj2)), .val (.ref a0), .val (.int (4 : Int32)), .val (.int (0 : Int32)), .val (.ref jj0)]) rfl (pc' := 48) rfl ?_
 refine w_iinc X21 hx (d11_48 hby) (v := (1 : Int32)) rfl rfl (L' := #[.val (.ref a0), .val (.int ((31 : Int32) + jj2)), .val (.ref a0), .val (.int (4 : Int32)), .val (.int ((0 : Int32) + (1 : Int32))), .val (.ref jj0)]) rfl (pc' := 51) rfl ?_
 rw [show ((0 : Int32) + (1 : Int32)) = (1 : Int32) from by decide]
 refine w_goto X21 hx (d11_51 hby) (pc' := 16) (by decide) (by decide) ?_
 refine w_iload X21 hx (d11_16 hby) rfl (pc' := 18) rfl ?_
 refine w_iloadN X21 hx (d11_18 hby) rfl (pc' := 19) rfl ?_
 refine w_icN X21 hx (d11_19 hby) (tlt (by decide : (1 : Int32) < (4 : Int32))).2.1 (pc' := 22) rfl ?_
 refine w_aloadN X21 hx (d11_22 hby) rfl rfl (pc' := 23) rfl ?_
 refine w_iload X21 hx (d11_23 hby) rfl (pc' := 25) rfl ?_
 obtain ⟨clu23, Aru23, qu23, Su23, Nu23, Hu23, Gu23⟩ := id V_a0
 have hinu23 := inb_of (j := (1 : Int32)) Su23 ⟨by decide, by decide⟩
 refine w_aaload X21 hx hZ e21 Aru23 rfl hinu23 (Hu23.at hinu23 rfl) (d11_25 hby) (pc' := 26) rfl ?_
 refine w_astore X21 hx (d11_26 hby) rfl (L' := #[.val (.ref a0), .val (.int ((31 : Int32) + jj2)), .val (.ref a0), .val (.int (4 : Int32)), .val (.int (1 : Int32)), .val .null]) rfl (pc' := 28) rfl ?_
 refine w_bipush X21 hx (d11_28 hby) (v := (31 : Int32)) rfl (pc' := 30) rfl ?_
 refine w_iloadN X21 hx (d11_30 hby) rfl (pc' := 31) rfl ?_
 refine w_imul X21 hx (d11_31 hby) (pc' := 32) rfl ?_
 refine w_aload X21 hx (d11_32 hby) rfl rfl (pc' := 34) rfl ?_
 refine w_ifnonnullN X21 hx (d11_34 hby) (pc' := 37) rfl ?_
 refine w_iconst X21 hx (d11_37 hby) (v := (0 : Int32)) rfl (pc' := 38) rfl ?_
 refine w_goto X21 hx (d11_38 hby) (pc' := 46) (by decide) (by decide) ?_
 refine w_iadd X21 hx (d11_46 hby) (pc' := 47) rfl ?_
 refine w_istoreN X21 hx (d11_47 hby) (L' := #[.val (.ref a0), .val (.int (((31 : Int32) * ((31 : Int32) + jj2)) + (0 : Int32))), .val (.ref a0), .val (.int (4 : Int32)), .val (.int (1 : Int32)), .val .null]) rfl (pc' := 48) rfl ?_
 refine w_iinc X21 hx (d11_48 hby) (v := (1 : Int32)) rfl rfl (L' := #[.val (.ref a0), .val (.int (((31 : Int32) * ((31 : Int32) + jj2)) + (0 : Int32))), .val (.ref a0), .val (.int (4 : Int32)), .val (.int ((1 : Int32) + (1 : Int32))), .val .null]) rfl (pc' := 51) rfl ?_
 rw [show ((1 : Int32) + (1 : Int32)) = (2 : Int32) from by decide]
 refine w_goto X21 hx (d11_51 hby) (pc' := 16) (by decide) (by decide) ?_
 refine w_iload X21 hx (d11_16 hby) rfl (pc' := 18) rfl ?_
 refine w_iloadN X21 hx (d11_18 hby) rfl (pc' := 19) rfl ?_
 refine w_icN X21 hx (d11_19 hby) (tlt (by decide : (2 : Int32) < (4 : Int32))).2.1 (pc' := 22) rfl ?_
 refine w_aloadN X21 hx (d11_22 hby) rfl rfl (pc' := 23) rfl ?_
 refine w_iload X21 hx (d11_23 hby) rfl (pc' := 25) rfl ?_
 obtain ⟨clu24, Aru24, qu24, Su24, Nu24, Hu24, Gu24⟩ := id V_a0
 have hinu24 := inb_of (j := (2 : Int32)) Su24 ⟨by decide, by decide⟩
 refine w_aaload X21 hx hZ e21 Aru24 rfl hinu24 (Hu24.at hinu24 rfl) (d11_25 hby) (pc' := 26) rfl ?_
 refine w_astore X21 hx (d11_26 hby) rfl (L' := #[.val (.ref a0), .val (.int (((31 : Int32) * ((31 : Int32) + jj2)) + (0 : Int32))), .val (.ref a0), .val (.int (4 : Int32)), .val (.int (2 : Int32)), .val .null]) rfl (pc' := 28) rfl ?_
 refine w_bipush X21 hx (d11_28 hby) (v := (31 : Int32)) rfl (pc' := 30) rfl ?_
 refine w_iloadN X21 hx (d11_30 hby) rfl (pc' := 31) rfl ?_
 refine w_imul X21 hx (d11_31 hby) (pc' := 32) rfl ?_
 refine w_aload X21 hx (d11_32 hby) rfl rfl (pc' := 34) rfl ?_
 refine w_ifnonnullN X21 hx (d11_34 hby) (pc' := 37) rfl ?_
 refine w_iconst X21 hx (d11_37 hby) (v := (0 : Int32)) rfl (pc' := 38) rfl ?_
 refine w_goto X21 hx (d11_38 hby) (pc' := 46) (by decide) (by decide) ?_
 refine w_iadd X21 hx (d11_46 hby) (pc' := 47) rfl ?_
 refine w_istoreN X21 hx (d11_47 hby) (L' := #[.val (.ref a0), .val (.int (((31 : Int32) * (((31 : Int32) * ((31 : Int32) + jj2)) + (0 : Int32))) + (0 : Int32))), .val (.ref a0), .val (.int (4 : Int32)), .val (.int (2 : Int32)), .val .null]) rfl (pc' := 48) rfl ?_
 refine w_iinc X21 hx (d11_48 hby) (v := (1 : Int32)) rfl rfl (L' := #[.val (.ref a0), .val (.int (((31 : Int32) * (((31 : Int32) * ((31 : Int32) + jj2)) + (0 : Int32))) + (0 : Int32))), .val (.ref a0), .val (.int (4 : Int32)), .val (.int ((2 : Int32) + (1 : Int32))), .val .null]) rfl (pc' := 51) rfl ?_
 rw [show ((2 : Int32) + (1 : Int32)) = (3 : Int32) from by decide]
 refine w_goto X21 hx (d11_51 hby) (pc' := 16) (by decide) (by decide) ?_
 refine w_iload X21 hx (d11_16 hby) rfl (pc' := 18) rfl ?_
 refine w_iloadN X21 hx (d11_18 hby) rfl (pc' := 19) rfl ?_
 refine w_icN X21 hx (d11_19 hby) (tlt (by decide : (3 : Int32) < (4 : Int32))).2.1 (pc' := 22) rfl ?_
 refine w_aloadN X21 hx (d11_22 hby) rfl rfl (pc' := 23) rfl ?_
 refine w_iload X21 hx (d11_23 hby) rfl (pc' := 25) rfl ?_
 obtain ⟨clu25, Aru25, qu25, Su25, Nu25, Hu25, Gu25⟩ := id V_a0
 have hinu25 := inb_of (j := (3 : Int32)) Su25 ⟨by decide, by decide⟩
 refine w_aaload X21 hx hZ e21 Aru25 rfl hinu25 (Hu25.at hinu25 rfl) (d11_25 hby) (pc' := 26) rfl ?_
 refine w_astore X21 hx (d11_26 hby) rfl (L' := #[.val (.ref a0), .val (.int (((31 : Int32) * (((31 : Int32) * ((31 : Int32) + jj2)) + (0 : Int32))) + (0 : Int32))), .val (.ref a0), .val (.int (4 : Int32)), .val (.int (3 : Int32)), .val (.ref jj1)]) rfl (pc' := 28) rfl ?_
 refine w_bipush X21 hx (d11_28 hby) (v := (31 : Int32)) rfl (pc' := 30) rfl ?_
 refine w_iloadN X21 hx (d11_30 hby) rfl (pc' := 31) rfl ?_
 refine w_imul X21 hx (d11_31 hby) (pc' := 32) rfl ?_
 refine w_aload X21 hx (d11_32 hby) rfl rfl (pc' := 34) rfl ?_
 refine w_ifnonnullY X21 hx (d11_34 hby) (pc' := 41) (by decide) (by decide) ?_
 refine w_aload X21 hx (d11_41 hby) rfl rfl (pc' := 43) rfl ?_
 obtain ⟨cq26, kq26, q26a, q26b, q26c⟩ := isOf hZ e21 zz6
 refine w_virtual X21 hx (y := (⟨kc3, "hashCode", "()I"⟩ : MethodName)) (z := yn_12) hown (mvT hZ (wd_73 hw)) (mvT hZ (wd_74 hw)) (own_nfS (args := #[]) (mvT hZ (wd_43 hw)) rfl) (mvT hZ (wd_76 hw)) (mvT hZ (wd_77 hw)) (by decide) (backOf (W := 1) (rm_m12_38 l Z aZ hw [] jj1 jj3 h0 n0 Z0 zz7) hZ (wd_78 hw) (wd_57 hw) (by decide) (by decide)) q26a q26c (by rw [hml]; rfl) [] (lenOf pd_17 rfl) rfl (Nat.le_of_eq rfl) (d11_43 hby) (fun _ _ => ⟨rfl, e21, (by decide : 0 + 0 ≤ _), (by decide : 0 + 0 ≤ _)⟩) (pc' := 46) rfl ?_
 rintro _ _ ⟨T26, L26, k26, n26⟩ X26 ⟨Lc26, hQ26, l26, y26, z26⟩
 dsimp only [Pt.U, Pt.locs, Pt.cells, Pt.slots] at X26 l26 y26 z26 hQ26 ⊢
 subst l26 y26 z26
 obtain ⟨rfl, N26q, e26⟩ := hQ26
 have N27 := Fr.app N22 N26q
 show Runs _ _ _ _ (T26.setTop (mkF m 46 #[.val (.ref a0), .val (.int (((31 : Int32) * (((31 : Int32) * ((31 : Int32) + jj2)) + (0 : Int32))) + (0 : Int32))), .val (.ref a0), .val (.int (4 : Int32)), .val (.int (3 : Int32)), .val (.ref jj1)] [(.int jj3), (.int ((31 : Int32) * (((31 : Int32) * (((31 : Int32) * ((31 : Int32) + jj2)) + (0 : Int32))) + (0 : Int32))))]))
 refine w_iadd X26 hx (d11_46 hby) (pc' := 47) rfl ?_
 refine w_istoreN X26 hx (d11_47 hby) (L' := #[.val (.ref a0), .val (.int (((31 : Int32) * (((31 : Int32) * (((31 : Int32) * ((31 : Int32) + jj2)) + (0 : Int32))) + (0 : Int32))) + jj3)), .val (.ref a0), .val (.int (4 : Int32)), .val (.int (3 : Int32)), .val (.ref jj1)]) rfl (pc' := 48) rfl ?_
 refine w_iinc X26 hx (d11_48 hby) (v := (1 : Int32)) rfl rfl (L' := #[.val (.ref a0), .val (.int (((31 : Int32) * (((31 : Int32) * (((31 : Int32) * ((31 : Int32) + jj2)) + (0 : Int32))) + (0 : Int32))) + jj3)), .val (.ref a0), .val (.int (4 : Int32)), .val (.int ((3 : Int32) + (1 : Int32))), .val (.ref jj1)]) rfl (pc' := 51) rfl ?_
 rw [show ((3 : Int32) + (1 : Int32)) = (4 : Int32) from by decide]
 refine w_goto X26 hx (d11_51 hby) (pc' := 16) (by decide) (by decide) ?_
 refine w_iload X26 hx (d11_16 hby) rfl (pc' := 18) rfl ?_
 refine w_iloadN X26 hx (d11_18 hby) rfl (pc' := 19) rfl ?_
 refine w_icY X26 hx (d11_19 hby) (flt (by decide : ¬ ((4 : Int32) < (4 : Int32)))).2.1 (pc' := 54) (by decide) (by decide) ?_
 refine w_iloadN X26 hx (d11_54 hby) rfl (pc' := 55) rfl ?_
 exact w_done X26 hlk (v := some (.int (((31 : Int32) * (((31 : Int32) * (((31 : Int32) * ((31 : Int32) + jj2)) + (0 : Int32))) + (0 : Int32))) + jj3))) e26 (fun h => by rw [hret] at h; cases h) (fun fs hr => retI X26 hx hret (d11_55 hby) hr) (by decide) (by decide) (⟨rfl, N27, rfl⟩)
theorem ef_m10_36 (m : MethodId) (a0 : Addr)  : entryFrame m #[(.ref a0)] 1 = mkF m 0 #[.val (.ref a0)] [] := by first | (simp [entryFrame, mkF, argsToLocals, Value.category]; done) | rfl
def Q_m10_36 (Z : State) (a0 : Addr) (k_a0 : ClassId) (jj0 : Addr) (jj1 : Addr) (jj2 : Int32) (jj3 : Int32) (h0 : Heap) (n0 : Nat) (v : Option Value) (h : Heap) (L : List Loc) : Prop := v = some (.int (((31 : Int32) * (((31 : Int32) * (((31 : Int32) * ((31 : Int32) + jj2)) + (0 : Int32))) + (0 : Int32))) + jj3)) ∧ Fr n0 L ∧ h = h0
theorem rm_m10_36 (l : Launch) (Z : State) (aZ : Array Value) (hw : ∀ d ∈ tables_1, d.before aZ Z = true) (ws : List Jvm.Cond) (a0 : Addr) (k_a0 : ClassId) (jj0 : Addr) (jj1 : Addr) (jj2 : Int32) (jj3 : Int32) (h0 : Heap) (n0 : Nat) (Z0 : n0 ≤ h0.size) (V_a0 : Arv Z h0 a0 k_a0 (.object kc3) (4 : Int32) [(.ref jj0), .null, .null, (.ref jj1)] .null) (zz4 : Exa Z h0 jj0 kc2) (zz5 : Fld Z h0 jj0 kc2 "value" "I" (.int jj2)) (zz6 : Exa Z h0 jj1 kc2) (zz7 : Fld Z h0 jj1 kc2 "value" "I" (.int jj3)) :
    MetN l Z yn_10 jdk_31_method_5_code 1 (some .int) ws ({ frames := 3, cells := 0, slots := 0, locals := 42 } : Room) #[(.ref a0)] h0 (Q_m10_36 Z a0 k_a0 jj0 jj1 jj2 jj3 h0 n0) := by
 refine MetN.of (plainFor_of_name pn_3) ?_
 intro p e s m below meth c s₁ hret hx hby hml hown hnm hlk hZ X0 e0
 have N0 := Fr.nil n0
 rw [ef_m10_36 m a0]
 refine w_aloadN X0 hx (d10_0 hby) rfl rfl (pc' := 1) rfl ?_
 refine w_static X0 hx (y := yn_11) hown (mvT hZ (wd_70 hw)) (mvT hZ (wd_71 hw)) (mvT hZ (wd_65 hw)) (mvT hZ (wd_72 hw)) (by decide) (backOf (W := 0) (rm_m11_37 l Z aZ hw [] a0 k_a0 jj0 jj1 jj2 jj3 h0 n0 Z0 V_a0 zz4 zz5 zz6 zz7) hZ (wd_72 hw) (wd_65 hw) (by decide) (by decide)) (by rw [hml]; rfl) [(.ref a0)] (lenOf pd_18 rfl) rfl (Nat.le_of_eq rfl) (d10_1 hby) (fun _ _ => ⟨rfl, e0, (by decide : 0 + 0 ≤ _), (by decide : 0 + 0 ≤ _)⟩) (pc' := 4) rfl ?_
 rintro _ _ ⟨T20, L20, k20, n20⟩ X20 ⟨Lc20, hQ20, l20, y20, z20⟩
 dsimp only [Pt.U, Pt.locs, Pt.cells, Pt.slots] at X20 l20 y20 z20 hQ20 ⊢
 subst l20 y20 z20
 obtain ⟨rfl, N20q, e20⟩ := hQ20
 have N21 := Fr.app N0 N20q
 show Runs _ _ _ _ (T20.setTop (mkF m 4 #[.val (.ref a0)] [(.int (((31 : Int32) * (((31 : Int32) * (((31 : Int32) * ((31 : Int32) + jj2)) + (0 : Int32))) + (0 : Int32))) + jj3))]))
 exact w_done X20 hlk (v := some (.int (((31 : Int32) * (((31 : Int32) * (((31 : Int32) * ((31 : Int32) + jj2)) + (0 : Int32))) + (0 : Int32))) + jj3))) e20 (fun h => by rw [hret] at h; cases h) (fun fs hr => retI X20 hx hret (d10_4 hby) hr) (by decide) (by decide) (⟨rfl, N21, rfl⟩)
theorem ef_m7_27 (m : MethodId) (a0 : Addr)  : entryFrame m #[(.ref a0)] 1 = mkF m 0 #[.val (.ref a0)] [] := by first | (simp [entryFrame, mkF, argsToLocals, Value.category]; done) | rfl
def Q_m7_27 (Z : State) (a0 : Addr) (jj0 : Int32) (jj1 : Addr) (jj2 : Cell) (jj3 : Addr) (jj4 : ClassId) (jj5 : Int32) (jj6 : List Int32) (h0 : Heap) (n0 : Nat) (v : Option Value) (h : Heap) (L : List Loc) : Prop := v = some (.int (((31 : Int32) * (((31 : Int32) * (((31 : Int32) * ((31 : Int32) + jj0)) + (0 : Int32))) + (0 : Int32))) + (hB jj6))) ∧ Fr n0 L ∧ Keep h0 h []
theorem rm_m7_27 (l : Launch) (Z : State) (aZ : Array Value) (hw : ∀ d ∈ tables_1, d.before aZ Z = true) (ws : List Jvm.Cond) (a0 : Addr) (jj0 : Int32) (jj1 : Addr) (jj2 : Cell) (jj3 : Addr) (jj4 : ClassId) (jj5 : Int32) (jj6 : List Int32) (h0 : Heap) (n0 : Nat) (Z0 : n0 ≤ h0.size) (zz7 : Fld Z h0 a0 kc1 "status" "I" (.int jj0)) (zz8 : Sta Z Z.heap kc4 "high" "I" (.int (127 : Int32))) (O0 : Old Z n0 h0) (zz9 : Sta Z Z.heap kc4 "cache" "[Ljava/lang/Integer;" (.ref jj1)) (zz10 : Bxs Z jj1 jj2 kc2 "I" (256 : Int32) (fun j => .int (j - 128))) (zz11 : Fld Z h0 a0 kc1 "contentType" "Ljava/lang/String;" .null) (zz12 : Fld Z h0 a0 kc1 "location" "Ljava/lang/String;" .null) (zz13 : Fld Z h0 a0 kc1 "body" "[B" (.ref jj3)) (zz14 : Arv Z h0 jj3 jj4 .byte jj5 (mI jj6) (.int (0 : Int32))) (zz15 : Exa Z h0 jj3 "[B") (zz16 : TB jj5 jj6) :
    MetN l Z yn_7 prog_12_method_7_code 1 (some .int) ws ({ frames := 4, cells := 3, slots := 6, locals := 54 } : Room) #[(.ref a0)] h0 (Q_m7_27 Z a0 jj0 jj1 jj2 jj3 jj4 jj5 jj6 h0 n0) := by
 refine MetN.of (plainFor_of_name pn_4) ?_
 intro p e s m below meth c s₁ hret hx hby hml hown hnm hlk hZ X0 e0
 have N0 := Fr.nil n0
 rw [ef_m7_27 m a0]
 refine w_iconst X0 hx (d7_0 hby) (v := (4 : Int32)) rfl (pc' := 1) rfl ?_
 refine w_newR X0 hx 4 "[Ljava/lang/Object;" hZ hown (wd_53 hw) (wd_54 hw) e0 (d7_1 hby) (by decide) (by decide) (by decide) (by decide) (by decide) (by decide +kernel) (pc' := 4) rfl ?_
 intro T20 h20 k20 b20 X20 e20 E20 g20 A20 Q20 O20
 have ge21 : n0 ≤ b20 := Nat.le_trans Z0 (Nat.le_of_eq g20.symm)
 have sz22 : h0.size ≤ b20 := Nat.le_trans (Nat.le_refl _) (Nat.le_of_eq g20.symm)
 have K23 : Keep h0 h20 [] := (Keep.refl h0 []).ext E20
 have V24 : Arv Z h20 b20 k20 (.object kc3) (4 : Int32) [.null, .null, .null, .null] .null := (Arv.new A20 (by decide)).pad (pad_rep [] .null 4)
 refine w_dup X20 hx (d7_4 hby) rfl (pc' := 5) rfl ?_
 refine w_iconst X20 hx (d7_5 hby) (v := (0 : Int32)) rfl (pc' := 6) rfl ?_
 refine w_aloadN X20 hx (d7_6 hby) rfl rfl (pc' := 7) rfl ?_
 have f25 : Fld Z h20 a0 kc1 "status" "I" (.int jj0) := (zz7.ext E20)
 refine w_getF X20 hx "" hZ hown (Or.inl (wd_20 hw)) Via.refl e20 f25 (d7_7 hby) (pc' := 10) rfl ?_
 intro T26 X26 e26
 have f27 : Old Z n0 h20 := (O0.ext E20)
 refine w_static X26 hx (y := yn_8) hown (mvT hZ (wd_55 hw)) (mvT hZ (wd_56 hw)) (mvT hZ (wd_57 hw)) (mvT hZ (wd_58 hw)) (by decide) (backOf (W := 3) (rm_m8_28 l Z aZ hw [] jj0 jj1 jj2 h20 n0 (Nat.le_trans Z0 E20.1) zz8 f27 zz9 zz10) hZ (wd_58 hw) (wd_57 hw) (by decide) (by decide)) (by rw [hml]; rfl) [(.int jj0)] (lenOf pd_12 rfl) rfl (Nat.le_of_eq rfl) (d7_10 hby) (fun _ _ => ⟨rfl, e26, (by decide : 1 + 1 ≤ _), (by decide : 4 + 1 ≤ _)⟩) (pc' := 13) rfl ?_
 rintro _ _ ⟨T28, L28, k28, n28⟩ X28 ⟨Lc28, hQ28, l28, y28, z28⟩
 dsimp only [Pt.U, Pt.locs, Pt.cells, Pt.slots] at X28 l28 y28 z28 hQ28 ⊢
 subst l28 y28 z28
 obtain ⟨r_28, rfl, N28q, K28, g28_0, g28_1⟩ := hQ28
 have N29 := Fr.app N0 N28q
 have K30 : Keep h0 T28.heap [] := K23.trans K28 (all0 (P := fun x => x ∈ [] ∨ h0.size ≤ x))
 show Runs _ _ _ _ (T28.setTop (mkF m 13 #[.val (.ref a0)] [(.ref r_28), (.int (0 : Int32)), (.ref b20), (.ref b20)]))
 have f31 : Arv Z T28.heap b20 k20 (.object kc3) (4 : Int32) [.null, .null, .null, .null] .null := (V24.keep K28 nin0)
 obtain ⟨clu32, Aru32, qu32, Su32, Nu32, Hu32, Gu32⟩ := id f31
 have hinu32 := inb_of (j := (0 : Int32)) Su32 ⟨by decide, by decide⟩
 refine w_stR X28 hx hZ rfl Aru32 hinu32 rfl (Sto.ofV Aru32 qu32 O20 (Ins.of_exa g28_0 (wd_62 hw))) (d7_13 hby) (pc' := 14) rfl ?_
 intro T33 h33 X33 e33 W33
 have V34 : Arv Z h33 b20 k20 (.object kc3) (4 : Int32) [(.ref r_28), .null, .null, .null] .null := Arv.set Aru32 qu32 Su32 Nu32 Hu32 Gu32 rfl W33 0 rfl (Nat.le_of_ble_eq_true rfl)
 have K35 : Keep h0 h33 [] := K30.wr W33 (Or.inr sz22)
 have N36 := Fr.snoc X33 N29 ge21
 refine w_dup X33 hx (d7_14 hby) rfl (pc' := 15) rfl ?_
 refine w_iconst X33 hx (d7_15 hby) (v := (1 : Int32)) rfl (pc' := 16) rfl ?_
 refine w_aloadN X33 hx (d7_16 hby) rfl rfl (pc' := 17) rfl ?_
 have ne37 : a0 ≠ b20 := (Nat.ne_of_lt (Nat.lt_of_lt_of_le zz7.lt (Nat.le_trans (Nat.le_refl _) (Nat.le_of_eq g20.symm))))
 have f38 : Fld Z h33 a0 kc1 "contentType" "Ljava/lang/String;" .null := (((zz11.ext E20).keep K28 nin0).other W33 (Or.inl ne37))
 refine w_getF X33 hx "" hZ hown (Or.inl (wd_22 hw)) Via.refl e33 f38 (d7_17 hby) (pc' := 20) rfl ?_
 intro T39 X39 e39
 obtain ⟨clu40, Aru40, qu40, Su40, Nu40, Hu40, Gu40⟩ := id V34
 have hinu40 := inb_of (j := (1 : Int32)) Su40 ⟨by decide, by decide⟩
 refine w_stR X39 hx hZ e39 Aru40 hinu40 rfl (Or.inl rfl) (d7_20 hby) (pc' := 21) rfl ?_
 intro T41 h41 X41 e41 W41
 have V42 : Arv Z h41 b20 k20 (.object kc3) (4 : Int32) [(.ref r_28), .null, .null, .null] .null := Arv.set Aru40 qu40 Su40 Nu40 Hu40 Gu40 rfl W41 1 rfl (Nat.le_of_ble_eq_true rfl)
 have K43 : Keep h0 h41 [] := K35.wr W41 (Or.inr sz22)
 have N44 := Fr.snoc X41 N36 ge21
 refine w_dup X41 hx (d7_21 hby) rfl (pc' := 22) rfl ?_
 refine w_iconst X41 hx (d7_22 hby) (v := (2 : Int32)) rfl (pc' := 23) rfl ?_
 refine w_aloadN X41 hx (d7_23 hby) rfl rfl (pc' := 24) rfl ?_
 have f45 : Fld Z h41 a0 kc1 "location" "Ljava/lang/String;" .null := ((((zz12.ext E20).keep K28 nin0).other W33 (Or.inl ne37)).other W41 (Or.inl ne37))
 refine w_getF X41 hx "" hZ hown (Or.inl (wd_24 hw)) Via.refl e41 f45 (d7_24 hby) (pc' := 27) rfl ?_
 intro T46 X46 e46
 obtain ⟨clu47, Aru47, qu47, Su47, Nu47, Hu47, Gu47⟩ := id V42
 have hinu47 := inb_of (j := (2 : Int32)) Su47 ⟨by decide, by decide⟩
 refine w_stR X46 hx hZ e46 Aru47 hinu47 rfl (Or.inl rfl) (d7_27 hby) (pc' := 28) rfl ?_
 intro T48 h48 X48 e48 W48
 have V49 : Arv Z h48 b20 k20 (.object kc3) (4 : Int32) [(.ref r_28), .null, .null, .null] .null := Arv.set Aru47 qu47 Su47 Nu47 Hu47 Gu47 rfl W48 2 rfl (Nat.le_of_ble_eq_true rfl)
 have K50 : Keep h0 h48 [] := K43.wr W48 (Or.inr sz22)
 have N51 := Fr.snoc X48 N44 ge21
 refine w_dup X48 hx (d7_28 hby) rfl (pc' := 29) rfl ?_
 refine w_iconst X48 hx (d7_29 hby) (v := (3 : Int32)) rfl (pc' := 30) rfl ?_
 refine w_aloadN X48 hx (d7_30 hby) rfl rfl (pc' := 31) rfl ?_
 have f52 : Fld Z h48 a0 kc1 "body" "[B" (.ref jj3) := (((((zz13.ext E20).keep K28 nin0).other W33 (Or.inl ne37)).other W41 (Or.inl ne37)).other W48 (Or.inl ne37))
 refine w_getF X48 hx "" hZ hown (Or.inl (wd_46 hw)) Via.refl e48 f52 (d7_31 hby) (pc' := 34) rfl ?_
 intro T53 X53 e53
 have ne54 : jj3 ≠ b20 := (Nat.ne_of_lt (Nat.lt_of_lt_of_le zz14.lt (Nat.le_trans (Nat.le_refl _) (Nat.le_of_eq g20.symm))))
 have f55 : Arv Z h48 jj3 jj4 .byte jj5 (mI jj6) (.int (0 : Int32)) := (((((zz14.ext E20).keep K28 nin0).other W33 ne54).other W41 ne54).other W48 ne54)
 have f56 : Exa Z h48 jj3 "[B" := (((((zz15.ext E20).keep K28).wr W33).wr W41).wr W48)
 have le57 : h0.size ≤ T28.heap.size := (Nat.le_trans E20.1 K28.1)
 have le58 : h0.size ≤ h33.size := (Nat.le_trans le57 (Keep.of_wr W33).1)
 have le59 : h0.size ≤ h41.size := (Nat.le_trans le58 (Keep.of_wr W41).1)
 have le60 : h0.size ≤ h48.size := (Nat.le_trans le59 (Keep.of_wr W48).1)
 refine w_static X53 hx (y := yn_9) hown (mvT hZ (wd_63 hw)) (mvT hZ (wd_64 hw)) (mvT hZ (wd_65 hw)) (mvT hZ (wd_66 hw)) (by decide) (backOf (W := 3) (rm_m9_31 l Z aZ hw [] jj3 jj4 jj5 jj6 h48 n0 (Nat.le_trans Z0 le60) f55 zz16 f56) hZ (wd_66 hw) (wd_65 hw) (by decide) (by decide)) (by rw [hml]; rfl) [(.ref jj3)] (lenOf pd_15 rfl) rfl (Nat.le_of_eq rfl) (d7_34 hby) (fun _ _ => ⟨rfl, e53, (by decide : 2 + 0 ≤ _), (by decide : 5 + 0 ≤ _)⟩) (pc' := 37) rfl ?_
 rintro _ _ ⟨T61, L61, k61, n61⟩ X61 ⟨Lc61, hQ61, l61, y61, z61⟩
 dsimp only [Pt.U, Pt.locs, Pt.cells, Pt.slots] at X61 l61 y61 z61 hQ61 ⊢
 subst l61 y61 z61
 obtain ⟨rfl, N61q, e61⟩ := hQ61
 have N62 := Fr.app N51 N61q
 show Runs _ _ _ _ (T61.setTop (mkF m 37 #[.val (.ref a0)] [(.int (hB jj6)), (.int (3 : Int32)), (.ref b20), (.ref b20)]))
 have f63 : Old Z n0 h48 := ((((f27.keep K28 all0).wr W33 ge21).wr W41 ge21).wr W48 ge21)
 refine w_static X61 hx (y := yn_8) hown (mvT hZ (wd_55 hw)) (mvT hZ (wd_56 hw)) (mvT hZ (wd_57 hw)) (mvT hZ (wd_58 hw)) (by decide) (backOf (W := 3) (rm_m8_28 l Z aZ hw [] (hB jj6) jj1 jj2 h48 n0 (Nat.le_trans Z0 le60) zz8 f63 zz9 zz10) hZ (wd_58 hw) (wd_57 hw) (by decide) (by decide)) (by rw [hml]; rfl) [(.int (hB jj6))] (lenOf pd_12 rfl) rfl (Nat.le_of_eq rfl) (d7_37 hby) (fun _ _ => ⟨rfl, e61, (by decide : 2 + 1 ≤ _), (by decide : 5 + 1 ≤ _)⟩) (pc' := 40) rfl ?_
 rintro _ _ ⟨T64, L64, k64, n64⟩ X64 ⟨Lc64, hQ64, l64, y64, z64⟩
 dsimp only [Pt.U, Pt.locs, Pt.cells, Pt.slots] at X64 l64 y64 z64 hQ64 ⊢
 subst l64 y64 z64
 obtain ⟨r_64, rfl, N64q, K64, g64_0, g64_1⟩ := hQ64
 have N65 := Fr.app N62 N64q
 have K66 : Keep h0 T64.heap [] := K50.trans K64 (all0 (P := fun x => x ∈ [] ∨ h0.size ≤ x))
 show Runs _ _ _ _ (T64.setTop (mkF m 40 #[.val (.ref a0)] [(.ref r_64), (.int (3 : Int32)), (.ref b20), (.ref b20)]))
 have f67 : Arv Z T64.heap b20 k20 (.object kc3) (4 : Int32) [(.ref r_28), .null, .null, .null] .null := (V49.keep K64 nin0)
 obtain ⟨clu68, Aru68, qu68, Su68, Nu68, Hu68, Gu68⟩ := id f67
 have hinu68 := inb_of (j := (3 : Int32)) Su68 ⟨by decide, by decide⟩
 refine w_stR X64 hx hZ rfl Aru68 hinu68 rfl (Sto.ofV Aru68 qu68 O20 (Ins.of_exa g64_0 (wd_62 hw))) (d7_40 hby) (pc' := 41) rfl ?_
 intro T69 h69 X69 e69 W69
 have V70 : Arv Z h69 b20 k20 (.object kc3) (4 : Int32) [(.ref r_28), .null, .null, (.ref r_64)] .null := Arv.set Aru68 qu68 Su68 Nu68 Hu68 Gu68 rfl W69 3 rfl (Nat.le_of_ble_eq_true rfl)
 have K71 : Keep h0 h69 [] := K66.wr W69 (Or.inr sz22)
 have N72 := Fr.snoc X69 N65 ge21
 have f73 : Exa Z h69 r_28 kc2 := (((((g28_0.wr W33).wr W41).wr W48).keep K64).wr W69)
 have f75 : Exa Z h69 b20 "[Ljava/lang/Object;" := ((((((Q20.keep K28).wr W33).wr W41).wr W48).keep K64).wr W69)
 have ne74 : r_28 ≠ b20 := ne_exa f73 f75 (by decide)
 have f76 : Fld Z h69 r_28 kc2 "value" "I" (.int jj0) := (((((g28_1.other W33 (Or.inl ne74)).other W41 (Or.inl ne74)).other W48 (Or.inl ne74)).keep K64 nin0).other W69 (Or.inl ne74))
 have f77 : Exa Z h69 r_64 kc2 := (g64_0.wr W69)
 have ne78 : r_64 ≠ b20 := ne_exa f77 f75 (by decide)
 have f79 : Fld Z h69 r_64 kc2 "value" "I" (.int (hB jj6)) := (g64_1.other W69 (Or.inl ne78))
 have le80 : h0.size ≤ T64.heap.size := (Nat.le_trans le60 K64.1)
 have le81 : h0.size ≤ h69.size := (Nat.le_trans le80 (Keep.of_wr W69).1)
 refine w_static X69 hx (y := yn_10) hown (mvT hZ (wd_67 hw)) (mvT hZ (wd_68 hw)) (mvT hZ (wd_35 hw)) (mvT hZ (wd_69 hw)) (by decide) (backOf (W := 0) (rm_m10_36 l Z aZ hw [] b20 k20 r_28 r_64 jj0 (hB jj6) h69 n0 (Nat.le_trans Z0 le81) V70 f73 f76 f77 f79) hZ (wd_69 hw) (wd_35 hw) (by decide) (by decide)) (by rw [hml]; rfl) [(.ref b20)] (lenOf pd_18 rfl) rfl (Nat.le_of_eq rfl) (d7_41 hby) (fun _ _ => ⟨rfl, e69, (by decide : 3 + 0 ≤ _), (by decide : 6 + 0 ≤ _)⟩) (pc' := 44) rfl ?_
 rintro _ _ ⟨T82, L82, k82, n82⟩ X82 ⟨Lc82, hQ82, l82, y82, z82⟩
 dsimp only [Pt.U, Pt.locs, Pt.cells, Pt.slots] at X82 l82 y82 z82 hQ82 ⊢
 subst l82 y82 z82
 obtain ⟨rfl, N82q, e82⟩ := hQ82
 have N83 := Fr.app N72 N82q
 show Runs _ _ _ _ (T82.setTop (mkF m 44 #[.val (.ref a0)] [(.int (((31 : Int32) * (((31 : Int32) * (((31 : Int32) * ((31 : Int32) + jj0)) + (0 : Int32))) + (0 : Int32))) + (hB jj6)))]))
 exact w_done X82 hlk (v := some (.int (((31 : Int32) * (((31 : Int32) * (((31 : Int32) * ((31 : Int32) + jj0)) + (0 : Int32))) + (0 : Int32))) + (hB jj6)))) e82 (fun h => by rw [hret] at h; cases h) (fun fs hr => retI X82 hx hret (d7_44 hby) hr) (by decide) (by decide) (⟨rfl, N83, K71⟩)
theorem ef_m15_41 (m : MethodId)   : entryFrame m #[.null, .null] 2 = mkF m 0 #[.val .null, .val .null] [] := by first | (simp [entryFrame, mkF, argsToLocals, Value.category]; done) | rfl
def Q_m15_41 (Z : State)  (h0 : Heap) (n0 : Nat) (v : Option Value) (h : Heap) (L : List Loc) : Prop := v = some (.int (1 : Int32)) ∧ Fr n0 L ∧ h = h0
theorem rm_m15_41 (l : Launch) (Z : State) (aZ : Array Value) (hw : ∀ d ∈ tables_1, d.before aZ Z = true) (ws : List Jvm.Cond)  (h0 : Heap) (n0 : Nat) (Z0 : n0 ≤ h0.size) :
    MetN l Z yn_15 jdk_31_method_2_code 2 (some .boolean) ws ({ frames := 0, cells := 0, slots := 0, locals := 0 } : Room) #[.null, .null] h0 (Q_m15_41 Z  h0 n0) := by
 refine MetN.of (plainFor_of_name pn_3) ?_
 intro p e s m below meth c s₁ hret hx hby hml hown hnm hlk hZ X0 e0
 have N0 := Fr.nil n0
 rw [ef_m15_41 m ]
 refine w_aloadN X0 hx (d15_0 hby) rfl rfl (pc' := 1) rfl ?_
 refine w_aloadN X0 hx (d15_1 hby) rfl rfl (pc' := 2) rfl ?_
 refine w_acmp X0 hx (d15_2 hby) (same := true) rfl rfl (decide_eq_true rfl) (pc' := 17) (by decide) (by decide) ?_
 refine w_iconst X0 hx (d15_17 hby) (v := (1 : Int32)) rfl (pc' := 18) rfl ?_
 refine w_goto X0 hx (d15_18 hby) (pc' := 22) (by decide) (by decide) ?_
 exact w_done X0 hlk (v := some (.int (1 : Int32))) e0 (fun h => by rw [hret] at h; cases h) (fun fs hr => retN X0 hx (t := .boolean) hret (by simp) (d15_22 hby) hr) (by decide) (by decide) (⟨rfl, N0, rfl⟩)
theorem ef_m17_43 (m : MethodId) (a0 : Addr) (a1 : Addr)  : entryFrame m #[(.ref a0), (.ref a1), (.int (0 : Int32))] 4 = mkF m 0 #[.val (.ref a0), .val (.ref a1), .val (.int (0 : Int32)), .unset] [] := by first | (simp [entryFrame, mkF, argsToLocals, Value.category]; done) | rfl
def Q_m17_43 (Z : State) (a0 : Addr) (a1 : Addr) (h0 : Heap) (n0 : Nat) (v : Option Value) (h : Heap) (L : List Loc) : Prop := v = some (.int (-1 : Int32)) ∧ Fr n0 L ∧ h = h0
theorem rm_m17_43 (l : Launch) (Z : State) (aZ : Array Value) (hw : ∀ d ∈ tables_1, d.before aZ Z = true) (ws : List Jvm.Cond) (a0 : Addr) (a1 : Addr) (h0 : Heap) (n0 : Nat) (Z0 : n0 ≤ h0.size) :
    MetN l Z yn_17 jdk_48_method_13_code 4 (some .int) ws ({ frames := 0, cells := 0, slots := 0, locals := 0 } : Room) #[(.ref a0), (.ref a1), (.int (0 : Int32))] h0 (Q_m17_43 Z a0 a1 h0 n0) := by
 refine MetN.of (plainFor_of_name pn_7) ?_
 intro p e s m below meth c s₁ hret hx hby hml hown hnm hlk hZ X0 e0
 have N0 := Fr.nil n0
 rw [ef_m17_43 m a0 a1]
 refine w_iconst X0 hx (d17_0 hby) (v := (0 : Int32)) rfl (pc' := 1) rfl ?_
 refine w_istoreN X0 hx (d17_1 hby) (L' := #[.val (.ref a0), .val (.ref a1), .val (.int (0 : Int32)), .val (.int (0 : Int32))]) rfl (pc' := 2) rfl ?_
 refine w_iloadN X0 hx (d17_2 hby) rfl (pc' := 3) rfl ?_
 refine w_bipush X0 hx (d17_3 hby) (v := (7 : Int32)) rfl (pc' := 5) rfl ?_
 refine w_icY X0 hx (d17_5 hby) (flt (by decide : ¬ ((7 : Int32) < (0 : Int32)))).2.2.2 (pc' := 49) (by decide) (by decide) ?_
 refine w_iloadN X0 hx (d17_49 hby) rfl (pc' := 50) rfl ?_
 refine w_iloadN X0 hx (d17_50 hby) rfl (pc' := 51) rfl ?_
 refine w_icY X0 hx (d17_51 hby) (flt (by decide : ¬ ((0 : Int32) < (0 : Int32)))).2.1 (pc' := 71) (by decide) (by decide) ?_
 refine w_iconst X0 hx (d17_71 hby) (v := (-1 : Int32)) rfl (pc' := 72) rfl ?_
 exact w_done X0 hlk (v := some (.int (-1 : Int32))) e0 (fun h => by rw [hret] at h; cases h) (fun fs hr => retI X0 hx hret (d17_72 hby) hr) (by decide) (by decide) (⟨rfl, N0, rfl⟩)
theorem ef_m17_44 (m : MethodId) (a0 : Addr) (a1 : Addr)  : entryFrame m #[(.ref a0), (.ref a1), (.int (1 : Int32))] 4 = mkF m 0 #[.val (.ref a0), .val (.ref a1), .val (.int (1 : Int32)), .unset] [] := by first | (simp [entryFrame, mkF, argsToLocals, Value.category]; done) | rfl
def Q_m17_44 (Z : State) (a0 : Addr) (a1 : Addr) (k_a0 : ClassId) (jj0 : Int32) (k_a1 : ClassId) (h0 : Heap) (n0 : Nat) (v : Option Value) (h : Heap) (L : List Loc) : Prop := v = some (.int (-1 : Int32)) ∧ Fr n0 L ∧ h = h0
theorem rm_m17_44 (l : Launch) (Z : State) (aZ : Array Value) (hw : ∀ d ∈ tables_1, d.before aZ Z = true) (ws : List Jvm.Cond) (a0 : Addr) (a1 : Addr) (k_a0 : ClassId) (jj0 : Int32) (k_a1 : ClassId) (h0 : Heap) (n0 : Nat) (Z0 : n0 ≤ h0.size) (V_a0 : Arv Z h0 a0 k_a0 .byte (1 : Int32) [(.int jj0)] (.int (0 : Int32))) (V_a1 : Arv Z h0 a1 k_a1 .byte (1 : Int32) [(.int jj0)] (.int (0 : Int32))) :
    MetN l Z yn_17 jdk_48_method_13_code 4 (some .int) ws ({ frames := 0, cells := 0, slots := 0, locals := 0 } : Room) #[(.ref a0), (.ref a1), (.int (1 : Int32))] h0 (Q_m17_44 Z a0 a1 k_a0 jj0 k_a1 h0 n0) := by
 refine MetN.of (plainFor_of_name pn_7) ?_
 intro p e s m below meth c s₁ hret hx hby hml hown hnm hlk hZ X0 e0
 have N0 := Fr.nil n0
 rw [ef_m17_44 m a0 a1]
 refine w_iconst X0 hx (d17_0 hby) (v := (0 : Int32)) rfl (pc' := 1) rfl ?_
 refine w_istoreN X0 hx (d17_1 hby) (L' := #[.val (.ref a0), .val (.ref a1), .val (.int (1 : Int32)), .val (.int (0 : Int32))]) rfl (pc' := 2) rfl ?_
 refine w_iloadN X0 hx (d17_2 hby) rfl (pc' := 3) rfl ?_
 refine w_bipush X0 hx (d17_3 hby) (v := (7 : Int32)) rfl (pc' := 5) rfl ?_
 refine w_icY X0 hx (d17_5 hby) (flt (by decide : ¬ ((7 : Int32) < (1 : Int32)))).2.2.2 (pc' := 49) (by decide) (by decide) ?_
 refine w_iloadN X0 hx (d17_49 hby) rfl (pc' := 50) rfl ?_
 refine w_iloadN X0 hx (d17_50 hby) rfl (pc' := 51) rfl ?_
 refine w_icN X0 hx (d17_51 hby) (tlt (by decide : (0 : Int32) < (1 : Int32))).2.1 (pc' := 54) rfl ?_
 refine w_aloadN X0 hx (d17_54 hby) rfl rfl (pc' := 55) rfl ?_
 refine w_iloadN X0 hx (d17_55 hby) rfl (pc' := 56) rfl ?_
 obtain ⟨clu20, Aru20, qu20, Su20, Nu20, Hu20, Gu20⟩ := id V_a0
 have hinu20 := inb_of (j := (0 : Int32)) Su20 ⟨by decide, by decide⟩
 refine w_baload X0 hx hZ e0 Aru20 hinu20 (Hu20.at hinu20 rfl) (d17_56 hby) (pc' := 57) rfl ?_
 refine w_aloadN X0 hx (d17_57 hby) rfl rfl (pc' := 58) rfl ?_
 refine w_iloadN X0 hx (d17_58 hby) rfl (pc' := 59) rfl ?_
 obtain ⟨clu21, Aru21, qu21, Su21, Nu21, Hu21, Gu21⟩ := id V_a1
 have hinu21 := inb_of (j := (0 : Int32)) Su21 ⟨by decide, by decide⟩
 refine w_baload X0 hx hZ e0 Aru21 hinu21 (Hu21.at hinu21 rfl) (d17_59 hby) (pc' := 60) rfl ?_
 refine w_icY X0 hx (d17_60 hby) (teq (rfl : jj0 = jj0)).1 (pc' := 65) (by decide) (by decide) ?_
 refine w_iinc X0 hx (d17_65 hby) (v := (1 : Int32)) rfl rfl (L' := #[.val (.ref a0), .val (.ref a1), .val (.int (1 : Int32)), .val (.int ((0 : Int32) + (1 : Int32)))]) rfl (pc' := 68) rfl ?_
 rw [show ((0 : Int32) + (1 : Int32)) = (1 : Int32) from by decide]
 refine w_goto X0 hx (d17_68 hby) (pc' := 49) (by decide) (by decide) ?_
 refine w_iloadN X0 hx (d17_49 hby) rfl (pc' := 50) rfl ?_
 refine w_iloadN X0 hx (d17_50 hby) rfl (pc' := 51) rfl ?_
 refine w_icY X0 hx (d17_51 hby) (flt (by decide : ¬ ((1 : Int32) < (1 : Int32)))).2.1 (pc' := 71) (by decide) (by decide) ?_
 refine w_iconst X0 hx (d17_71 hby) (v := (-1 : Int32)) rfl (pc' := 72) rfl ?_
 exact w_done X0 hlk (v := some (.int (-1 : Int32))) e0 (fun h => by rw [hret] at h; cases h) (fun fs hr => retI X0 hx hret (d17_72 hby) hr) (by decide) (by decide) (⟨rfl, N0, rfl⟩)
theorem ef_m17_45 (m : MethodId) (a0 : Addr) (a1 : Addr)  : entryFrame m #[(.ref a0), (.ref a1), (.int (2 : Int32))] 4 = mkF m 0 #[.val (.ref a0), .val (.ref a1), .val (.int (2 : Int32)), .unset] [] := by first | (simp [entryFrame, mkF, argsToLocals, Value.category]; done) | rfl
def Q_m17_45 (Z : State) (a0 : Addr) (a1 : Addr) (k_a0 : ClassId) (jj0 : Int32) (jj1 : Int32) (k_a1 : ClassId) (h0 : Heap) (n0 : Nat) (v : Option Value) (h : Heap) (L : List Loc) : Prop := v = some (.int (-1 : Int32)) ∧ Fr n0 L ∧ h = h0
theorem rm_m17_45 (l : Launch) (Z : State) (aZ : Array Value) (hw : ∀ d ∈ tables_1, d.before aZ Z = true) (ws : List Jvm.Cond) (a0 : Addr) (a1 : Addr) (k_a0 : ClassId) (jj0 : Int32) (jj1 : Int32) (k_a1 : ClassId) (h0 : Heap) (n0 : Nat) (Z0 : n0 ≤ h0.size) (V_a0 : Arv Z h0 a0 k_a0 .byte (2 : Int32) [(.int jj0), (.int jj1)] (.int (0 : Int32))) (V_a1 : Arv Z h0 a1 k_a1 .byte (2 : Int32) [(.int jj0), (.int jj1)] (.int (0 : Int32))) :
    MetN l Z yn_17 jdk_48_method_13_code 4 (some .int) ws ({ frames := 0, cells := 0, slots := 0, locals := 0 } : Room) #[(.ref a0), (.ref a1), (.int (2 : Int32))] h0 (Q_m17_45 Z a0 a1 k_a0 jj0 jj1 k_a1 h0 n0) := by
 refine MetN.of (plainFor_of_name pn_7) ?_
 intro p e s m below meth c s₁ hret hx hby hml hown hnm hlk hZ X0 e0
 have N0 := Fr.nil n0
 rw [ef_m17_45 m a0 a1]
 refine w_iconst X0 hx (d17_0 hby) (v := (0 : Int32)) rfl (pc' := 1) rfl ?_
 refine w_istoreN X0 hx (d17_1 hby) (L' := #[.val (.ref a0), .val (.ref a1), .val (.int (2 : Int32)), .val (.int (0 : Int32))]) rfl (pc' := 2) rfl ?_
 refine w_iloadN X0 hx (d17_2 hby) rfl (pc' := 3) rfl ?_
 refine w_bipush X0 hx (d17_3 hby) (v := (7 : Int32)) rfl (pc' := 5) rfl ?_
 refine w_icY X0 hx (d17_5 hby) (flt (by decide : ¬ ((7 : Int32) < (2 : Int32)))).2.2.2 (pc' := 49) (by decide) (by decide) ?_
 refine w_iloadN X0 hx (d17_49 hby) rfl (pc' := 50) rfl ?_
 refine w_iloadN X0 hx (d17_50 hby) rfl (pc' := 51) rfl ?_
 refine w_icN X0 hx (d17_51 hby) (tlt (by decide : (0 : Int32) < (2 : Int32))).2.1 (pc' := 54) rfl ?_
 refine w_aloadN X0 hx (d17_54 hby) rfl rfl (pc' := 55) rfl ?_
 refine w_iloadN X0 hx (d17_55 hby) rfl (pc' := 56) rfl ?_
 obtain ⟨clu20, Aru20, qu20, Su20, Nu20, Hu20, Gu20⟩ := id V_a0
 have hinu20 := inb_of (j := (0 : Int32)) Su20 ⟨by decide, by decide⟩
 refine w_baload X0 hx hZ e0 Aru20 hinu20 (Hu20.at hinu20 rfl) (d17_56 hby) (pc' := 57) rfl ?_
 refine w_aloadN X0 hx (d17_57 hby) rfl rfl (pc' := 58) rfl ?_
 refine w_iloadN X0 hx (d17_58 hby) rfl (pc' := 59) rfl ?_
 obtain ⟨clu21, Aru21, qu21, Su21, Nu21, Hu21, Gu21⟩ := id V_a1
 have hinu21 := inb_of (j := (0 : Int32)) Su21 ⟨by decide, by decide⟩
 refine w_baload X0 hx hZ e0 Aru21 hinu21 (Hu21.at hinu21 rfl) (d17_59 hby) (pc' := 60) rfl ?_
 refine w_icY X0 hx (d17_60 hby) (teq (rfl : jj0 = jj0)).1 (pc' := 65) (by decide) (by decide) ?_
 refine w_iinc X0 hx (d17_65 hby) (v := (1 : Int32)) rfl rfl (L' := #[.val (.ref a0), .val (.ref a1), .val (.int (2 : Int32)), .val (.int ((0 : Int32) + (1 : Int32)))]) rfl (pc' := 68) rfl ?_
 rw [show ((0 : Int32) + (1 : Int32)) = (1 : Int32) from by decide]
 refine w_goto X0 hx (d17_68 hby) (pc' := 49) (by decide) (by decide) ?_
 refine w_iloadN X0 hx (d17_49 hby) rfl (pc' := 50) rfl ?_
 refine w_iloadN X0 hx (d17_50 hby) rfl (pc' := 51) rfl ?_
 refine w_icN X0 hx (d17_51 hby) (tlt (by decide : (1 : Int32) < (2 : Int32))).2.1 (pc' := 54) rfl ?_
 refine w_aloadN X0 hx (d17_54 hby) rfl rfl (pc' := 55) rfl ?_
 refine w_iloadN X0 hx (d17_55 hby) rfl (pc' := 56) rfl ?_
 obtain ⟨clu22, Aru22, qu22, Su22, Nu22, Hu22, Gu22⟩ := id V_a0
 have hinu22 := inb_of (j := (1 : Int32)) Su22 ⟨by decide, by decide⟩
 refine w_baload X0 hx hZ e0 Aru22 hinu22 (Hu22.at hinu22 rfl) (d17_56 hby) (pc' := 57) rfl ?_
 refine w_aloadN X0 hx (d17_57 hby) rfl rfl (pc' := 58) rfl ?_
 refine w_iloadN X0 hx (d17_58 hby) rfl (pc' := 59) rfl ?_
 obtain ⟨clu23, Aru23, qu23, Su23, Nu23, Hu23, Gu23⟩ := id V_a1
 have hinu23 := inb_of (j := (1 : Int32)) Su23 ⟨by decide, by decide⟩
 refine w_baload X0 hx hZ e0 Aru23 hinu23 (Hu23.at hinu23 rfl) (d17_59 hby) (pc' := 60) rfl ?_
 refine w_icY X0 hx (d17_60 hby) (teq (rfl : jj1 = jj1)).1 (pc' := 65) (by decide) (by decide) ?_
 refine w_iinc X0 hx (d17_65 hby) (v := (1 : Int32)) rfl rfl (L' := #[.val (.ref a0), .val (.ref a1), .val (.int (2 : Int32)), .val (.int ((1 : Int32) + (1 : Int32)))]) rfl (pc' := 68) rfl ?_
 rw [show ((1 : Int32) + (1 : Int32)) = (2 : Int32) from by decide]
 refine w_goto X0 hx (d17_68 hby) (pc' := 49) (by decide) (by decide) ?_
 refine w_iloadN X0 hx (d17_49 hby) rfl (pc' := 50) rfl ?_
 refine w_iloadN X0 hx (d17_50 hby) rfl (pc' := 51) rfl ?_
 refine w_icY X0 hx (d17_51 hby) (flt (by decide : ¬ ((2 : Int32) < (2 : Int32)))).2.1 (pc' := 71) (by decide) (by decide) ?_
 refine w_iconst X0 hx (d17_71 hby) (v := (-1 : Int32)) rfl (pc' := 72) rfl ?_
 exact w_done X0 hlk (v := some (.int (-1 : Int32))) e0 (fun h => by rw [hret] at h; cases h) (fun fs hr => retI X0 hx hret (d17_72 hby) hr) (by decide) (by decide) (⟨rfl, N0, rfl⟩)
theorem ef_m17_46 (m : MethodId) (a0 : Addr) (a1 : Addr)  : entryFrame m #[(.ref a0), (.ref a1), (.int (3 : Int32))] 4 = mkF m 0 #[.val (.ref a0), .val (.ref a1), .val (.int (3 : Int32)), .unset] [] := by first | (simp [entryFrame, mkF, argsToLocals, Value.category]; done) | rfl
def Q_m17_46 (Z : State) (a0 : Addr) (a1 : Addr) (k_a0 : ClassId) (jj0 : Int32) (jj1 : Int32) (jj2 : Int32) (k_a1 : ClassId) (h0 : Heap) (n0 : Nat) (v : Option Value) (h : Heap) (L : List Loc) : Prop := v = some (.int (-1 : Int32)) ∧ Fr n0 L ∧ h = h0
theorem rm_m17_46 (l : Launch) (Z : State) (aZ : Array Value) (hw : ∀ d ∈ tables_1, d.before aZ Z = true) (ws : List Jvm.Cond) (a0 : Addr) (a1 : Addr) (k_a0 : ClassId) (jj0 : Int32) (jj1 : Int32) (jj2 : Int32) (k_a1 : ClassId) (h0 : Heap) (n0 : Nat) (Z0 : n0 ≤ h0.size) (V_a0 : Arv Z h0 a0 k_a0 .byte (3 : Int32) [(.int jj0), (.int jj1), (.int jj2)] (.int (0 : Int32))) (V_a1 : Arv Z h0 a1 k_a1 .byte (3 : Int32) [(.int jj0), (.int jj1), (.int jj2)] (.int (0 : Int32))) :
    MetN l Z yn_17 jdk_48_method_13_code 4 (some .int) ws ({ frames := 0, cells := 0, slots := 0, locals := 0 } : Room) #[(.ref a0), (.ref a1), (.int (3 : Int32))] h0 (Q_m17_46 Z a0 a1 k_a0 jj0 jj1 jj2 k_a1 h0 n0) := by
 refine MetN.of (plainFor_of_name pn_7) ?_
 intro p e s m below meth c s₁ hret hx hby hml hown hnm hlk hZ X0 e0
 have N0 := Fr.nil n0
 rw [ef_m17_46 m a0 a1]
 refine w_iconst X0 hx (d17_0 hby) (v := (0 : Int32)) rfl (pc' := 1) rfl ?_
 refine w_istoreN X0 hx (d17_1 hby) (L' := #[.val (.ref a0), .val (.ref a1), .val (.int (3 : Int32)), .val (.int (0 : Int32))]) rfl (pc' := 2) rfl ?_
 refine w_iloadN X0 hx (d17_2 hby) rfl (pc' := 3) rfl ?_
 refine w_bipush X0 hx (d17_3 hby) (v := (7 : Int32)) rfl (pc' := 5) rfl ?_
 refine w_icY X0 hx (d17_5 hby) (flt (by decide : ¬ ((7 : Int32) < (3 : Int32)))).2.2.2 (pc' := 49) (by decide) (by decide) ?_
 refine w_iloadN X0 hx (d17_49 hby) rfl (pc' := 50) rfl ?_
 refine w_iloadN X0 hx (d17_50 hby) rfl (pc' := 51) rfl ?_
 refine w_icN X0 hx (d17_51 hby) (tlt (by decide : (0 : Int32) < (3 : Int32))).2.1 (pc' := 54) rfl ?_
 refine w_aloadN X0 hx (d17_54 hby) rfl rfl (pc' := 55) rfl ?_
 refine w_iloadN X0 hx (d17_55 hby) rfl (pc' := 56) rfl ?_
 obtain ⟨clu20, Aru20, qu20, Su20, Nu20, Hu20, Gu20⟩ := id V_a0
 have hinu20 := inb_of (j := (0 : Int32)) Su20 ⟨by decide, by decide⟩
 refine w_baload X0 hx hZ e0 Aru20 hinu20 (Hu20.at hinu20 rfl) (d17_56 hby) (pc' := 57) rfl ?_
 refine w_aloadN X0 hx (d17_57 hby) rfl rfl (pc' := 58) rfl ?_
 refine w_iloadN X0 hx (d17_58 hby) rfl (pc' := 59) rfl ?_
 obtain ⟨clu21, Aru21, qu21, Su21, Nu21, Hu21, Gu21⟩ := id V_a1
 have hinu21 := inb_of (j := (0 : Int32)) Su21 ⟨by decide, by decide⟩
 refine w_baload X0 hx hZ e0 Aru21 hinu21 (Hu21.at hinu21 rfl) (d17_59 hby) (pc' := 60) rfl ?_
 refine w_icY X0 hx (d17_60 hby) (teq (rfl : jj0 = jj0)).1 (pc' := 65) (by decide) (by decide) ?_
 refine w_iinc X0 hx (d17_65 hby) (v := (1 : Int32)) rfl rfl (L' := #[.val (.ref a0), .val (.ref a1), .val (.int (3 : Int32)), .val (.int ((0 : Int32) + (1 : Int32)))]) rfl (pc' := 68) rfl ?_
 rw [show ((0 : Int32) + (1 : Int32)) = (1 : Int32) from by decide]
 refine w_goto X0 hx (d17_68 hby) (pc' := 49) (by decide) (by decide) ?_
 refine w_iloadN X0 hx (d17_49 hby) rfl (pc' := 50) rfl ?_
 refine w_iloadN X0 hx (d17_50 hby) rfl (pc' := 51) rfl ?_
 refine w_icN X0 hx (d17_51 hby) (tlt (by decide : (1 : Int32) < (3 : Int32))).2.1 (pc' := 54) rfl ?_
 refine w_aloadN X0 hx (d17_54 hby) rfl rfl (pc' := 55) rfl ?_
 refine w_iloadN X0 hx (d17_55 hby) rfl (pc' := 56) rfl ?_
 obtain ⟨clu22, Aru22, qu22, Su22, Nu22, Hu22, Gu22⟩ := id V_a0
 have hinu22 := inb_of (j := (1 : Int32)) Su22 ⟨by decide, by decide⟩
 refine w_baload X0 hx hZ e0 Aru22 hinu22 (Hu22.at hinu22 rfl) (d17_56 hby) (pc' := 57) rfl ?_
 refine w_aloadN X0 hx (d17_57 hby) rfl rfl (pc' := 58) rfl ?_
 refine w_iloadN X0 hx (d17_58 hby) rfl (pc' := 59) rfl ?_
 obtain ⟨clu23, Aru23, qu23, Su23, Nu23, Hu23, Gu23⟩ := id V_a1
 have hinu23 := inb_of (j := (1 : Int32)) Su23 ⟨by decide, by decide⟩
 refine w_baload X0 hx hZ e0 Aru23 hinu23 (Hu23.at hinu23 rfl) (d17_59 hby) (pc' := 60) rfl ?_
 refine w_icY X0 hx (d17_60 hby) (teq (rfl : jj1 = jj1)).1 (pc' := 65) (by decide) (by decide) ?_
 refine w_iinc X0 hx (d17_65 hby) (v := (1 : Int32)) rfl rfl (L' := #[.val (.ref a0), .val (.ref a1), .val (.int (3 : Int32)), .val (.int ((1 : Int32) + (1 : Int32)))]) rfl (pc' := 68) rfl ?_
 rw [show ((1 : Int32) + (1 : Int32)) = (2 : Int32) from by decide]
 refine w_goto X0 hx (d17_68 hby) (pc' := 49) (by decide) (by decide) ?_
 refine w_iloadN X0 hx (d17_49 hby) rfl (pc' := 50) rfl ?_
 refine w_iloadN X0 hx (d17_50 hby) rfl (pc' := 51) rfl ?_
 refine w_icN X0 hx (d17_51 hby) (tlt (by decide : (2 : Int32) < (3 : Int32))).2.1 (pc' := 54) rfl ?_
 refine w_aloadN X0 hx (d17_54 hby) rfl rfl (pc' := 55) rfl ?_
 refine w_iloadN X0 hx (d17_55 hby) rfl (pc' := 56) rfl ?_
 obtain ⟨clu24, Aru24, qu24, Su24, Nu24, Hu24, Gu24⟩ := id V_a0
 have hinu24 := inb_of (j := (2 : Int32)) Su24 ⟨by decide, by decide⟩
 refine w_baload X0 hx hZ e0 Aru24 hinu24 (Hu24.at hinu24 rfl) (d17_56 hby) (pc' := 57) rfl ?_
 refine w_aloadN X0 hx (d17_57 hby) rfl rfl (pc' := 58) rfl ?_
 refine w_iloadN X0 hx (d17_58 hby) rfl (pc' := 59) rfl ?_
 obtain ⟨clu25, Aru25, qu25, Su25, Nu25, Hu25, Gu25⟩ := id V_a1
 have hinu25 := inb_of (j := (2 : Int32)) Su25 ⟨by decide, by decide⟩
 refine w_baload X0 hx hZ e0 Aru25 hinu25 (Hu25.at hinu25 rfl) (d17_59 hby) (pc' := 60) rfl ?_
 refine w_icY X0 hx (d17_60 hby) (teq (rfl : jj2 = jj2)).1 (pc' := 65) (by decide) (by decide) ?_
 refine w_iinc X0 hx (d17_65 hby) (v := (1 : Int32)) rfl rfl (L' := #[.val (.ref a0), .val (.ref a1), .val (.int (3 : Int32)), .val (.int ((2 : Int32) + (1 : Int32)))]) rfl (pc' := 68) rfl ?_
 rw [show ((2 : Int32) + (1 : Int32)) = (3 : Int32) from by decide]
 refine w_goto X0 hx (d17_68 hby) (pc' := 49) (by decide) (by decide) ?_
 refine w_iloadN X0 hx (d17_49 hby) rfl (pc' := 50) rfl ?_
 refine w_iloadN X0 hx (d17_50 hby) rfl (pc' := 51) rfl ?_
 refine w_icY X0 hx (d17_51 hby) (flt (by decide : ¬ ((3 : Int32) < (3 : Int32)))).2.1 (pc' := 71) (by decide) (by decide) ?_
 refine w_iconst X0 hx (d17_71 hby) (v := (-1 : Int32)) rfl (pc' := 72) rfl ?_
 exact w_done X0 hlk (v := some (.int (-1 : Int32))) e0 (fun h => by rw [hret] at h; cases h) (fun fs hr => retI X0 hx hret (d17_72 hby) hr) (by decide) (by decide) (⟨rfl, N0, rfl⟩)
theorem ef_m16_42 (m : MethodId) (a0 : Addr) (a1 : Addr)  : entryFrame m #[(.ref a0), (.ref a1)] 3 = mkF m 0 #[.val (.ref a0), .val (.ref a1), .unset] [] := by first | (simp [entryFrame, mkF, argsToLocals, Value.category]; done) | rfl
def Q_m16_42 (Z : State) (a0 : Addr) (a1 : Addr) (k_a0 : ClassId) (jj0 : Int32) (l_a0 : List Int32) (k_a1 : ClassId) (h0 : Heap) (n0 : Nat) (v : Option Value) (h : Heap) (L : List Loc) : Prop := v = some (.int (1 : Int32)) ∧ Fr n0 L ∧ h = h0
theorem rm_m16_42 (l : Launch) (Z : State) (aZ : Array Value) (hw : ∀ d ∈ tables_1, d.before aZ Z = true) (ws : List Jvm.Cond) (a0 : Addr) (a1 : Addr) (k_a0 : ClassId) (jj0 : Int32) (l_a0 : List Int32) (k_a1 : ClassId) (h0 : Heap) (n0 : Nat) (Z0 : n0 ≤ h0.size) (V_a0 : Arv Z h0 a0 k_a0 .byte jj0 (mI l_a0) (.int (0 : Int32))) (V_a1 : Arv Z h0 a1 k_a1 .byte jj0 (mI l_a0) (.int (0 : Int32))) (hX_2 : TB jj0 l_a0) (zz1 : a0 ≠ a1) :
    MetN l Z yn_16 jdk_65_method_89_code 3 (some .boolean) ws ({ frames := 1, cells := 0, slots := 0, locals := 15 } : Room) #[(.ref a0), (.ref a1)] h0 (Q_m16_42 Z a0 a1 k_a0 jj0 l_a0 k_a1 h0 n0) := by
 refine MetN.of (plainFor_of_name pn_8) ?_
 intro p e s m below meth c s₁ hret hx hby hml hown hnm hlk hZ X0 e0
 have N0 := Fr.nil n0
 rw [ef_m16_42 m a0 a1]
 rcases hX_2 with ⟨rfl, rfl⟩ | ⟨x1, rfl, rfl⟩ | ⟨x1, x2, rfl, rfl⟩ | ⟨x1, x2, x3, rfl, rfl⟩
 · have V20 : Arv Z h0 a0 k_a0 .byte (0 : Int32) [] (.int (0 : Int32)) := V_a0
   have V21 : Arv Z h0 a1 k_a1 .byte (0 : Int32) [] (.int (0 : Int32)) := V_a1
   refine w_aloadN X0 hx (d16_0 hby) rfl rfl (pc' := 1) rfl ?_
   refine w_aloadN X0 hx (d16_1 hby) rfl rfl (pc' := 2) rfl ?_
   refine w_acmp X0 hx (d16_2 hby) (same := false) rfl rfl (decide_eq_false fun q => zz1 (Value.ref.inj q)) (pc' := 7) (by decide) (by decide) ?_
   refine w_aloadN X0 hx (d16_7 hby) rfl rfl (pc' := 8) rfl ?_
   refine w_ifnullN X0 hx (d16_8 hby) (pc' := 11) rfl ?_
   refine w_aloadN X0 hx (d16_11 hby) rfl rfl (pc' := 12) rfl ?_
   refine w_ifnonnullY X0 hx (d16_12 hby) (pc' := 17) (by decide) (by decide) ?_
   refine w_aloadN X0 hx (d16_17 hby) rfl rfl (pc' := 18) rfl ?_
   refine w_alen X0 hx hZ e0 V20 (d16_18 hby) (pc' := 19) rfl ?_
   refine w_istoreN X0 hx (d16_19 hby) (L' := #[.val (.ref a0), .val (.ref a1), .val (.int (0 : Int32))]) rfl (pc' := 20) rfl ?_
   refine w_aloadN X0 hx (d16_20 hby) rfl rfl (pc' := 21) rfl ?_
   refine w_alen X0 hx hZ e0 V21 (d16_21 hby) (pc' := 22) rfl ?_
   refine w_iloadN X0 hx (d16_22 hby) rfl (pc' := 23) rfl ?_
   refine w_icY X0 hx (d16_23 hby) (teq (by decide : (0 : Int32) = (0 : Int32))).1 (pc' := 28) (by decide) (by decide) ?_
   refine w_aloadN X0 hx (d16_28 hby) rfl rfl (pc' := 29) rfl ?_
   refine w_aloadN X0 hx (d16_29 hby) rfl rfl (pc' := 30) rfl ?_
   refine w_iloadN X0 hx (d16_30 hby) rfl (pc' := 31) rfl ?_
   refine w_static X0 hx (y := yn_17) hown (mvT hZ (wd_97 hw)) (mvT hZ (wd_98 hw)) (mvT hZ (wd_99 hw)) (mvT hZ (wd_100 hw)) (by decide) (backOf (W := 0) (rm_m17_43 l Z aZ hw [] a0 a1 h0 n0 Z0 ) hZ (wd_100 hw) (wd_99 hw) (by decide) (by decide)) (by rw [hml]; rfl) [(.ref a0), (.ref a1), (.int (0 : Int32))] (lenOf pd_20 rfl) rfl (Nat.le_of_eq rfl) (d16_31 hby) (fun _ _ => ⟨rfl, e0, (by decide : 0 + 0 ≤ _), (by decide : 0 + 0 ≤ _)⟩) (pc' := 34) rfl ?_
   rintro _ _ ⟨T22, L22, k22, n22⟩ X22 ⟨Lc22, hQ22, l22, y22, z22⟩
   dsimp only [Pt.U, Pt.locs, Pt.cells, Pt.slots] at X22 l22 y22 z22 hQ22 ⊢
   subst l22 y22 z22
   obtain ⟨rfl, N22q, e22⟩ := hQ22
   have N23 := Fr.app N0 N22q
   show Runs _ _ _ _ (T22.setTop (mkF m 34 #[.val (.ref a0), .val (.ref a1), .val (.int (0 : Int32))] [(.int (-1 : Int32))]))
   refine w_ifN X22 hx (d16_34 hby) (tlt (by decide : (-1 : Int32) < (0 : Int32))).2.1 (pc' := 37) rfl ?_
   refine w_iconst X22 hx (d16_37 hby) (v := (1 : Int32)) rfl (pc' := 38) rfl ?_
   refine w_goto X22 hx (d16_38 hby) (pc' := 42) (by decide) (by decide) ?_
   exact w_done X22 hlk (v := some (.int (1 : Int32))) e22 (fun h => by rw [hret] at h; cases h) (fun fs hr => retN X22 hx (t := .boolean) hret (by simp) (d16_42 hby) hr) (by decide) (by decide) (⟨rfl, N23, rfl⟩)
 · have V24 : Arv Z h0 a0 k_a0 .byte (1 : Int32) [(.int x1)] (.int (0 : Int32)) := V_a0
   have V25 : Arv Z h0 a1 k_a1 .byte (1 : Int32) [(.int x1)] (.int (0 : Int32)) := V_a1
   refine w_aloadN X0 hx (d16_0 hby) rfl rfl (pc' := 1) rfl ?_
   refine w_aloadN X0 hx (d16_1 hby) rfl rfl (pc' := 2) rfl ?_
   refine w_acmp X0 hx (d16_2 hby) (same := false) rfl rfl (decide_eq_false fun q => zz1 (Value.ref.inj q)) (pc' := 7) (by decide) (by decide) ?_
   refine w_aloadN X0 hx (d16_7 hby) rfl rfl (pc' := 8) rfl ?_
   refine w_ifnullN X0 hx (d16_8 hby) (pc' := 11) rfl ?_
   refine w_aloadN X0 hx (d16_11 hby) rfl rfl (pc' := 12) rfl ?_
   refine w_ifnonnullY X0 hx (d16_12 hby) (pc' := 17) (by decide) (by decide) ?_
   refine w_aloadN X0 hx (d16_17 hby) rfl rfl (pc' := 18) rfl ?_
   refine w_alen X0 hx hZ e0 V24 (d16_18 hby) (pc' := 19) rfl ?_
   refine w_istoreN X0 hx (d16_19 hby) (L' := #[.val (.ref a0), .val (.ref a1), .val (.int (1 : Int32))]) rfl (pc' := 20) rfl ?_
   refine w_aloadN X0 hx (d16_20 hby) rfl rfl (pc' := 21) rfl ?_
   refine w_alen X0 hx hZ e0 V25 (d16_21 hby) (pc' := 22) rfl ?_
   refine w_iloadN X0 hx (d16_22 hby) rfl (pc' := 23) rfl ?_
   refine w_icY X0 hx (d16_23 hby) (teq (by decide : (1 : Int32) = (1 : Int32))).1 (pc' := 28) (by decide) (by decide) ?_
   refine w_aloadN X0 hx (d16_28 hby) rfl rfl (pc' := 29) rfl ?_
   refine w_aloadN X0 hx (d16_29 hby) rfl rfl (pc' := 30) rfl ?_
   refine w_iloadN X0 hx (d16_30 hby) rfl (pc' := 31) rfl ?_
   refine w_static X0 hx (y := yn_17) hown (mvT hZ (wd_97 hw)) (mvT hZ (wd_98 hw)) (mvT hZ (wd_99 hw)) (mvT hZ (wd_100 hw)) (by decide) (backOf (W := 0) (rm_m17_44 l Z aZ hw [] a0 a1 k_a0 x1 k_a1 h0 n0 Z0 V24 V25) hZ (wd_100 hw) (wd_99 hw) (by decide) (by decide)) (by rw [hml]; rfl) [(.ref a0), (.ref a1), (.int (1 : Int32))] (lenOf pd_20 rfl) rfl (Nat.le_of_eq rfl) (d16_31 hby) (fun _ _ => ⟨rfl, e0, (by decide : 0 + 0 ≤ _), (by decide : 0 + 0 ≤ _)⟩) (pc' := 34) rfl ?_
   rintro _ _ ⟨T26, L26, k26, n26⟩ X26 ⟨Lc26, hQ26, l26, y26, z26⟩
   dsimp only [Pt.U, Pt.locs, Pt.cells, Pt.slots] at X26 l26 y26 z26 hQ26 ⊢
   subst l26 y26 z26
   obtain ⟨rfl, N26q, e26⟩ := hQ26
   have N27 := Fr.app N0 N26q
   show Runs _ _ _ _ (T26.setTop (mkF m 34 #[.val (.ref a0), .val (.ref a1), .val (.int (1 : Int32))] [(.int (-1 : Int32))]))
   refine w_ifN X26 hx (d16_34 hby) (tlt (by decide : (-1 : Int32) < (0 : Int32))).2.1 (pc' := 37) rfl ?_
   refine w_iconst X26 hx (d16_37 hby) (v := (1 : Int32)) rfl (pc' := 38) rfl ?_
   refine w_goto X26 hx (d16_38 hby) (pc' := 42) (by decide) (by decide) ?_
   exact w_done X26 hlk (v := some (.int (1 : Int32))) e26 (fun h => by rw [hret] at h; cases h) (fun fs hr => retN X26 hx (t := .boolean) hret (by simp) (d16_42 hby) hr) (by decide) (by decide) (⟨rfl, N27, rfl⟩)
 · have V28 : Arv Z h0 a0 k_a0 .byte (2 : Int32) [(.int x1), (.int x2)] (.int (0 : Int32)) := V_a0
   have V29 : Arv Z h0 a1 k_a1 .byte (2 : Int32) [(.int x1), (.int x2)] (.int (0 : Int32)) := V_a1
   refine w_aloadN X0 hx (d16_0 hby) rfl rfl (pc' := 1) rfl ?_
   refine w_aloadN X0 hx (d16_1 hby) rfl rfl (pc' := 2) rfl ?_
   refine w_acmp X0 hx (d16_2 hby) (same := false) rfl rfl (decide_eq_false fun q => zz1 (Value.ref.inj q)) (pc' := 7) (by decide) (by decide) ?_
   refine w_aloadN X0 hx (d16_7 hby) rfl rfl (pc' := 8) rfl ?_
   refine w_ifnullN X0 hx (d16_8 hby) (pc' := 11) rfl ?_
   refine w_aloadN X0 hx (d16_11 hby) rfl rfl (pc' := 12) rfl ?_
   refine w_ifnonnullY X0 hx (d16_12 hby) (pc' := 17) (by decide) (by decide) ?_
   refine w_aloadN X0 hx (d16_17 hby) rfl rfl (pc' := 18) rfl ?_
   refine w_alen X0 hx hZ e0 V28 (d16_18 hby) (pc' := 19) rfl ?_
   refine w_istoreN X0 hx (d16_19 hby) (L' := #[.val (.ref a0), .val (.ref a1), .val (.int (2 : Int32))]) rfl (pc' := 20) rfl ?_
   refine w_aloadN X0 hx (d16_20 hby) rfl rfl (pc' := 21) rfl ?_
   refine w_alen X0 hx hZ e0 V29 (d16_21 hby) (pc' := 22) rfl ?_
   refine w_iloadN X0 hx (d16_22 hby) rfl (pc' := 23) rfl ?_
   refine w_icY X0 hx (d16_23 hby) (teq (by decide : (2 : Int32) = (2 : Int32))).1 (pc' := 28) (by decide) (by decide) ?_
   refine w_aloadN X0 hx (d16_28 hby) rfl rfl (pc' := 29) rfl ?_
   refine w_aloadN X0 hx (d16_29 hby) rfl rfl (pc' := 30) rfl ?_
   refine w_iloadN X0 hx (d16_30 hby) rfl (pc' := 31) rfl ?_
   refine w_static X0 hx (y := yn_17) hown (mvT hZ (wd_97 hw)) (mvT hZ (wd_98 hw)) (mvT hZ (wd_99 hw)) (mvT hZ (wd_100 hw)) (by decide) (backOf (W := 0) (rm_m17_45 l Z aZ hw [] a0 a1 k_a0 x1 x2 k_a1 h0 n0 Z0 V28 V29) hZ (wd_100 hw) (wd_99 hw) (by decide) (by decide)) (by rw [hml]; rfl) [(.ref a0), (.ref a1), (.int (2 : Int32))] (lenOf pd_20 rfl) rfl (Nat.le_of_eq rfl) (d16_31 hby) (fun _ _ => ⟨rfl, e0, (by decide : 0 + 0 ≤ _), (by decide : 0 + 0 ≤ _)⟩) (pc' := 34) rfl ?_
   rintro _ _ ⟨T30, L30, k30, n30⟩ X30 ⟨Lc30, hQ30, l30, y30, z30⟩
   dsimp only [Pt.U, Pt.locs, Pt.cells, Pt.slots] at X30 l30 y30 z30 hQ30 ⊢
   subst l30 y30 z30
   obtain ⟨rfl, N30q, e30⟩ := hQ30
   have N31 := Fr.app N0 N30q
   show Runs _ _ _ _ (T30.setTop (mkF m 34 #[.val (.ref a0), .val (.ref a1), .val (.int (2 : Int32))] [(.int (-1 : Int32))]))
   refine w_ifN X30 hx (d16_34 hby) (tlt (by decide : (-1 : Int32) < (0 : Int32))).2.1 (pc' := 37) rfl ?_
   refine w_iconst X30 hx (d16_37 hby) (v := (1 : Int32)) rfl (pc' := 38) rfl ?_
   refine w_goto X30 hx (d16_38 hby) (pc' := 42) (by decide) (by decide) ?_
   exact w_done X30 hlk (v := some (.int (1 : Int32))) e30 (fun h => by rw [hret] at h; cases h) (fun fs hr => retN X30 hx (t := .boolean) hret (by simp) (d16_42 hby) hr) (by decide) (by decide) (⟨rfl, N31, rfl⟩)
 · have V32 : Arv Z h0 a0 k_a0 .byte (3 : Int32) [(.int x1), (.int x2), (.int x3)] (.int (0 : Int32)) := V_a0
   have V33 : Arv Z h0 a1 k_a1 .byte (3 : Int32) [(.int x1), (.int x2), (.int x3)] (.int (0 : Int32)) := V_a1
   refine w_aloadN X0 hx (d16_0 hby) rfl rfl (pc' := 1) rfl ?_
   refine w_aloadN X0 hx (d16_1 hby) rfl rfl (pc' := 2) rfl ?_
   refine w_acmp X0 hx (d16_2 hby) (same := false) rfl rfl (decide_eq_false fun q => zz1 (Value.ref.inj q)) (pc' := 7) (by decide) (by decide) ?_
   refine w_aloadN X0 hx (d16_7 hby) rfl rfl (pc' := 8) rfl ?_
   refine w_ifnullN X0 hx (d16_8 hby) (pc' := 11) rfl ?_
   refine w_aloadN X0 hx (d16_11 hby) rfl rfl (pc' := 12) rfl ?_
   refine w_ifnonnullY X0 hx (d16_12 hby) (pc' := 17) (by decide) (by decide) ?_
   refine w_aloadN X0 hx (d16_17 hby) rfl rfl (pc' := 18) rfl ?_
   refine w_alen X0 hx hZ e0 V32 (d16_18 hby) (pc' := 19) rfl ?_
   refine w_istoreN X0 hx (d16_19 hby) (L' := #[.val (.ref a0), .val (.ref a1), .val (.int (3 : Int32))]) rfl (pc' := 20) rfl ?_
   refine w_aloadN X0 hx (d16_20 hby) rfl rfl (pc' := 21) rfl ?_
   refine w_alen X0 hx hZ e0 V33 (d16_21 hby) (pc' := 22) rfl ?_
   refine w_iloadN X0 hx (d16_22 hby) rfl (pc' := 23) rfl ?_
   refine w_icY X0 hx (d16_23 hby) (teq (by decide : (3 : Int32) = (3 : Int32))).1 (pc' := 28) (by decide) (by decide) ?_
   refine w_aloadN X0 hx (d16_28 hby) rfl rfl (pc' := 29) rfl ?_
   refine w_aloadN X0 hx (d16_29 hby) rfl rfl (pc' := 30) rfl ?_
   refine w_iloadN X0 hx (d16_30 hby) rfl (pc' := 31) rfl ?_
   refine w_static X0 hx (y := yn_17) hown (mvT hZ (wd_97 hw)) (mvT hZ (wd_98 hw)) (mvT hZ (wd_99 hw)) (mvT hZ (wd_100 hw)) (by decide) (backOf (W := 0) (rm_m17_46 l Z aZ hw [] a0 a1 k_a0 x1 x2 x3 k_a1 h0 n0 Z0 V32 V33) hZ (wd_100 hw) (wd_99 hw) (by decide) (by decide)) (by rw [hml]; rfl) [(.ref a0), (.ref a1), (.int (3 : Int32))] (lenOf pd_20 rfl) rfl (Nat.le_of_eq rfl) (d16_31 hby) (fun _ _ => ⟨rfl, e0, (by decide : 0 + 0 ≤ _), (by decide : 0 + 0 ≤ _)⟩) (pc' := 34) rfl ?_
   rintro _ _ ⟨T34, L34, k34, n34⟩ X34 ⟨Lc34, hQ34, l34, y34, z34⟩
   dsimp only [Pt.U, Pt.locs, Pt.cells, Pt.slots] at X34 l34 y34 z34 hQ34 ⊢
   subst l34 y34 z34
   obtain ⟨rfl, N34q, e34⟩ := hQ34
   have N35 := Fr.app N0 N34q
   show Runs _ _ _ _ (T34.setTop (mkF m 34 #[.val (.ref a0), .val (.ref a1), .val (.int (3 : Int32))] [(.int (-1 : Int32))]))
   refine w_ifN X34 hx (d16_34 hby) (tlt (by decide : (-1 : Int32) < (0 : Int32))).2.1 (pc' := 37) rfl ?_
   refine w_iconst X34 hx (d16_37 hby) (v := (1 : Int32)) rfl (pc' := 38) rfl ?_
   refine w_goto X34 hx (d16_38 hby) (pc' := 42) (by decide) (by decide) ?_
   exact w_done X34 hlk (v := some (.int (1 : Int32))) e34 (fun h => by rw [hret] at h; cases h) (fun fs hr => retN X34 hx (t := .boolean) hret (by simp) (d16_42 hby) hr) (by decide) (by decide) (⟨rfl, N35, rfl⟩)
theorem ef_m14_40 (m : MethodId) (a0 : Addr) (a1 : Addr)  : entryFrame m #[(.ref a0), (.ref a1)] 3 = mkF m 0 #[.val (.ref a0), .val (.ref a1), .unset] [] := by first | (simp [entryFrame, mkF, argsToLocals, Value.category]; done) | rfl
def Q_m14_40 (Z : State) (a0 : Addr) (a1 : Addr) (jj0 : Int32) (jj1 : Addr) (jj2 : Addr) (jj3 : ClassId) (jj4 : Int32) (jj5 : List Int32) (jj6 : ClassId) (h0 : Heap) (n0 : Nat) (v : Option Value) (h : Heap) (L : List Loc) : Prop := v = some (.int (1 : Int32)) ∧ Fr n0 L ∧ h = h0
theorem rm_m14_40 (l : Launch) (Z : State) (aZ : Array Value) (hw : ∀ d ∈ tables_1, d.before aZ Z = true) (ws : List Jvm.Cond) (a0 : Addr) (a1 : Addr) (jj0 : Int32) (jj1 : Addr) (jj2 : Addr) (jj3 : ClassId) (jj4 : Int32) (jj5 : List Int32) (jj6 : ClassId) (h0 : Heap) (n0 : Nat) (Z0 : n0 ≤ h0.size) (E_a1 : Exa Z h0 a1 kc1) (zz7 : Fld Z h0 a0 kc1 "status" "I" (.int jj0)) (zz8 : Fld Z h0 a1 kc1 "status" "I" (.int jj0)) (zz9 : Fld Z h0 a0 kc1 "contentType" "Ljava/lang/String;" .null) (zz10 : Fld Z h0 a1 kc1 "contentType" "Ljava/lang/String;" .null) (zz11 : Fld Z h0 a0 kc1 "location" "Ljava/lang/String;" .null) (zz12 : Fld Z h0 a1 kc1 "location" "Ljava/lang/String;" .null) (zz13 : Fld Z h0 a0 kc1 "body" "[B" (.ref jj1)) (zz14 : Fld Z h0 a1 kc1 "body" "[B" (.ref jj2)) (zz15 : Arv Z h0 jj1 jj3 .byte jj4 (mI jj5) (.int (0 : Int32))) (zz16 : Arv Z h0 jj2 jj6 .byte jj4 (mI jj5) (.int (0 : Int32))) (zz17 : TB jj4 jj5) (zz18 : jj1 ≠ jj2) :
    MetN l Z yn_14 prog_12_method_6_code 3 (some .boolean) ws ({ frames := 2, cells := 0, slots := 0, locals := 29 } : Room) #[(.ref a0), (.ref a1)] h0 (Q_m14_40 Z a0 a1 jj0 jj1 jj2 jj3 jj4 jj5 jj6 h0 n0) := by
 refine MetN.of (plainFor_of_name pn_4) ?_
 intro p e s m below meth c s₁ hret hx hby hml hown hnm hlk hZ X0 e0
 have N0 := Fr.nil n0
 rw [ef_m14_40 m a0 a1]
 refine w_aloadN X0 hx (d14_0 hby) rfl rfl (pc' := 1) rfl ?_
 refine w_instY X0 hx hZ hown (wd_89 hw) e0 (Ins.self E_a1) (d14_1 hby) (pc' := 4) rfl ?_
 intro T20 X20 e20
 refine w_ifN X20 hx (d14_4 hby) (feq (by decide : ¬ ((1 : Int32) = (0 : Int32)))).1 (pc' := 7) rfl ?_
 refine w_aloadN X20 hx (d14_7 hby) rfl rfl (pc' := 8) rfl ?_
 refine w_castY X20 hx hZ hown (wd_89 hw) e20 (Ins.self E_a1) (d14_8 hby) (pc' := 11) rfl ?_
 intro T21 X21 e21
 refine w_astoreN X21 hx (d14_11 hby) rfl (L' := #[.val (.ref a0), .val (.ref a1), .val (.ref a1)]) rfl (pc' := 12) rfl ?_
 refine w_aloadN X21 hx (d14_12 hby) rfl rfl (pc' := 13) rfl ?_
 refine w_getF X21 hx "" hZ hown (Or.inl (wd_20 hw)) Via.refl e21 zz7 (d14_13 hby) (pc' := 16) rfl ?_
 intro T22 X22 e22
 refine w_aloadN X22 hx (d14_16 hby) rfl rfl (pc' := 17) rfl ?_
 refine w_getF X22 hx "" hZ hown (Or.inl (wd_20 hw)) Via.refl e22 zz8 (d14_17 hby) (pc' := 20) rfl ?_
 intro T23 X23 e23
 refine w_icN X23 hx (d14_20 hby) (teq (rfl : jj0 = jj0)).2 (pc' := 23) rfl ?_
 refine w_aloadN X23 hx (d14_23 hby) rfl rfl (pc' := 24) rfl ?_
 refine w_getF X23 hx "" hZ hown (Or.inl (wd_22 hw)) Via.refl e23 zz9 (d14_24 hby) (pc' := 27) rfl ?_
 intro T24 X24 e24
 refine w_aloadN X24 hx (d14_27 hby) rfl rfl (pc' := 28) rfl ?_
 refine w_getF X24 hx "" hZ hown (Or.inl (wd_22 hw)) Via.refl e24 zz10 (d14_28 hby) (pc' := 31) rfl ?_
 intro T25 X25 e25
 refine w_static X25 hx (y := yn_15) hown (mvT hZ (wd_91 hw)) (mvT hZ (wd_92 hw)) (mvT hZ (wd_35 hw)) (mvT hZ (wd_93 hw)) (by decide) (backOf (W := 0) (rm_m15_41 l Z aZ hw []  h0 n0 Z0 ) hZ (wd_93 hw) (wd_35 hw) (by decide) (by decide)) (by rw [hml]; rfl) [.null, .null] (lenOf pd_19 rfl) rfl (Nat.le_of_eq rfl) (d14_31 hby) (fun _ _ => ⟨rfl, e25, (by decide : 0 + 0 ≤ _), (by decide : 0 + 0 ≤ _)⟩) (pc' := 34) rfl ?_
 rintro _ _ ⟨T26, L26, k26, n26⟩ X26 ⟨Lc26, hQ26, l26, y26, z26⟩
 dsimp only [Pt.U, Pt.locs, Pt.cells, Pt.slots] at X26 l26 y26 z26 hQ26 ⊢
 subst l26 y26 z26
 obtain ⟨rfl, N26q, e26⟩ := hQ26
 have N27 := Fr.app N0 N26q
 show Runs _ _ _ _ (T26.setTop (mkF m 34 #[.val (.ref a0), .val (.ref a1), .val (.ref a1)] [(.int (1 : Int32))]))
 refine w_ifN X26 hx (d14_34 hby) (feq (by decide : ¬ ((1 : Int32) = (0 : Int32)))).1 (pc' := 37) rfl ?_
 refine w_aloadN X26 hx (d14_37 hby) rfl rfl (pc' := 38) rfl ?_
 refine w_getF X26 hx "" hZ hown (Or.inl (wd_24 hw)) Via.refl e26 zz11 (d14_38 hby) (pc' := 41) rfl ?_
 intro T28 X28 e28
 refine w_aloadN X28 hx (d14_41 hby) rfl rfl (pc' := 42) rfl ?_
 refine w_getF X28 hx "" hZ hown (Or.inl (wd_24 hw)) Via.refl e28 zz12 (d14_42 hby) (pc' := 45) rfl ?_
 intro T29 X29 e29
 refine w_static X29 hx (y := yn_15) hown (mvT hZ (wd_91 hw)) (mvT hZ (wd_92 hw)) (mvT hZ (wd_35 hw)) (mvT hZ (wd_93 hw)) (by decide) (backOf (W := 0) (rm_m15_41 l Z aZ hw []  h0 n0 Z0 ) hZ (wd_93 hw) (wd_35 hw) (by decide) (by decide)) (by rw [hml]; rfl) [.null, .null] (lenOf pd_19 rfl) rfl (Nat.le_of_eq rfl) (d14_45 hby) (fun _ _ => ⟨rfl, e29, (by decide : 0 + 0 ≤ _), (by decide : 0 + 0 ≤ _)⟩) (pc' := 48) rfl ?_
 rintro _ _ ⟨T30, L30, k30, n30⟩ X30 ⟨Lc30, hQ30, l30, y30, z30⟩
 dsimp only [Pt.U, Pt.locs, Pt.cells, Pt.slots] at X30 l30 y30 z30 hQ30 ⊢
 subst l30 y30 z30
 obtain ⟨rfl, N30q, e30⟩ := hQ30
 have N31 := Fr.app N27 N30q
 show Runs _ _ _ _ (T30.setTop (mkF m 48 #[.val (.ref a0), .val (.ref a1), .val (.ref a1)] [(.int (1 : Int32))]))
 refine w_ifN X30 hx (d14_48 hby) (feq (by decide : ¬ ((1 : Int32) = (0 : Int32)))).1 (pc' := 51) rfl ?_
 refine w_aloadN X30 hx (d14_51 hby) rfl rfl (pc' := 52) rfl ?_
 refine w_getF X30 hx "" hZ hown (Or.inl (wd_46 hw)) Via.refl e30 zz13 (d14_52 hby) (pc' := 55) rfl ?_
 intro T32 X32 e32
 refine w_aloadN X32 hx (d14_55 hby) rfl rfl (pc' := 56) rfl ?_
 refine w_getF X32 hx "" hZ hown (Or.inl (wd_46 hw)) Via.refl e32 zz14 (d14_56 hby) (pc' := 59) rfl ?_
 intro T33 X33 e33
 refine w_static X33 hx (y := yn_16) hown (mvT hZ (wd_94 hw)) (mvT hZ (wd_95 hw)) (mvT hZ (wd_65 hw)) (mvT hZ (wd_96 hw)) (by decide) (backOf (W := 0) (rm_m16_42 l Z aZ hw [] jj1 jj2 jj3 jj4 jj5 jj6 h0 n0 Z0 zz15 zz16 zz17 zz18) hZ (wd_96 hw) (wd_65 hw) (by decide) (by decide)) (by rw [hml]; rfl) [(.ref jj1), (.ref jj2)] (lenOf pd_21 rfl) rfl (Nat.le_of_eq rfl) (d14_59 hby) (fun _ _ => ⟨rfl, e33, (by decide : 0 + 0 ≤ _), (by decide : 0 + 0 ≤ _)⟩) (pc' := 62) rfl ?_
 rintro _ _ ⟨T34, L34, k34, n34⟩ X34 ⟨Lc34, hQ34, l34, y34, z34⟩
 dsimp only [Pt.U, Pt.locs, Pt.cells, Pt.slots] at X34 l34 y34 z34 hQ34 ⊢
 subst l34 y34 z34
 obtain ⟨rfl, N34q, e34⟩ := hQ34
 have N35 := Fr.app N31 N34q
 show Runs _ _ _ _ (T34.setTop (mkF m 62 #[.val (.ref a0), .val (.ref a1), .val (.ref a1)] [(.int (1 : Int32))]))
 refine w_ifN X34 hx (d14_62 hby) (feq (by decide : ¬ ((1 : Int32) = (0 : Int32)))).1 (pc' := 65) rfl ?_
 refine w_iconst X34 hx (d14_65 hby) (v := (1 : Int32)) rfl (pc' := 66) rfl ?_
 refine w_goto X34 hx (d14_66 hby) (pc' := 70) (by decide) (by decide) ?_
 exact w_done X34 hlk (v := some (.int (1 : Int32))) e34 (fun h => by rw [hret] at h; cases h) (fun fs hr => retN X34 hx (t := .boolean) hret (by simp) (d14_70 hby) hr) (by decide) (by decide) (⟨rfl, N35, rfl⟩)
theorem ef_m24_51 (m : MethodId) (a0 : Addr)  : entryFrame m #[(.ref a0)] 1 = mkF m 0 #[.val (.ref a0)] [] := by first | (simp [entryFrame, mkF, argsToLocals, Value.category]; done) | rfl
def Q_m24_51 (Z : State) (a0 : Addr) (jj0 : Int32) (h0 : Heap) (n0 : Nat) (v : Option Value) (h : Heap) (L : List Loc) : Prop := v = some (.int (1 : Int32)) ∧ Fr n0 L ∧ h = h0
theorem rm_m24_51 (l : Launch) (Z : State) (aZ : Array Value) (hw : ∀ d ∈ tables_1, d.before aZ Z = true) (ws : List Jvm.Cond) (a0 : Addr) (jj0 : Int32) (h0 : Heap) (n0 : Nat) (Z0 : n0 ≤ h0.size) (zz1 : Sta Z Z.heap kc0 "COMPACT_STRINGS" "Z" (.int jj0)) (O0 : Old Z n0 h0) (hP_2 : ¬ (jj0 = (0 : Int32))) (zz2 : Fld Z h0 a0 kc0 "coder" "B" (.int (0 : Int32))) :
    MetN l Z yn_24 jdk_42_method_154_code 1 (some .boolean) ws ({ frames := 0, cells := 0, slots := 0, locals := 0 } : Room) #[(.ref a0)] h0 (Q_m24_51 Z a0 jj0 h0 n0) := by
 refine MetN.of (plainFor_of_name pn_0) ?_
 intro p e s m below meth c s₁ hret hx hby hml hown hnm hlk hZ X0 e0
 have N0 := Fr.nil n0
 rw [ef_m24_51 m a0]
 refine w_getS X0 hx "" hZ hown (Or.inl (wd_111 hw)) Via.refl e0 (zz1.ext O0.2) (d24_0 hby) (pc' := 3) rfl ?_
 intro T20 X20 e20
 refine w_ifN X20 hx (d24_3 hby) (feq hP_2).1 (pc' := 6) rfl ?_
 refine w_aloadN X20 hx (d24_6 hby) rfl rfl (pc' := 7) rfl ?_
 refine w_getF X20 hx "" hZ hown (Or.inl (wd_122 hw)) Via.refl e20 zz2 (d24_7 hby) (pc' := 10) rfl ?_
 intro T21 X21 e21
 refine w_ifN X21 hx (d24_10 hby) (teq (by decide : (0 : Int32) = (0 : Int32))).2 (pc' := 13) rfl ?_
 refine w_iconst X21 hx (d24_13 hby) (v := (1 : Int32)) rfl (pc' := 14) rfl ?_
 refine w_goto X21 hx (d24_14 hby) (pc' := 18) (by decide) (by decide) ?_
 exact w_done X21 hlk (v := some (.int (1 : Int32))) e21 (fun h => by rw [hret] at h; cases h) (fun fs hr => retN X21 hx (t := .boolean) hret (by simp) (d24_18 hby) hr) (by decide) (by decide) (⟨rfl, N0, rfl⟩)
theorem ef_m27_54 (m : MethodId) (a1 : Addr)  : entryFrame m #[(.int (0 : Int32)), (.ref a1), (.int (0 : Int32)), (.int (2 : Int32))] 6 = mkF m 0 #[.val (.int (0 : Int32)), .val (.ref a1), .val (.int (0 : Int32)), .val (.int (2 : Int32)), .unset, .unset] [] := by first | (simp [entryFrame, mkF, argsToLocals, Value.category]; done) | rfl
def Q_m27_54 (Z : State) (a1 : Addr) (k_a1 : ClassId) (jj0 : Int32) (jj1 : Int32) (h0 : Heap) (n0 : Nat) (v : Option Value) (h : Heap) (L : List Loc) : Prop := v = some (.int (((31 : Int32) * ((0 : Int32) + (jj0 &&& (255 : Int32)))) + (jj1 &&& (255 : Int32)))) ∧ Fr n0 L ∧ h = h0
theorem rm_m27_54 (l : Launch) (Z : State) (aZ : Array Value) (hw : ∀ d ∈ tables_1, d.before aZ Z = true) (ws : List Jvm.Cond) (a1 : Addr) (k_a1 : ClassId) (jj0 : Int32) (jj1 : Int32) (h0 : Heap) (n0 : Nat) (Z0 : n0 ≤ h0.size) (V_a1 : Arv Z h0 a1 k_a1 .byte (2 : Int32) [(.int jj0), (.int jj1)] (.int (0 : Int32))) :
    MetN l Z yn_27 jdk_48_method_5_code 6 (some .int) ws ({ frames := 0, cells := 0, slots := 0, locals := 0 } : Room) #[(.int (0 : Int32)), (.ref a1), (.int (0 : Int32)), (.int (2 : Int32))] h0 (Q_m27_54 Z a1 k_a1 jj0 jj1 h0 n0) := by
 refine MetN.of (plainFor_of_name pn_7) ?_
 intro p e s m below meth c s₁ hret hx hby hml hown hnm hlk hZ X0 e0
 have N0 := Fr.nil n0
 rw [ef_m27_54 m a1]
 refine w_iloadN X0 hx (d27_0 hby) rfl (pc' := 1) rfl ?_
 refine w_iloadN X0 hx (d27_1 hby) rfl (pc' := 2) rfl ?_
 refine w_iadd X0 hx (d27_2 hby) (pc' := 3) rfl ?_
 rw [show ((0 : Int32) + (2 : Int32)) = (2 : Int32) from by decide]
 refine w_istore X0 hx (d27_3 hby) (L' := #[.val (.int (0 : Int32)), .val (.ref a1), .val (.int (0 : Int32)), .val (.int (2 : Int32)), .val (.int (2 : Int32)), .unset]) rfl (pc' := 5) rfl ?_
 refine w_iloadN X0 hx (d27_5 hby) rfl (pc' := 6) rfl ?_
 refine w_istore X0 hx (d27_6 hby) (L' := #[.val (.int (0 : Int32)), .val (.ref a1), .val (.int (0 : Int32)), .val (.int (2 : Int32)), .val (.int (2 : Int32)), .val (.int (0 : Int32))]) rfl (pc' := 8) rfl ?_
 refine w_iload X0 hx (d27_8 hby) rfl (pc' := 10) rfl ?_
 refine w_iload X0 hx (d27_10 hby) rfl (pc' := 12) rfl ?_
 refine w_icN X0 hx (d27_12 hby) (tlt (by decide : (0 : Int32) < (2 : Int32))).2.1 (pc' := 15) rfl ?_
 refine w_bipush X0 hx (d27_15 hby) (v := (31 : Int32)) rfl (pc' := 17) rfl ?_
 refine w_iloadN X0 hx (d27_17 hby) rfl (pc' := 18) rfl ?_
 refine w_imul X0 hx (d27_18 hby) (pc' := 19) rfl ?_
 rw [show ((31 : Int32) * (0 : Int32)) = (0 : Int32) from by decide]
 refine w_aloadN X0 hx (d27_19 hby) rfl rfl (pc' := 20) rfl ?_
 refine w_iload X0 hx (d27_20 hby) rfl (pc' := 22) rfl ?_
 obtain ⟨clu20, Aru20, qu20, Su20, Nu20, Hu20, Gu20⟩ := id V_a1
 have hinu20 := inb_of (j := (0 : Int32)) Su20 ⟨by decide, by decide⟩
 refine w_baload X0 hx hZ e0 Aru20 hinu20 (Hu20.at hinu20 rfl) (d27_22 hby) (pc' := 23) rfl ?_
 refine w_sipush X0 hx (d27_23 hby) (v := (255 : Int32)) rfl (pc' := 26) rfl ?_
 refine w_iand X0 hx (d27_26 hby) (pc' := 27) rfl ?_
 refine w_iadd X0 hx (d27_27 hby) (pc' := 28) rfl ?_
 refine w_istoreN X0 hx (d27_28 hby) (L' := #[.val (.int ((0 : Int32) + (jj0 &&& (255 : Int32)))), .val (.ref a1), .val (.int (0 : Int32)), .val (.int (2 : Int32)), .val (.int (2 : Int32)), .val (.int (0 : Int32))]) rfl (pc' := 29) rfl ?_
 refine w_iinc X0 hx (d27_29 hby) (v := (1 : Int32)) rfl rfl (L' := #[.val (.int ((0 : Int32) + (jj0 &&& (255 : Int32)))), .val (.ref a1), .val (.int (0 : Int32)), .val (.int (2 : Int32)), .val (.int (2 : Int32)), .val (.int ((0 : Int32) + (1 : Int32)))]) rfl (pc' := 32) rfl ?_
 rw [show ((0 : Int32) + (1 : Int32)) = (1 : Int32) from by decide]
 refine w_goto X0 hx (d27_32 hby) (pc' := 8) (by decide) (by decide) ?_
 refine w_iload X0 hx (d27_8 hby) rfl (pc' := 10) rfl ?_
 refine w_iload X0 hx (d27_10 hby) rfl (pc' := 12) rfl ?_
 refine w_icN X0 hx (d27_12 hby) (tlt (by decide : (1 : Int32) < (2 : Int32))).2.1 (pc' := 15) rfl ?_
 refine w_bipush X0 hx (d27_15 hby) (v := (31 : Int32)) rfl (pc' := 17) rfl ?_
 refine w_iloadN X0 hx (d27_17 hby) rfl (pc' := 18) rfl ?_
 refine w_imul X0 hx (d27_18 hby) (pc' := 19) rfl ?_
 refine w_aloadN X0 hx (d27_19 hby) rfl rfl (pc' := 20) rfl ?_
 refine w_iload X0 hx (d27_20 hby) rfl (pc' := 22) rfl ?_
 obtain ⟨clu21, Aru21, qu21, Su21, Nu21, Hu21, Gu21⟩ := id V_a1
 have hinu21 := inb_of (j := (1 : Int32)) Su21 ⟨by decide, by decide⟩
 refine w_baload X0 hx hZ e0 Aru21 hinu21 (Hu21.at hinu21 rfl) (d27_22 hby) (pc' := 23) rfl ?_
 refine w_sipush X0 hx (d27_23 hby) (v := (255 : Int32)) rfl (pc' := 26) rfl ?_
 refine w_iand X0 hx (d27_26 hby) (pc' := 27) rfl ?_
 refine w_iadd X0 hx (d27_27 hby) (pc' := 28) rfl ?_
 refine w_istoreN X0 hx (d27_28 hby) (L' := #[.val (.int (((31 : Int32) * ((0 : Int32) + (jj0 &&& (255 : Int32)))) + (jj1 &&& (255 : Int32)))), .val (.ref a1), .val (.int (0 : Int32)), .val (.int (2 : Int32)), .val (.int (2 : Int32)), .val (.int (1 : Int32))]) rfl (pc' := 29) rfl ?_
 refine w_iinc X0 hx (d27_29 hby) (v := (1 : Int32)) rfl rfl (L' := #[.val (.int (((31 : Int32) * ((0 : Int32) + (jj0 &&& (255 : Int32)))) + (jj1 &&& (255 : Int32)))), .val (.ref a1), .val (.int (0 : Int32)), .val (.int (2 : Int32)), .val (.int (2 : Int32)), .val (.int ((1 : Int32) + (1 : Int32)))]) rfl (pc' := 32) rfl ?_
 rw [show ((1 : Int32) + (1 : Int32)) = (2 : Int32) from by decide]
 refine w_goto X0 hx (d27_32 hby) (pc' := 8) (by decide) (by decide) ?_
 refine w_iload X0 hx (d27_8 hby) rfl (pc' := 10) rfl ?_
 refine w_iload X0 hx (d27_10 hby) rfl (pc' := 12) rfl ?_
 refine w_icY X0 hx (d27_12 hby) (flt (by decide : ¬ ((2 : Int32) < (2 : Int32)))).2.1 (pc' := 35) (by decide) (by decide) ?_
 refine w_iloadN X0 hx (d27_35 hby) rfl (pc' := 36) rfl ?_
 exact w_done X0 hlk (v := some (.int (((31 : Int32) * ((0 : Int32) + (jj0 &&& (255 : Int32)))) + (jj1 &&& (255 : Int32))))) e0 (fun h => by rw [hret] at h; cases h) (fun fs hr => retI X0 hx hret (d27_36 hby) hr) (by decide) (by decide) (⟨rfl, N0, rfl⟩)
theorem ef_m26_53 (m : MethodId) (a0 : Addr)  : entryFrame m #[(.ref a0), (.int (0 : Int32)), (.int (2 : Int32)), (.int (0 : Int32)), (.int (4 : Int32))] 5 = mkF m 0 #[.val (.ref a0), .val (.int (0 : Int32)), .val (.int (2 : Int32)), .val (.int (0 : Int32)), .val (.int (4 : Int32))] [] := by first | (simp [entryFrame, mkF, argsToLocals, Value.category]; done) | rfl
def Q_m26_53 (Z : State) (a0 : Addr) (k_a0 : ClassId) (jj0 : Int32) (jj1 : Int32) (h0 : Heap) (n0 : Nat) (v : Option Value) (h : Heap) (L : List Loc) : Prop := v = some (.int (((31 : Int32) * ((0 : Int32) + (jj0 &&& (255 : Int32)))) + (jj1 &&& (255 : Int32)))) ∧ Fr n0 L ∧ h = h0
theorem rm_m26_53 (l : Launch) (Z : State) (aZ : Array Value) (hw : ∀ d ∈ tables_1, d.before aZ Z = true) (ws : List Jvm.Cond) (a0 : Addr) (k_a0 : ClassId) (jj0 : Int32) (jj1 : Int32) (h0 : Heap) (n0 : Nat) (Z0 : n0 ≤ h0.size) (E_a0 : Exa Z h0 a0 "[B") (V_a0 : Arv Z h0 a0 k_a0 .byte (2 : Int32) [(.int jj0), (.int jj1)] (.int (0 : Int32))) :
    MetN l Z yn_26 jdk_48_method_4_code 5 (some .int) ws ({ frames := 1, cells := 0, slots := 0, locals := 17 } : Room) #[(.ref a0), (.int (0 : Int32)), (.int (2 : Int32)), (.int (0 : Int32)), (.int (4 : Int32))] h0 (Q_m26_53 Z a0 k_a0 jj0 jj1 h0 n0) := by
 refine MetN.of (plainFor_of_name pn_7) ?_
 intro p e s m below meth c s₁ hret hx hby hml hown hnm hlk hZ X0 e0
 have N0 := Fr.nil n0
 rw [ef_m26_53 m a0]
 refine w_iload X0 hx (d26_0 hby) rfl (pc' := 2) rfl ?_
 refine w_tswIn X0 hx (d26_2 hby) (by decide) (o := 42) rfl (pc' := 44) (by decide) (by decide) ?_
 refine w_iloadN X0 hx (d26_44 hby) rfl (pc' := 45) rfl ?_
 refine w_aloadN X0 hx (d26_45 hby) rfl rfl (pc' := 46) rfl ?_
 refine w_castY X0 hx hZ hown (wd_144 hw) e0 (Ins.self E_a0) (d26_46 hby) (pc' := 49) rfl ?_
 intro T20 X20 e20
 refine w_iloadN X20 hx (d26_49 hby) rfl (pc' := 50) rfl ?_
 refine w_iloadN X20 hx (d26_50 hby) rfl (pc' := 51) rfl ?_
 refine w_static X20 hx (y := yn_27) hown (mvT hZ (wd_145 hw)) (mvT hZ (wd_146 hw)) (mvT hZ (wd_99 hw)) (mvT hZ (wd_147 hw)) (by decide) (backOf (W := 0) (rm_m27_54 l Z aZ hw [] a0 k_a0 jj0 jj1 h0 n0 Z0 V_a0) hZ (wd_147 hw) (wd_99 hw) (by decide) (by decide)) (by rw [hml]; rfl) [(.int (0 : Int32)), (.ref a0), (.int (0 : Int32)), (.int (2 : Int32))] (lenOf pd_13 rfl) rfl (Nat.le_of_eq rfl) (d26_51 hby) (fun _ _ => ⟨rfl, e20, (by decide : 0 + 0 ≤ _), (by decide : 0 + 0 ≤ _)⟩) (pc' := 54) rfl ?_
 rintro _ _ ⟨T21, L21, k21, n21⟩ X21 ⟨Lc21, hQ21, l21, y21, z21⟩
 dsimp only [Pt.U, Pt.locs, Pt.cells, Pt.slots] at X21 l21 y21 z21 hQ21 ⊢
 subst l21 y21 z21
 obtain ⟨rfl, N21q, e21⟩ := hQ21
 have N22 := Fr.app N0 N21q
 show Runs _ _ _ _ (T21.setTop (mkF m 54 #[.val (.ref a0), .val (.int (0 : Int32)), .val (.int (2 : Int32)), .val (.int (0 : Int32)), .val (.int (4 : Int32))] [(.int (((31 : Int32) * ((0 : Int32) + (jj0 &&& (255 : Int32)))) + (jj1 &&& (255 : Int32))))]))
 refine w_goto X21 hx (d26_54 hby) (pc' := 157) (by decide) (by decide) ?_
 exact w_done X21 hlk (v := some (.int (((31 : Int32) * ((0 : Int32) + (jj0 &&& (255 : Int32)))) + (jj1 &&& (255 : Int32))))) e21 (fun h => by rw [hret] at h; cases h) (fun fs hr => retI X21 hx hret (d26_157 hby) hr) (by decide) (by decide) (⟨rfl, N22, rfl⟩)
theorem ef_m25_52 (m : MethodId) (a0 : Addr)  : entryFrame m #[(.ref a0)] 1 = mkF m 0 #[.val (.ref a0)] [] := by first | (simp [entryFrame, mkF, argsToLocals, Value.category]; done) | rfl
def Q_m25_52 (Z : State) (a0 : Addr) (k_a0 : ClassId) (jj0 : Int32) (l_a0 : List Int32) (h0 : Heap) (n0 : Nat) (v : Option Value) (h : Heap) (L : List Loc) : Prop := v = some (.int (hS l_a0)) ∧ Fr n0 L ∧ h = h0
theorem rm_m25_52 (l : Launch) (Z : State) (aZ : Array Value) (hw : ∀ d ∈ tables_1, d.before aZ Z = true) (ws : List Jvm.Cond) (a0 : Addr) (k_a0 : ClassId) (jj0 : Int32) (l_a0 : List Int32) (h0 : Heap) (n0 : Nat) (Z0 : n0 ≤ h0.size) (V_a0 : Arv Z h0 a0 k_a0 .byte jj0 (mI l_a0) (.int (0 : Int32))) (hX_1 : TS jj0 l_a0) (B_a0 : EB Z h0 a0 jj0) :
    MetN l Z yn_25 jdk_43_method_21_code 1 (some .int) ws ({ frames := 2, cells := 0, slots := 0, locals := 33 } : Room) #[(.ref a0)] h0 (Q_m25_52 Z a0 k_a0 jj0 l_a0 h0 n0) := by
 refine MetN.of (plainFor_of_name pn_9) ?_
 intro p e s m below meth c s₁ hret hx hby hml hown hnm hlk hZ X0 e0
 have N0 := Fr.nil n0
 rw [ef_m25_52 m a0]
 rcases hX_1 with ⟨rfl, rfl⟩ | ⟨x1, rfl, rfl⟩ | ⟨x1, x2, rfl, rfl⟩
 · have V20 : Arv Z h0 a0 k_a0 .byte (0 : Int32) [] (.int (0 : Int32)) := V_a0
   refine w_aloadN X0 hx (d25_0 hby) rfl rfl (pc' := 1) rfl ?_
   refine w_alen X0 hx hZ e0 V20 (d25_1 hby) (pc' := 2) rfl ?_
   refine w_lswHit X0 hx (d25_2 hby) (by decide) (a := 0) (o := 26) (by decide) (pc' := 28) (by decide) (by decide) ?_
   refine w_iconst X0 hx (d25_28 hby) (v := (0 : Int32)) rfl (pc' := 29) rfl ?_
   refine w_goto X0 hx (d25_29 hby) (pc' := 51) (by decide) (by decide) ?_
   exact w_done X0 hlk (v := some (.int (0 : Int32))) e0 (fun h => by rw [hret] at h; cases h) (fun fs hr => retI X0 hx hret (d25_51 hby) hr) (by decide) (by decide) (⟨(congrArg (fun z => some (Value.int z)) (show (0 : Int32) = (hS []) from rfl)), N0, rfl⟩)
 · have V21 : Arv Z h0 a0 k_a0 .byte (1 : Int32) [(.int x1)] (.int (0 : Int32)) := V_a0
   have E22 : Exa Z h0 a0 "[B" := Or.resolve_left B_a0 (by decide)
   refine w_aloadN X0 hx (d25_0 hby) rfl rfl (pc' := 1) rfl ?_
   refine w_alen X0 hx hZ e0 V21 (d25_1 hby) (pc' := 2) rfl ?_
   refine w_lswHit X0 hx (d25_2 hby) (by decide) (a := 1) (o := 30) (by decide) (pc' := 32) (by decide) (by decide) ?_
   refine w_aloadN X0 hx (d25_32 hby) rfl rfl (pc' := 33) rfl ?_
   refine w_iconst X0 hx (d25_33 hby) (v := (0 : Int32)) rfl (pc' := 34) rfl ?_
   obtain ⟨clu23, Aru23, qu23, Su23, Nu23, Hu23, Gu23⟩ := id V21
   have hinu23 := inb_of (j := (0 : Int32)) Su23 ⟨by decide, by decide⟩
   refine w_baload X0 hx hZ e0 Aru23 hinu23 (Hu23.at hinu23 rfl) (d25_34 hby) (pc' := 35) rfl ?_
   refine w_sipush X0 hx (d25_35 hby) (v := (255 : Int32)) rfl (pc' := 38) rfl ?_
   refine w_iand X0 hx (d25_38 hby) (pc' := 39) rfl ?_
   refine w_goto X0 hx (d25_39 hby) (pc' := 51) (by decide) (by decide) ?_
   exact w_done X0 hlk (v := some (.int (x1 &&& (255 : Int32)))) e0 (fun h => by rw [hret] at h; cases h) (fun fs hr => retI X0 hx hret (d25_51 hby) hr) (by decide) (by decide) (⟨(congrArg (fun z => some (Value.int z)) (show (x1 &&& (255 : Int32)) = (hS [x1]) from rfl)), N0, rfl⟩)
 · have V24 : Arv Z h0 a0 k_a0 .byte (2 : Int32) [(.int x1), (.int x2)] (.int (0 : Int32)) := V_a0
   have E25 : Exa Z h0 a0 "[B" := Or.resolve_left B_a0 (by decide)
   refine w_aloadN X0 hx (d25_0 hby) rfl rfl (pc' := 1) rfl ?_
   refine w_alen X0 hx hZ e0 V24 (d25_1 hby) (pc' := 2) rfl ?_
   refine w_lswMiss X0 hx (d25_2 hby) (by decide) (by decide) (pc' := 42) (by decide) (by decide) ?_
   refine w_aloadN X0 hx (d25_42 hby) rfl rfl (pc' := 43) rfl ?_
   refine w_iconst X0 hx (d25_43 hby) (v := (0 : Int32)) rfl (pc' := 44) rfl ?_
   refine w_aloadN X0 hx (d25_44 hby) rfl rfl (pc' := 45) rfl ?_
   refine w_alen X0 hx hZ e0 V24 (d25_45 hby) (pc' := 46) rfl ?_
   refine w_iconst X0 hx (d25_46 hby) (v := (0 : Int32)) rfl (pc' := 47) rfl ?_
   refine w_iconst X0 hx (d25_47 hby) (v := (4 : Int32)) rfl (pc' := 48) rfl ?_
   refine w_static X0 hx (y := yn_26) hown (mvT hZ (wd_141 hw)) (mvT hZ (wd_142 hw)) (mvT hZ (wd_99 hw)) (mvT hZ (wd_143 hw)) (by decide) (backOf (W := 0) (rm_m26_53 l Z aZ hw [] a0 k_a0 x1 x2 h0 n0 Z0 E25 V24) hZ (wd_143 hw) (wd_99 hw) (by decide) (by decide)) (by rw [hml]; rfl) [(.ref a0), (.int (0 : Int32)), (.int (2 : Int32)), (.int (0 : Int32)), (.int (4 : Int32))] (lenOf pd_14 rfl) rfl (Nat.le_of_eq rfl) (d25_48 hby) (fun _ _ => ⟨rfl, e0, (by decide : 0 + 0 ≤ _), (by decide : 0 + 0 ≤ _)⟩) (pc' := 51) rfl ?_
   rintro _ _ ⟨T26, L26, k26, n26⟩ X26 ⟨Lc26, hQ26, l26, y26, z26⟩
   dsimp only [Pt.U, Pt.locs, Pt.cells, Pt.slots] at X26 l26 y26 z26 hQ26 ⊢
   subst l26 y26 z26
   obtain ⟨rfl, N26q, e26⟩ := hQ26
   have N27 := Fr.app N0 N26q
   show Runs _ _ _ _ (T26.setTop (mkF m 51 #[.val (.ref a0)] [(.int (((31 : Int32) * ((0 : Int32) + (x1 &&& (255 : Int32)))) + (x2 &&& (255 : Int32))))]))
   exact w_done X26 hlk (v := some (.int (((31 : Int32) * ((0 : Int32) + (x1 &&& (255 : Int32)))) + (x2 &&& (255 : Int32))))) e26 (fun h => by rw [hret] at h; cases h) (fun fs hr => retI X26 hx hret (d25_51 hby) hr) (by decide) (by decide) (⟨(congrArg (fun z => some (Value.int z)) (show (((31 : Int32) * ((0 : Int32) + (x1 &&& (255 : Int32)))) + (x2 &&& (255 : Int32))) = (hS [x1, x2]) from rfl)), N27, rfl⟩)
theorem ef_m23_50 (m : MethodId) (a0 : Addr)  : entryFrame m #[(.ref a0)] 2 = mkF m 0 #[.val (.ref a0), .unset] [] := by first | (simp [entryFrame, mkF, argsToLocals, Value.category]; done) | rfl
def Q_m23_50 (Z : State) (a0 : Addr) (jj0 : Int32) (jj1 : Addr) (jj2 : ClassId) (jj3 : Int32) (jj4 : List Int32) (h0 : Heap) (n0 : Nat) (v : Option Value) (h : Heap) (L : List Loc) : Prop := v = some (.int (hS jj4)) ∧ Fr n0 L ∧ Keep h0 h [a0] ∧ Exa Z h a0 kc0 ∧ Fld Z h a0 kc0 "coder" "B" (.int (0 : Int32)) ∧ Fld Z h a0 kc0 "value" "[B" (.ref jj1) ∧ Fld Z h a0 kc0 "hash" "I" (.int (hS jj4)) ∧ Fld Z h a0 kc0 "hashIsZero" "Z" (.int (if (hS jj4) = (0 : Int32) then (1 : Int32) else (0 : Int32)))
theorem rm_m23_50 (l : Launch) (Z : State) (aZ : Array Value) (hw : ∀ d ∈ tables_1, d.before aZ Z = true) (ws : List Jvm.Cond) (a0 : Addr) (jj0 : Int32) (jj1 : Addr) (jj2 : ClassId) (jj3 : Int32) (jj4 : List Int32) (h0 : Heap) (n0 : Nat) (Z0 : n0 ≤ h0.size) (zz5 : Fld Z h0 a0 kc0 "hash" "I" (.int (0 : Int32))) (zz6 : Fld Z h0 a0 kc0 "hashIsZero" "Z" (.int (0 : Int32))) (E_a0 : Exa Z h0 a0 kc0) (hP_3 : ¬ (jj0 = (0 : Int32))) (zz7 : Fld Z h0 a0 kc0 "coder" "B" (.int (0 : Int32))) (zz8 : Sta Z Z.heap kc0 "COMPACT_STRINGS" "Z" (.int jj0)) (O0 : Old Z n0 h0) (zz9 : Fld Z h0 a0 kc0 "value" "[B" (.ref jj1)) (zz10 : Arv Z h0 jj1 jj2 .byte jj3 (mI jj4) (.int (0 : Int32))) (zz11 : EB Z h0 jj1 jj3) (zz12 : TS jj3 jj4) (zz13 : n0 ≤ a0) :
    MetN l Z yn_23 jdk_42_method_78_code 2 (some .int) ws ({ frames := 3, cells := 0, slots := 0, locals := 45 } : Room) #[(.ref a0)] h0 (Q_m23_50 Z a0 jj0 jj1 jj2 jj3 jj4 h0 n0) := by
 refine MetN.of (plainFor_of_name pn_0) ?_
 intro p e s m below meth c s₁ hret hx hby hml hown hnm hlk hZ X0 e0
 have N0 := Fr.nil n0
 rw [ef_m23_50 m a0]
 refine w_aloadN X0 hx (d23_0 hby) rfl rfl (pc' := 1) rfl ?_
 refine w_getF X0 hx "" hZ hown (Or.inl (wd_128 hw)) Via.refl e0 zz5 (d23_1 hby) (pc' := 4) rfl ?_
 intro T20 X20 e20
 refine w_istoreN X20 hx (d23_4 hby) (L' := #[.val (.ref a0), .val (.int (0 : Int32))]) rfl (pc' := 5) rfl ?_
 refine w_iloadN X20 hx (d23_5 hby) rfl (pc' := 6) rfl ?_
 refine w_ifN X20 hx (d23_6 hby) (teq (by decide : (0 : Int32) = (0 : Int32))).2 (pc' := 9) rfl ?_
 refine w_aloadN X20 hx (d23_9 hby) rfl rfl (pc' := 10) rfl ?_
 refine w_getF X20 hx "" hZ hown (Or.inl (wd_130 hw)) Via.refl e20 zz6 (d23_10 hby) (pc' := 13) rfl ?_
 intro T21 X21 e21
 refine w_ifN X21 hx (d23_13 hby) (teq (by decide : (0 : Int32) = (0 : Int32))).2 (pc' := 16) rfl ?_
 refine w_aloadN X21 hx (d23_16 hby) rfl rfl (pc' := 17) rfl ?_
 obtain ⟨cq22, kq22, q22a, q22b, q22c⟩ := isOf hZ e21 E_a0
 refine w_virtual X21 hx (y := yn_24) (z := yn_24) hown (mvT hZ (wd_132 hw)) (mvT hZ (wd_133 hw)) (notFace_of_selects (args := #[]) (mvT hZ (wd_135 hw))) (mvT hZ (wd_135 hw)) (mvT hZ (wd_134 hw)) (by decide) (backOf (W := 0) (rm_m24_51 l Z aZ hw [] a0 jj0 h0 n0 Z0 zz8 O0 hP_3 zz7) hZ (wd_136 hw) (wd_27 hw) (by decide) (by decide)) q22a q22c (by rw [hml]; rfl) [] (lenOf pd_23 rfl) rfl (Nat.le_of_eq rfl) (d23_17 hby) (fun _ _ => ⟨rfl, e21, (by decide : 0 + 0 ≤ _), (by decide : 0 + 0 ≤ _)⟩) (pc' := 20) rfl ?_
 rintro _ _ ⟨T22, L22, k22, n22⟩ X22 ⟨Lc22, hQ22, l22, y22, z22⟩
 dsimp only [Pt.U, Pt.locs, Pt.cells, Pt.slots] at X22 l22 y22 z22 hQ22 ⊢
 subst l22 y22 z22
 obtain ⟨rfl, N22q, e22⟩ := hQ22
 have N23 := Fr.app N0 N22q
 show Runs _ _ _ _ (T22.setTop (mkF m 20 #[.val (.ref a0), .val (.int (0 : Int32))] [(.int (1 : Int32))]))
 refine w_ifN X22 hx (d23_20 hby) (feq (by decide : ¬ ((1 : Int32) = (0 : Int32)))).1 (pc' := 23) rfl ?_
 refine w_aloadN X22 hx (d23_23 hby) rfl rfl (pc' := 24) rfl ?_
 refine w_getF X22 hx "" hZ hown (Or.inl (wd_123 hw)) Via.refl e22 zz9 (d23_24 hby) (pc' := 27) rfl ?_
 intro T24 X24 e24
 refine w_static X24 hx (y := yn_25) hown (mvT hZ (wd_137 hw)) (mvT hZ (wd_138 hw)) (mvT hZ (wd_139 hw)) (mvT hZ (wd_140 hw)) (by decide) (backOf (W := 0) (rm_m25_52 l Z aZ hw [] jj1 jj2 jj3 jj4 h0 n0 Z0 zz10 zz12 zz11) hZ (wd_140 hw) (wd_139 hw) (by decide) (by decide)) (by rw [hml]; rfl) [(.ref jj1)] (lenOf pd_15 rfl) rfl (Nat.le_of_eq rfl) (d23_27 hby) (fun _ _ => ⟨rfl, e24, (by decide : 0 + 0 ≤ _), (by decide : 0 + 0 ≤ _)⟩) (pc' := 30) rfl ?_
 rintro _ _ ⟨T25, L25, k25, n25⟩ X25 ⟨Lc25, hQ25, l25, y25, z25⟩
 dsimp only [Pt.U, Pt.locs, Pt.cells, Pt.slots] at X25 l25 y25 z25 hQ25 ⊢
 subst l25 y25 z25
 obtain ⟨rfl, N25q, e25⟩ := hQ25
 have N26 := Fr.app N23 N25q
 show Runs _ _ _ _ (T25.setTop (mkF m 30 #[.val (.ref a0), .val (.int (0 : Int32))] [(.int (hS jj4))]))
 refine w_goto X25 hx (d23_30 hby) (pc' := 40) (by decide) (by decide) ?_
 refine w_istoreN X25 hx (d23_40 hby) (L' := #[.val (.ref a0), .val (.int (hS jj4))]) rfl (pc' := 41) rfl ?_
 refine w_iloadN X25 hx (d23_41 hby) rfl (pc' := 42) rfl ?_
 by_cases hc27 : (hS jj4) = (0 : Int32)
 · refine w_ifN X25 hx (d23_42 hby) (teq hc27).2 (pc' := 45) rfl ?_
   refine w_aloadN X25 hx (d23_45 hby) rfl rfl (pc' := 46) rfl ?_
   refine w_iconst X25 hx (d23_46 hby) (v := (1 : Int32)) rfl (pc' := 47) rfl ?_
   refine w_putF X25 hx "" hZ hown (Or.inl (wd_130 hw)) Via.refl e25 zz6 E_a0 (Or.inl (wd_131 hw)) (wd_28 hw) (ty := .boolean) (by decide) rfl rfl (d23_47 hby) (pc' := 50) rfl ?_
   intro T28 h28 X28 e28 W28
   have f29 : Fld Z h28 a0 kc0 "hashIsZero" "Z" (.int (1 : Int32)) := zz6.same W28
   have K30 : Keep h0 h28 [a0] := (Keep.refl h0 [a0]).wr W28 (Or.inl (by simp))
   have N31 := Fr.snoc X28 N26 zz13
   refine w_goto X28 hx (d23_50 hby) (pc' := 58) (by decide) (by decide) ?_
   refine w_iloadN X28 hx (d23_58 hby) rfl (pc' := 59) rfl ?_
   have f32 : Exa Z h28 a0 kc0 := (E_a0.wr W28)
   have f33 : Fld Z h28 a0 kc0 "coder" "B" (.int (0 : Int32)) := (zz7.other W28 (Or.inr (slot_ne (Or.inr (wd_30 hw)) (Or.inl (wd_131 hw)) (by decide) (t := .byte) (t' := .boolean) (by decide) (by decide))))
   have f34 : Fld Z h28 a0 kc0 "value" "[B" (.ref jj1) := (zz9.other W28 (Or.inr (slot_ne (Or.inr (wd_29 hw)) (Or.inl (wd_131 hw)) (by decide) (t := (.array .byte)) (t' := .boolean) (by decide) (by decide))))
   have f35 : Fld Z h28 a0 kc0 "hash" "I" (.int (0 : Int32)) := (zz5.other W28 (Or.inr (slot_ne (Or.inl (wd_129 hw)) (Or.inl (wd_131 hw)) (by decide) (t := .int) (t' := .boolean) (by decide) (by decide))))
   exact w_done X28 hlk (v := some (.int (hS jj4))) e28 (fun h => by rw [hret] at h; cases h) (fun fs hr => retI X28 hx hret (d23_59 hby) hr) (by decide) (by decide) (⟨rfl, N31, K30, f32, f33, f34, (by have hq : (0 : Int32) = (hS jj4) := hc27.symm; rw [← hq]; exact f35), (by have hq : (1 : Int32) = (if (hS jj4) = (0 : Int32) then (1 : Int32) else (0 : Int32)) := (if_pos hc27).symm; rw [← hq]; exact f29)⟩)
 · refine w_ifY X25 hx (d23_42 hby) (feq hc27).2 (pc' := 53) (by decide) (by decide) ?_
   refine w_aloadN X25 hx (d23_53 hby) rfl rfl (pc' := 54) rfl ?_
   refine w_iloadN X25 hx (d23_54 hby) rfl (pc' := 55) rfl ?_
   refine w_putF X25 hx "" hZ hown (Or.inl (wd_128 hw)) Via.refl e25 zz5 E_a0 (Or.inl (wd_129 hw)) (wd_28 hw) (ty := .int) (by decide) rfl rfl (d23_55 hby) (pc' := 58) rfl ?_
   intro T36 h36 X36 e36 W36
   have f37 : Fld Z h36 a0 kc0 "hash" "I" (.int (hS jj4)) := zz5.same W36
   have K38 : Keep h0 h36 [a0] := (Keep.refl h0 [a0]).wr W36 (Or.inl (by simp))
   have N39 := Fr.snoc X36 N26 zz13
   refine w_iloadN X36 hx (d23_58 hby) rfl (pc' := 59) rfl ?_
   have f40 : Exa Z h36 a0 kc0 := (E_a0.wr W36)
   have f41 : Fld Z h36 a0 kc0 "coder" "B" (.int (0 : Int32)) := (zz7.other W36 (Or.inr (slot_ne (Or.inr (wd_30 hw)) (Or.inl (wd_129 hw)) (by decide) (t := .byte) (t' := .int) (by decide) (by decide))))
   have f42 : Fld Z h36 a0 kc0 "value" "[B" (.ref jj1) := (zz9.other W36 (Or.inr (slot_ne (Or.inr (wd_29 hw)) (Or.inl (wd_129 hw)) (by decide) (t := (.array .byte)) (t' := .int) (by decide) (by decide))))
   have f43 : Fld Z h36 a0 kc0 "hashIsZero" "Z" (.int (0 : Int32)) := (zz6.other W36 (Or.inr (slot_ne (Or.inl (wd_131 hw)) (Or.inl (wd_129 hw)) (by decide) (t := .boolean) (t' := .int) (by decide) (by decide))))
   exact w_done X36 hlk (v := some (.int (hS jj4))) e36 (fun h => by rw [hret] at h; cases h) (fun fs hr => retI X36 hx hret (d23_59 hby) hr) (by decide) (by decide) (⟨rfl, N39, K38, f40, f41, f42, f37, (by have hq : (0 : Int32) = (if (hS jj4) = (0 : Int32) then (1 : Int32) else (0 : Int32)) := (if_neg hc27).symm; rw [← hq]; exact f43)⟩)
theorem ef_m11_49 (m : MethodId) (a0 : Addr)  : entryFrame m #[(.ref a0)] 6 = mkF m 0 #[.val (.ref a0), .unset, .unset, .unset, .unset, .unset] [] := by first | (simp [entryFrame, mkF, argsToLocals, Value.category]; done) | rfl
def Q_m11_49 (Z : State) (a0 : Addr) (k_a0 : ClassId) (jj0 : Addr) (jj1 : Addr) (jj2 : Addr) (jj3 : Int32) (jj4 : Addr) (jj5 : ClassId) (jj6 : Int32) (jj7 : List Int32) (jj8 : Int32) (jj9 : Int32) (h0 : Heap) (n0 : Nat) (v : Option Value) (h : Heap) (L : List Loc) : Prop := v = some (.int (((31 : Int32) * (((31 : Int32) * (((31 : Int32) * ((31 : Int32) + jj3)) + (0 : Int32))) + (hS jj7))) + jj9)) ∧ Fr n0 L ∧ Keep h0 h [jj1] ∧ Exa Z h jj1 kc0 ∧ Fld Z h jj1 kc0 "hash" "I" (.int (hS jj7)) ∧ Fld Z h jj1 kc0 "hashIsZero" "Z" (.int (if (hS jj7) = (0 : Int32) then (1 : Int32) else (0 : Int32))) ∧ Fld Z h jj1 kc0 "coder" "B" (.int (0 : Int32)) ∧ Fld Z h jj1 kc0 "value" "[B" (.ref jj4)
theorem rm_m11_49 (l : Launch) (Z : State) (aZ : Array Value) (hw : ∀ d ∈ tables_1, d.before aZ Z = true) (ws : List Jvm.Cond) (a0 : Addr) (k_a0 : ClassId) (jj0 : Addr) (jj1 : Addr) (jj2 : Addr) (jj3 : Int32) (jj4 : Addr) (jj5 : ClassId) (jj6 : Int32) (jj7 : List Int32) (jj8 : Int32) (jj9 : Int32) (h0 : Heap) (n0 : Nat) (Z0 : n0 ≤ h0.size) (V_a0 : Arv Z h0 a0 k_a0 (.object kc3) (4 : Int32) [(.ref jj0), .null, (.ref jj1), (.ref jj2)] .null) (zz10 : Exa Z h0 jj0 kc2) (zz11 : Fld Z h0 jj0 kc2 "value" "I" (.int jj3)) (zz12 : Exa Z h0 jj1 kc0) (zz13 : Fld Z h0 jj1 kc0 "hash" "I" (.int (0 : Int32))) (zz14 : Fld Z h0 jj1 kc0 "hashIsZero" "Z" (.int (0 : Int32))) (zz15 : Fld Z h0 jj1 kc0 "coder" "B" (.int (0 : Int32))) (zz16 : Fld Z h0 jj1 kc0 "value" "[B" (.ref jj4)) (zz17 : Arv Z h0 jj4 jj5 .byte jj6 (mI jj7) (.int (0 : Int32))) (zz18 : EB Z h0 jj4 jj6) (zz19 : Sta Z Z.heap kc0 "COMPACT_STRINGS" "Z" (.int jj8)) (O0 : Old Z n0 h0) (zz20 : ¬ (jj8 = (0 : Int32))) (zz21 : TS jj6 jj7) (zz22 : n0 ≤ jj1) (zz23 : Exa Z h0 jj2 kc2) (zz24 : Fld Z h0 jj2 kc2 "value" "I" (.int jj9)) :
    MetN l Z yn_11 jdk_65_method_157_code 6 (some .int) ws ({ frames := 4, cells := 0, slots := 0, locals := 59 } : Room) #[(.ref a0)] h0 (Q_m11_49 Z a0 k_a0 jj0 jj1 jj2 jj3 jj4 jj5 jj6 jj7 jj8 jj9 h0 n0) := by
 refine MetN.of (plainFor_of_name pn_8) ?_
 intro p e s m below meth c s₁ hret hx hby hml hown hnm hlk hZ X0 e0
 have N0 := Fr.nil n0
 rw [ef_m11_49 m a0]
 refine w_aloadN X0 hx (d11_0 hby) rfl rfl (pc' := 1) rfl ?_
 refine w_ifnonnullY X0 hx (d11_1 hby) (pc' := 6) (by decide) (by decide) ?_
 refine w_iconst X0 hx (d11_6 hby) (v := (1 : Int32)) rfl (pc' := 7) rfl ?_
 refine w_istoreN X0 hx (d11_7 hby) (L' := #[.val (.ref a0), .val (.int (1 : Int32)), .unset, .unset, .unset, .unset]) rfl (pc' := 8) rfl ?_
 refine w_aloadN X0 hx (d11_8 hby) rfl rfl (pc' := 9) rfl ?_
 refine w_astoreN X0 hx (d11_9 hby) rfl (L' := #[.val (.ref a0), .val (.int (1 : Int32)), .val (.ref a0), .unset, .unset, .unset]) rfl (pc' := 10) rfl ?_
 refine w_aloadN X0 hx (d11_10 hby) rfl rfl (pc' := 11) rfl ?_
 refine w_alen X0 hx hZ e0 V_a0 (d11_11 hby) (pc' := 12) rfl ?_
 refine w_istoreN X0 hx (d11_12 hby) (L' := #[.val (.ref a0), .val (.int (1 : Int32)), .val (.ref a0), .val (.int (4 : Int32)), .unset, .unset]) rfl (pc' := 13) rfl ?_
 refine w_iconst X0 hx (d11_13 hby) (v := (0 : Int32)) rfl (pc' := 14) rfl ?_
 refine w_istore X0 hx (d11_14 hby) (L' := #[.val (.ref a0), .val (.int (1 : Int32)), .val (.ref a0), .val (.int (4 : Int32)), .val (.int (0 : Int32)), .unset]) rfl (pc' := 16) rfl ?_
 refine w_iload X0 hx (d11_16 hby) rfl (pc' := 18) rfl ?_
 refine w_iloadN X0 hx (d11_18 hby) rfl (pc' := 19) rfl ?_
 refine w_icN X0 hx (d11_19 hby) (tlt (by decide : (0 : Int32) < (4 : Int32))).2.1 (pc' := 22) rfl ?_
 refine w_aloadN X0 hx (d11_22 hby) rfl rfl (pc' := 23) rfl ?_
 refine w_iload X0 hx (d11_23 hby) rfl (pc' := 25) rfl ?_
 obtain ⟨clu20, Aru20, qu20, Su20, Nu20, Hu20, Gu20⟩ := id V_a0
 have hinu20 := inb_of (j := (0 : Int32)) Su20 ⟨by decide, by decide⟩
 refine w_aaload X0 hx hZ e0 Aru20 rfl hinu20 (Hu20.at hinu20 rfl) (d11_25 hby) (pc' := 26) rfl ?_
 refine w_astore X0 hx (d11_26 hby) rfl (L' := #[.val (.ref a0), .val (.int (1 : Int32)), .val (.ref a0), .val (.int (4 : Int32)), .val (.int (0 : Int32)), .val (.ref jj0)]) rfl (pc' := 28) rfl ?_
 refine w_bipush X0 hx (d11_28 hby) (v := (31 : Int32)) rfl (pc' := 30) rfl ?_
 refine w_iloadN X0 hx (d11_30 hby) rfl (pc' := 31) rfl ?_
 refine w_imul X0 hx (d11_31 hby) (pc' := 32) rfl ?_
 rw [show ((31 : Int32) * (1 : Int32)) = (31 : Int32) from by decide]
 refine w_aload X0 hx (d11_32 hby) rfl rfl (pc' := 34) rfl ?_
 refine w_ifnonnullY X0 hx (d11_34 hby) (pc' := 41) (by decide) (by decide) ?_
 refine w_aload X0 hx (d11_41 hby) rfl rfl (pc' := 43) rfl ?_
 obtain ⟨cq21, kq21, q21a, q21b, q21c⟩ := isOf hZ e0 zz10
 refine w_virtual X0 hx (y := (⟨kc3, "hashCode", "()I"⟩ : MethodName)) (z := yn_12) hown (mvT hZ (wd_73 hw)) (mvT hZ (wd_74 hw)) (own_nfS (args := #[]) (mvT hZ (wd_43 hw)) rfl) (mvT hZ (wd_76 hw)) (mvT hZ (wd_77 hw)) (by decide) (backOf (W := 1) (rm_m12_38 l Z aZ hw [] jj0 jj3 h0 n0 Z0 zz11) hZ (wd_78 hw) (wd_57 hw) (by decide) (by decide)) q21a q21c (by rw [hml]; rfl) [] (lenOf pd_17 rfl) rfl (Nat.le_of_eq rfl) (d11_43 hby) (fun _ _ => ⟨rfl, e0, (by decide : 0 + 0 ≤ _), (by decide : 0 + 0 ≤ _)⟩) (pc' := 46) rfl ?_
 rintro _ _ ⟨T21, L21, k21, n21⟩ X21 ⟨Lc21, hQ21, l21, y21, z21⟩
 dsimp only [Pt.U, Pt.locs, Pt.cells, Pt.slots] at X21 l21 y21 z21 hQ21 ⊢
 subst l21 y21 z21
 obtain ⟨rfl, N21q, e21⟩ := hQ21
 have N22 := Fr.app N0 N21q
 show Runs _ _ _ _ (T21.setTop (mkF m 46 #[.val (.ref a0), .val (.int (1 : Int32)), .val (.ref a0), .val (.int (4 : Int32)), .val (.int (0 : Int32)), .val (.ref jj0)] [(.int jj3), (.int (31 : Int32))]))
 refine w_iadd X21 hx (d11_46 hby) (pc' := 47) rfl ?_
 refine w_istoreN X21 hx (d11_47 hby) (L' := #[.val (.ref a0), .val (.int ((31 : Int32) + jj3)), .val (.ref a0), .val (.int (4 : Int32)), .val (.int (0 : Int32)), .val (.ref jj0)]) rfl (pc' := 48) rfl ?_
 refine w_iinc X21 hx (d11_48 hby) (v := (1 : Int32)) rfl rfl (L' := #[.val (.ref a0), .val (.int ((31 : Int32) + jj3)), .val (.ref a0), .val (.int (4 : Int32)), .val (.int ((0 : Int32) + (1 : Int32))), .val (.ref jj0)]) rfl (pc' := 51) rfl ?_
 rw [show ((0 : Int32) + (1 : Int32)) = (1 : Int32) from by decide]
 refine w_goto X21 hx (d11_51 hby) (pc' := 16) (by decide) (by decide) ?_
 refine w_iload X21 hx (d11_16 hby) rfl (pc' := 18) rfl ?_
 refine w_iloadN X21 hx (d11_18 hby) rfl (pc' := 19) rfl ?_
 refine w_icN X21 hx (d11_19 hby) (tlt (by decide : (1 : Int32) < (4 : Int32))).2.1 (pc' := 22) rfl ?_
 refine w_aloadN X21 hx (d11_22 hby) rfl rfl (pc' := 23) rfl ?_
 refine w_iload X21 hx (d11_23 hby) rfl (pc' := 25) rfl ?_
 obtain ⟨clu23, Aru23, qu23, Su23, Nu23, Hu23, Gu23⟩ := id V_a0
 have hinu23 := inb_of (j := (1 : Int32)) Su23 ⟨by decide, by decide⟩
 refine w_aaload X21 hx hZ e21 Aru23 rfl hinu23 (Hu23.at hinu23 rfl) (d11_25 hby) (pc' := 26) rfl ?_
 refine w_astore X21 hx (d11_26 hby) rfl (L' := #[.val (.ref a0), .val (.int ((31 : Int32) + jj3)), .val (.ref a0), .val (.int (4 : Int32)), .val (.int (1 : Int32)), .val .null]) rfl (pc' := 28) rfl ?_
 refine w_bipush X21 hx (d11_28 hby) (v := (31 : Int32)) rfl (pc' := 30) rfl ?_
 refine w_iloadN X21 hx (d11_30 hby) rfl (pc' := 31) rfl ?_
 refine w_imul X21 hx (d11_31 hby) (pc' := 32) rfl ?_
 refine w_aload X21 hx (d11_32 hby) rfl rfl (pc' := 34) rfl ?_
 refine w_ifnonnullN X21 hx (d11_34 hby) (pc' := 37) rfl ?_
 refine w_iconst X21 hx (d11_37 hby) (v := (0 : Int32)) rfl (pc' := 38) rfl ?_
 refine w_goto X21 hx (d11_38 hby) (pc' := 46) (by decide) (by decide) ?_
 refine w_iadd X21 hx (d11_46 hby) (pc' := 47) rfl ?_
 refine w_istoreN X21 hx (d11_47 hby) (L' := #[.val (.ref a0), .val (.int (((31 : Int32) * ((31 : Int32) + jj3)) + (0 : Int32))), .val (.ref a0), .val (.int (4 : Int32)), .val (.int (1 : Int32)), .val .null]) rfl (pc' := 48) rfl ?_
 refine w_iinc X21 hx (d11_48 hby) (v := (1 : Int32)) rfl rfl (L' := #[.val (.ref a0), .val (.int (((31 : Int32) * ((31 : Int32) + jj3)) + (0 : Int32))), .val (.ref a0), .val (.int (4 : Int32)), .val (.int ((1 : Int32) + (1 : Int32))), .val .null]) rfl (pc' := 51) rfl ?_
 rw [show ((1 : Int32) + (1 : Int32)) = (2 : Int32) from by decide]
 refine w_goto X21 hx (d11_51 hby) (pc' := 16) (by decide) (by decide) ?_
 refine w_iload X21 hx (d11_16 hby) rfl (pc' := 18) rfl ?_
 refine w_iloadN X21 hx (d11_18 hby) rfl (pc' := 19) rfl ?_
 refine w_icN X21 hx (d11_19 hby) (tlt (by decide : (2 : Int32) < (4 : Int32))).2.1 (pc' := 22) rfl ?_
 refine w_aloadN X21 hx (d11_22 hby) rfl rfl (pc' := 23) rfl ?_
 refine w_iload X21 hx (d11_23 hby) rfl (pc' := 25) rfl ?_
 obtain ⟨clu24, Aru24, qu24, Su24, Nu24, Hu24, Gu24⟩ := id V_a0
 have hinu24 := inb_of (j := (2 : Int32)) Su24 ⟨by decide, by decide⟩
 refine w_aaload X21 hx hZ e21 Aru24 rfl hinu24 (Hu24.at hinu24 rfl) (d11_25 hby) (pc' := 26) rfl ?_
 refine w_astore X21 hx (d11_26 hby) rfl (L' := #[.val (.ref a0), .val (.int (((31 : Int32) * ((31 : Int32) + jj3)) + (0 : Int32))), .val (.ref a0), .val (.int (4 : Int32)), .val (.int (2 : Int32)), .val (.ref jj1)]) rfl (pc' := 28) rfl ?_
 refine w_bipush X21 hx (d11_28 hby) (v := (31 : Int32)) rfl (pc' := 30) rfl ?_
 refine w_iloadN X21 hx (d11_30 hby) rfl (pc' := 31) rfl ?_
 refine w_imul X21 hx (d11_31 hby) (pc' := 32) rfl ?_
 refine w_aload X21 hx (d11_32 hby) rfl rfl (pc' := 34) rfl ?_
 refine w_ifnonnullY X21 hx (d11_34 hby) (pc' := 41) (by decide) (by decide) ?_
 refine w_aload X21 hx (d11_41 hby) rfl rfl (pc' := 43) rfl ?_
 obtain ⟨cq25, kq25, q25a, q25b, q25c⟩ := isOf hZ e21 zz12
 refine w_virtual X21 hx (y := (⟨kc3, "hashCode", "()I"⟩ : MethodName)) (z := yn_23) hown (mvT hZ (wd_73 hw)) (mvT hZ (wd_74 hw)) (own_nfS (args := #[]) (mvT hZ (wd_43 hw)) rfl) (mvT hZ (wd_125 hw)) (mvT hZ (wd_126 hw)) (by decide) (backOf (W := 1) (rm_m23_50 l Z aZ hw [] jj1 jj8 jj4 jj5 jj6 jj7 h0 n0 Z0 zz13 zz14 zz12 zz20 zz15 zz19 O0 zz16 zz17 zz18 zz21 zz22) hZ (wd_127 hw) (wd_27 hw) (by decide) (by decide)) q25a q25c (by rw [hml]; rfl) [] (lenOf pd_17 rfl) rfl (Nat.le_of_eq rfl) (d11_43 hby) (fun _ _ => ⟨rfl, e21, (by decide : 0 + 0 ≤ _), (by decide : 0 + 0 ≤ _)⟩) (pc' := 46) rfl ?_
 rintro _ _ ⟨T25, L25, k25, n25⟩ X25 ⟨Lc25, hQ25, l25, y25, z25⟩
 dsimp only [Pt.U, Pt.locs, Pt.cells, Pt.slots] at X25 l25 y25 z25 hQ25 ⊢
 subst l25 y25 z25
 obtain ⟨rfl, N25q, K25, g25_0, g25_1, g25_2, g25_3, g25_4⟩ := hQ25
 have N26 := Fr.app N22 N25q
 have K27 : Keep h0 T25.heap [jj1] := (Keep.refl h0 [jj1]).trans K25 (allS (Or.inl (by simp)) (all0 (P := fun x => x ∈ [jj1] ∨ h0.size ≤ x)))
 show Runs _ _ _ _ (T25.setTop (mkF m 46 #[.val (.ref a0), .val (.int (((31 : Int32) * ((31 : Int32) + jj3)) + (0 : Int32))), .val (.ref a0), .val (.int (4 : Int32)), .val (.int (2 : Int32)), .val (.ref jj1)] [(.int (hS jj7)), (.int ((31 : Int32) * (((31 : Int32) * ((31 : Int32) + jj3)) + (0 : Int32))))]))
 refine w_iadd X25 hx (d11_46 hby) (pc' := 47) rfl ?_
 refine w_istoreN X25 hx (d11_47 hby) (L' := #[.val (.ref a0), .val (.int (((31 : Int32) * (((31 : Int32) * ((31 : Int32) + jj3)) + (0 : Int32))) + (hS jj7))), .val (.ref a0), .val (.int (4 : Int32)), .val (.int (2 : Int32)), .val (.ref jj1)]) rfl (pc' := 48) rfl ?_
 refine w_iinc X25 hx (d11_48 hby) (v := (1 : Int32)) rfl rfl (L' := #[.val (.ref a0), .val (.int (((31 : Int32) * (((31 : Int32) * ((31 : Int32) + jj3)) + (0 : Int32))) + (hS jj7))), .val (.ref a0), .val (.int (4 : Int32)), .val (.int ((2 : Int32) + (1 : Int32))), .val (.ref jj1)]) rfl (pc' := 51) rfl ?_
 rw [show ((2 : Int32) + (1 : Int32)) = (3 : Int32) from by decide]
 refine w_goto X25 hx (d11_51 hby) (pc' := 16) (by decide) (by decide) ?_
 refine w_iload X25 hx (d11_16 hby) rfl (pc' := 18) rfl ?_
 refine w_iloadN X25 hx (d11_18 hby) rfl (pc' := 19) rfl ?_
 refine w_icN X25 hx (d11_19 hby) (tlt (by decide : (3 : Int32) < (4 : Int32))).2.1 (pc' := 22) rfl ?_
 refine w_aloadN X25 hx (d11_22 hby) rfl rfl (pc' := 23) rfl ?_
 refine w_iload X25 hx (d11_23 hby) rfl (pc' := 25) rfl ?_
 have ne28 : jj1 ≠ a0 := Exa.neArv zz12 V_a0 (wd_28 hw)
 have f29 : Arv Z T25.heap a0 k_a0 (.object kc3) (4 : Int32) [(.ref jj0), .null, (.ref jj1), (.ref jj2)] .null := (V_a0.keep K25 (ninS (Ne.symm ne28) nin0))
 obtain ⟨clu30, Aru30, qu30, Su30, Nu30, Hu30, Gu30⟩ := id f29
 have hinu30 := inb_of (j := (3 : Int32)) Su30 ⟨by decide, by decide⟩
 refine w_aaload X25 hx hZ rfl Aru30 rfl hinu30 (Hu30.at hinu30 rfl) (d11_25 hby) (pc' := 26) rfl ?_
 refine w_astore X25 hx (d11_26 hby) rfl (L' := #[.val (.ref a0), .val (.int (((31 : Int32) * (((31 : Int32) * ((31 : Int32) + jj3)) + (0 : Int32))) + (hS jj7))), .val (.ref a0), .val (.int (4 : Int32)), .val (.int (3 : Int32)), .val (.ref jj2)]) rfl (pc' := 28) rfl ?_
 refine w_bipush X25 hx (d11_28 hby) (v := (31 : Int32)) rfl (pc' := 30) rfl ?_
 refine w_iloadN X25 hx (d11_30 hby) rfl (pc' := 31) rfl ?_
 refine w_imul X25 hx (d11_31 hby) (pc' := 32) rfl ?_
 refine w_aload X25 hx (d11_32 hby) rfl rfl (pc' := 34) rfl ?_
 refine w_ifnonnullY X25 hx (d11_34 hby) (pc' := 41) (by decide) (by decide) ?_
 refine w_aload X25 hx (d11_41 hby) rfl rfl (pc' := 43) rfl ?_
 have f32 : Exa Z T25.heap jj2 kc2 := (zz23.keep K25)
 have ne31 : jj2 ≠ jj1 := ne_exa f32 g25_0 (by decide)
 have f33 : Fld Z T25.heap jj2 kc2 "value" "I" (.int jj9) := (zz24.keep K25 (ninS ne31 nin0))
 obtain ⟨cq34, kq34, q34a, q34b, q34c⟩ := isOf hZ rfl f32
 refine w_virtual X25 hx (y := (⟨kc3, "hashCode", "()I"⟩ : MethodName)) (z := yn_12) hown (mvT hZ (wd_73 hw)) (mvT hZ (wd_74 hw)) (own_nfS (args := #[]) (mvT hZ (wd_43 hw)) rfl) (mvT hZ (wd_76 hw)) (mvT hZ (wd_77 hw)) (by decide) (backOf (W := 1) (rm_m12_38 l Z aZ hw [] jj2 jj9 T25.heap n0 (Nat.le_trans Z0 K25.1) f33) hZ (wd_78 hw) (wd_57 hw) (by decide) (by decide)) q34a q34c (by rw [hml]; rfl) [] (lenOf pd_17 rfl) rfl (Nat.le_of_eq rfl) (d11_43 hby) (fun _ _ => ⟨rfl, rfl, (by decide : 0 + 0 ≤ _), (by decide : 0 + 0 ≤ _)⟩) (pc' := 46) rfl ?_
 rintro _ _ ⟨T34, L34, k34, n34⟩ X34 ⟨Lc34, hQ34, l34, y34, z34⟩
 dsimp only [Pt.U, Pt.locs, Pt.cells, Pt.slots] at X34 l34 y34 z34 hQ34 ⊢
 subst l34 y34 z34
 obtain ⟨rfl, N34q, e34⟩ := hQ34
 have N35 := Fr.app N26 N34q
 show Runs _ _ _ _ (T34.setTop (mkF m 46 #[.val (.ref a0), .val (.int (((31 : Int32) * (((31 : Int32) * ((31 : Int32) + jj3)) + (0 : Int32))) + (hS jj7))), .val (.ref a0), .val (.int (4 : Int32)), .val (.int (3 : Int32)), .val (.ref jj2)] [(.int jj9), (.int ((31 : Int32) * (((31 : Int32) * (((31 : Int32) * ((31 : Int32) + jj3)) + (0 : Int32))) + (hS jj7))))]))
 refine w_iadd X34 hx (d11_46 hby) (pc' := 47) rfl ?_
 refine w_istoreN X34 hx (d11_47 hby) (L' := #[.val (.ref a0), .val (.int (((31 : Int32) * (((31 : Int32) * (((31 : Int32) * ((31 : Int32) + jj3)) + (0 : Int32))) + (hS jj7))) + jj9)), .val (.ref a0), .val (.int (4 : Int32)), .val (.int (3 : Int32)), .val (.ref jj2)]) rfl (pc' := 48) rfl ?_
 refine w_iinc X34 hx (d11_48 hby) (v := (1 : Int32)) rfl rfl (L' := #[.val (.ref a0), .val (.int (((31 : Int32) * (((31 : Int32) * (((31 : Int32) * ((31 : Int32) + jj3)) + (0 : Int32))) + (hS jj7))) + jj9)), .val (.ref a0), .val (.int (4 : Int32)), .val (.int ((3 : Int32) + (1 : Int32))), .val (.ref jj2)]) rfl (pc' := 51) rfl ?_
 rw [show ((3 : Int32) + (1 : Int32)) = (4 : Int32) from by decide]
 refine w_goto X34 hx (d11_51 hby) (pc' := 16) (by decide) (by decide) ?_
 refine w_iload X34 hx (d11_16 hby) rfl (pc' := 18) rfl ?_
 refine w_iloadN X34 hx (d11_18 hby) rfl (pc' := 19) rfl ?_
 refine w_icY X34 hx (d11_19 hby) (flt (by decide : ¬ ((4 : Int32) < (4 : Int32)))).2.1 (pc' := 54) (by decide) (by decide) ?_
 refine w_iloadN X34 hx (d11_54 hby) rfl (pc' := 55) rfl ?_
 exact w_done X34 hlk (v := some (.int (((31 : Int32) * (((31 : Int32) * (((31 : Int32) * ((31 : Int32) + jj3)) + (0 : Int32))) + (hS jj7))) + jj9))) e34 (fun h => by rw [hret] at h; cases h) (fun fs hr => retI X34 hx hret (d11_55 hby) hr) (by decide) (by decide) (⟨rfl, N35, K27, g25_0, g25_3, g25_4, g25_1, g25_2⟩)
theorem ef_m10_48 (m : MethodId) (a0 : Addr)  : entryFrame m #[(.ref a0)] 1 = mkF m 0 #[.val (.ref a0)] [] := by first | (simp [entryFrame, mkF, argsToLocals, Value.category]; done) | rfl
def Q_m10_48 (Z : State) (a0 : Addr) (k_a0 : ClassId) (jj0 : Addr) (jj1 : Addr) (jj2 : Addr) (jj3 : Int32) (jj4 : Addr) (jj5 : ClassId) (jj6 : Int32) (jj7 : List Int32) (jj8 : Int32) (jj9 : Int32) (h0 : Heap) (n0 : Nat) (v : Option Value) (h : Heap) (L : List Loc) : Prop := v = some (.int (((31 : Int32) * (((31 : Int32) * (((31 : Int32) * ((31 : Int32) + jj3)) + (0 : Int32))) + (hS jj7))) + jj8)) ∧ Fr n0 L ∧ Keep h0 h [jj1] ∧ Exa Z h jj1 kc0 ∧ Fld Z h jj1 kc0 "hash" "I" (.int (hS jj7)) ∧ Fld Z h jj1 kc0 "hashIsZero" "Z" (.int (if (hS jj7) = (0 : Int32) then (1 : Int32) else (0 : Int32))) ∧ Fld Z h jj1 kc0 "coder" "B" (.int (0 : Int32)) ∧ Fld Z h jj1 kc0 "value" "[B" (.ref jj4)
theorem rm_m10_48 (l : Launch) (Z : State) (aZ : Array Value) (hw : ∀ d ∈ tables_1, d.before aZ Z = true) (ws : List Jvm.Cond) (a0 : Addr) (k_a0 : ClassId) (jj0 : Addr) (jj1 : Addr) (jj2 : Addr) (jj3 : Int32) (jj4 : Addr) (jj5 : ClassId) (jj6 : Int32) (jj7 : List Int32) (jj8 : Int32) (jj9 : Int32) (h0 : Heap) (n0 : Nat) (Z0 : n0 ≤ h0.size) (V_a0 : Arv Z h0 a0 k_a0 (.object kc3) (4 : Int32) [(.ref jj0), .null, (.ref jj1), (.ref jj2)] .null) (zz10 : Exa Z h0 jj0 kc2) (zz11 : Fld Z h0 jj0 kc2 "value" "I" (.int jj3)) (zz12 : Exa Z h0 jj1 kc0) (zz13 : Fld Z h0 jj1 kc0 "hash" "I" (.int (0 : Int32))) (zz14 : Fld Z h0 jj1 kc0 "hashIsZero" "Z" (.int (0 : Int32))) (zz15 : Fld Z h0 jj1 kc0 "coder" "B" (.int (0 : Int32))) (zz16 : Fld Z h0 jj1 kc0 "value" "[B" (.ref jj4)) (zz17 : Arv Z h0 jj4 jj5 .byte jj6 (mI jj7) (.int (0 : Int32))) (zz18 : EB Z h0 jj4 jj6) (zz19 : Exa Z h0 jj2 kc2) (zz20 : Fld Z h0 jj2 kc2 "value" "I" (.int jj8)) (zz21 : Sta Z Z.heap kc0 "COMPACT_STRINGS" "Z" (.int jj9)) (O0 : Old Z n0 h0) (zz22 : ¬ (jj9 = (0 : Int32))) (zz23 : TS jj6 jj7) (zz24 : n0 ≤ jj1) :
    MetN l Z yn_10 jdk_31_method_5_code 1 (some .int) ws ({ frames := 5, cells := 0, slots := 0, locals := 76 } : Room) #[(.ref a0)] h0 (Q_m10_48 Z a0 k_a0 jj0 jj1 jj2 jj3 jj4 jj5 jj6 jj7 jj8 jj9 h0 n0) := by
 refine MetN.of (plainFor_of_name pn_3) ?_
 intro p e s m below meth c s₁ hret hx hby hml hown hnm hlk hZ X0 e0
 have N0 := Fr.nil n0
 rw [ef_m10_48 m a0]
 refine w_aloadN X0 hx (d10_0 hby) rfl rfl (pc' := 1) rfl ?_
 refine w_static X0 hx (y := yn_11) hown (mvT hZ (wd_70 hw)) (mvT hZ (wd_71 hw)) (mvT hZ (wd_65 hw)) (mvT hZ (wd_72 hw)) (by decide) (backOf (W := 0) (rm_m11_49 l Z aZ hw [] a0 k_a0 jj0 jj1 jj2 jj3 jj4 jj5 jj6 jj7 jj9 jj8 h0 n0 Z0 V_a0 zz10 zz11 zz12 zz13 zz14 zz15 zz16 zz17 zz18 zz21 O0 zz22 zz23 zz24 zz19 zz20) hZ (wd_72 hw) (wd_65 hw) (by decide) (by decide)) (by rw [hml]; rfl) [(.ref a0)] (lenOf pd_18 rfl) rfl (Nat.le_of_eq rfl) (d10_1 hby) (fun _ _ => ⟨rfl, e0, (by decide : 0 + 0 ≤ _), (by decide : 0 + 0 ≤ _)⟩) (pc' := 4) rfl ?_
 rintro _ _ ⟨T20, L20, k20, n20⟩ X20 ⟨Lc20, hQ20, l20, y20, z20⟩
 dsimp only [Pt.U, Pt.locs, Pt.cells, Pt.slots] at X20 l20 y20 z20 hQ20 ⊢
 subst l20 y20 z20
 obtain ⟨rfl, N20q, K20, g20_0, g20_1, g20_2, g20_3, g20_4⟩ := hQ20
 have N21 := Fr.app N0 N20q
 have K22 : Keep h0 T20.heap [jj1] := (Keep.refl h0 [jj1]).trans K20 (allS (Or.inl (by simp)) (all0 (P := fun x => x ∈ [jj1] ∨ h0.size ≤ x)))
 show Runs _ _ _ _ (T20.setTop (mkF m 4 #[.val (.ref a0)] [(.int (((31 : Int32) * (((31 : Int32) * (((31 : Int32) * ((31 : Int32) + jj3)) + (0 : Int32))) + (hS jj7))) + jj8))]))
 exact w_done X20 hlk (v := some (.int (((31 : Int32) * (((31 : Int32) * (((31 : Int32) * ((31 : Int32) + jj3)) + (0 : Int32))) + (hS jj7))) + jj8))) rfl (fun h => by rw [hret] at h; cases h) (fun fs hr => retI X20 hx hret (d10_4 hby) hr) (by decide) (by decide) (⟨rfl, N21, K22, g20_0, g20_1, g20_2, g20_3, g20_4⟩)
theorem ef_m7_47 (m : MethodId) (a0 : Addr)  : entryFrame m #[(.ref a0)] 1 = mkF m 0 #[.val (.ref a0)] [] := by first | (simp [entryFrame, mkF, argsToLocals, Value.category]; done) | rfl
def Q_m7_47 (Z : State) (a0 : Addr) (jj0 : Int32) (jj1 : Addr) (jj2 : Cell) (jj3 : Addr) (jj4 : Addr) (jj5 : ClassId) (jj6 : Int32) (jj7 : List Int32) (jj8 : Addr) (jj9 : ClassId) (jj10 : Int32) (jj11 : List Int32) (jj12 : Int32) (h0 : Heap) (n0 : Nat) (v : Option Value) (h : Heap) (L : List Loc) : Prop := v = some (.int (((31 : Int32) * (((31 : Int32) * (((31 : Int32) * ((31 : Int32) + jj0)) + (0 : Int32))) + (hS jj11))) + (hB jj7))) ∧ Fr n0 L ∧ Keep h0 h [jj3] ∧ Exa Z h jj3 kc0 ∧ Fld Z h jj3 kc0 "hash" "I" (.int (hS jj11)) ∧ Fld Z h jj3 kc0 "hashIsZero" "Z" (.int (if (hS jj11) = (0 : Int32) then (1 : Int32) else (0 : Int32))) ∧ Fld Z h jj3 kc0 "coder" "B" (.int (0 : Int32)) ∧ Fld Z h jj3 kc0 "value" "[B" (.ref jj8)
theorem rm_m7_47 (l : Launch) (Z : State) (aZ : Array Value) (hw : ∀ d ∈ tables_1, d.before aZ Z = true) (ws : List Jvm.Cond) (a0 : Addr) (jj0 : Int32) (jj1 : Addr) (jj2 : Cell) (jj3 : Addr) (jj4 : Addr) (jj5 : ClassId) (jj6 : Int32) (jj7 : List Int32) (jj8 : Addr) (jj9 : ClassId) (jj10 : Int32) (jj11 : List Int32) (jj12 : Int32) (h0 : Heap) (n0 : Nat) (Z0 : n0 ≤ h0.size) (zz13 : Fld Z h0 a0 kc1 "status" "I" (.int jj0)) (zz14 : Sta Z Z.heap kc4 "high" "I" (.int (127 : Int32))) (O0 : Old Z n0 h0) (zz15 : Sta Z Z.heap kc4 "cache" "[Ljava/lang/Integer;" (.ref jj1)) (zz16 : Bxs Z jj1 jj2 kc2 "I" (256 : Int32) (fun j => .int (j - 128))) (zz17 : Fld Z h0 a0 kc1 "contentType" "Ljava/lang/String;" .null) (zz18 : Fld Z h0 a0 kc1 "location" "Ljava/lang/String;" (.ref jj3)) (zz19 : Exa Z h0 jj3 kc0) (zz20 : Fld Z h0 a0 kc1 "body" "[B" (.ref jj4)) (zz21 : Arv Z h0 jj4 jj5 .byte jj6 (mI jj7) (.int (0 : Int32))) (zz22 : Exa Z h0 jj4 "[B") (zz23 : TB jj6 jj7) (zz24 : Fld Z h0 jj3 kc0 "hash" "I" (.int (0 : Int32))) (zz25 : Fld Z h0 jj3 kc0 "hashIsZero" "Z" (.int (0 : Int32))) (zz26 : Fld Z h0 jj3 kc0 "coder" "B" (.int (0 : Int32))) (zz27 : Fld Z h0 jj3 kc0 "value" "[B" (.ref jj8)) (zz28 : Arv Z h0 jj8 jj9 .byte jj10 (mI jj11) (.int (0 : Int32))) (zz29 : EB Z h0 jj8 jj10) (zz30 : Sta Z Z.heap kc0 "COMPACT_STRINGS" "Z" (.int jj12)) (zz31 : ¬ (jj12 = (0 : Int32))) (zz32 : TS jj10 jj11) (zz33 : n0 ≤ jj3) :
    MetN l Z yn_7 prog_12_method_7_code 1 (some .int) ws ({ frames := 6, cells := 3, slots := 6, locals := 88 } : Room) #[(.ref a0)] h0 (Q_m7_47 Z a0 jj0 jj1 jj2 jj3 jj4 jj5 jj6 jj7 jj8 jj9 jj10 jj11 jj12 h0 n0) := by
 refine MetN.of (plainFor_of_name pn_4) ?_
 intro p e s m below meth c s₁ hret hx hby hml hown hnm hlk hZ X0 e0
 have N0 := Fr.nil n0
 rw [ef_m7_47 m a0]
 refine w_iconst X0 hx (d7_0 hby) (v := (4 : Int32)) rfl (pc' := 1) rfl ?_
 refine w_newR X0 hx 4 "[Ljava/lang/Object;" hZ hown (wd_53 hw) (wd_54 hw) e0 (d7_1 hby) (by decide) (by decide) (by decide) (by decide) (by decide) (by decide +kernel) (pc' := 4) rfl ?_
 intro T20 h20 k20 b20 X20 e20 E20 g20 A20 Q20 O20
 have ge21 : n0 ≤ b20 := Nat.le_trans Z0 (Nat.le_of_eq g20.symm)
 have sz22 : h0.size ≤ b20 := Nat.le_trans (Nat.le_refl _) (Nat.le_of_eq g20.symm)
 have K23 : Keep h0 h20 [jj3] := (Keep.refl h0 [jj3]).ext E20
 have V24 : Arv Z h20 b20 k20 (.object kc3) (4 : Int32) [.null, .null, .null, .null] .null := (Arv.new A20 (by decide)).pad (pad_rep [] .null 4)
 refine w_dup X20 hx (d7_4 hby) rfl (pc' := 5) rfl ?_
 refine w_iconst X20 hx (d7_5 hby) (v := (0 : Int32)) rfl (pc' := 6) rfl ?_
 refine w_aloadN X20 hx (d7_6 hby) rfl rfl (pc' := 7) rfl ?_
 have f25 : Fld Z h20 a0 kc1 "status" "I" (.int jj0) := (zz13.ext E20)
 refine w_getF X20 hx "" hZ hown (Or.inl (wd_20 hw)) Via.refl e20 f25 (d7_7 hby) (pc' := 10) rfl ?_
 intro T26 X26 e26
 have f27 : Old Z n0 h20 := (O0.ext E20)
 refine w_static X26 hx (y := yn_8) hown (mvT hZ (wd_55 hw)) (mvT hZ (wd_56 hw)) (mvT hZ (wd_57 hw)) (mvT hZ (wd_58 hw)) (by decide) (backOf (W := 3) (rm_m8_28 l Z aZ hw [] jj0 jj1 jj2 h20 n0 (Nat.le_trans Z0 E20.1) zz14 f27 zz15 zz16) hZ (wd_58 hw) (wd_57 hw) (by decide) (by decide)) (by rw [hml]; rfl) [(.int jj0)] (lenOf pd_12 rfl) rfl (Nat.le_of_eq rfl) (d7_10 hby) (fun _ _ => ⟨rfl, e26, (by decide : 1 + 1 ≤ _), (by decide : 4 + 1 ≤ _)⟩) (pc' := 13) rfl ?_
 rintro _ _ ⟨T28, L28, k28, n28⟩ X28 ⟨Lc28, hQ28, l28, y28, z28⟩
 dsimp only [Pt.U, Pt.locs, Pt.cells, Pt.slots] at X28 l28 y28 z28 hQ28 ⊢
 subst l28 y28 z28
 obtain ⟨r_28, rfl, N28q, K28, g28_0, g28_1⟩ := hQ28
 have N29 := Fr.app N0 N28q
 have K30 : Keep h0 T28.heap [jj3] := K23.trans K28 (all0 (P := fun x => x ∈ [jj3] ∨ h0.size ≤ x))
 show Runs _ _ _ _ (T28.setTop (mkF m 13 #[.val (.ref a0)] [(.ref r_28), (.int (0 : Int32)), (.ref b20), (.ref b20)]))
 have f31 : Arv Z T28.heap b20 k20 (.object kc3) (4 : Int32) [.null, .null, .null, .null] .null := (V24.keep K28 nin0)
 obtain ⟨clu32, Aru32, qu32, Su32, Nu32, Hu32, Gu32⟩ := id f31
 have hinu32 := inb_of (j := (0 : Int32)) Su32 ⟨by decide, by decide⟩
 refine w_stR X28 hx hZ rfl Aru32 hinu32 rfl (Sto.ofV Aru32 qu32 O20 (Ins.of_exa g28_0 (wd_62 hw))) (d7_13 hby) (pc' := 14) rfl ?_
 intro T33 h33 X33 e33 W33
 have V34 : Arv Z h33 b20 k20 (.object kc3) (4 : Int32) [(.ref r_28), .null, .null, .null] .null := Arv.set Aru32 qu32 Su32 Nu32 Hu32 Gu32 rfl W33 0 rfl (Nat.le_of_ble_eq_true rfl)
 have K35 : Keep h0 h33 [jj3] := K30.wr W33 (Or.inr sz22)
 have N36 := Fr.snoc X33 N29 ge21
 refine w_dup X33 hx (d7_14 hby) rfl (pc' := 15) rfl ?_
 refine w_iconst X33 hx (d7_15 hby) (v := (1 : Int32)) rfl (pc' := 16) rfl ?_
 refine w_aloadN X33 hx (d7_16 hby) rfl rfl (pc' := 17) rfl ?_
 have ne37 : a0 ≠ b20 := (Nat.ne_of_lt (Nat.lt_of_lt_of_le zz13.lt (Nat.le_trans (Nat.le_refl _) (Nat.le_of_eq g20.symm))))
 have f38 : Fld Z h33 a0 kc1 "contentType" "Ljava/lang/String;" .null := (((zz17.ext E20).keep K28 nin0).other W33 (Or.inl ne37))
 refine w_getF X33 hx "" hZ hown (Or.inl (wd_22 hw)) Via.refl e33 f38 (d7_17 hby) (pc' := 20) rfl ?_
 intro T39 X39 e39
 obtain ⟨clu40, Aru40, qu40, Su40, Nu40, Hu40, Gu40⟩ := id V34
 have hinu40 := inb_of (j := (1 : Int32)) Su40 ⟨by decide, by decide⟩
 refine w_stR X39 hx hZ e39 Aru40 hinu40 rfl (Or.inl rfl) (d7_20 hby) (pc' := 21) rfl ?_
 intro T41 h41 X41 e41 W41
 have V42 : Arv Z h41 b20 k20 (.object kc3) (4 : Int32) [(.ref r_28), .null, .null, .null] .null := Arv.set Aru40 qu40 Su40 Nu40 Hu40 Gu40 rfl W41 1 rfl (Nat.le_of_ble_eq_true rfl)
 have K43 : Keep h0 h41 [jj3] := K35.wr W41 (Or.inr sz22)
 have N44 := Fr.snoc X41 N36 ge21
 refine w_dup X41 hx (d7_21 hby) rfl (pc' := 22) rfl ?_
 refine w_iconst X41 hx (d7_22 hby) (v := (2 : Int32)) rfl (pc' := 23) rfl ?_
 refine w_aloadN X41 hx (d7_23 hby) rfl rfl (pc' := 24) rfl ?_
 have f45 : Fld Z h41 a0 kc1 "location" "Ljava/lang/String;" (.ref jj3) := ((((zz18.ext E20).keep K28 nin0).other W33 (Or.inl ne37)).other W41 (Or.inl ne37))
 refine w_getF X41 hx "" hZ hown (Or.inl (wd_24 hw)) Via.refl e41 f45 (d7_24 hby) (pc' := 27) rfl ?_
 intro T46 X46 e46
 have f48 : Exa Z h41 jj3 kc0 := ((((zz19.ext E20).keep K28).wr W33).wr W41)
 obtain ⟨clu47, Aru47, qu47, Su47, Nu47, Hu47, Gu47⟩ := id V42
 have hinu47 := inb_of (j := (2 : Int32)) Su47 ⟨by decide, by decide⟩
 refine w_stR X46 hx hZ e46 Aru47 hinu47 rfl (Sto.ofV Aru47 qu47 O20 (Ins.of_exa f48 (wd_124 hw))) (d7_27 hby) (pc' := 28) rfl ?_
 intro T49 h49 X49 e49 W49
 have V50 : Arv Z h49 b20 k20 (.object kc3) (4 : Int32) [(.ref r_28), .null, (.ref jj3), .null] .null := Arv.set Aru47 qu47 Su47 Nu47 Hu47 Gu47 rfl W49 2 rfl (Nat.le_of_ble_eq_true rfl)
 have K51 : Keep h0 h49 [jj3] := K43.wr W49 (Or.inr sz22)
 have N52 := Fr.snoc X49 N44 ge21
 refine w_dup X49 hx (d7_28 hby) rfl (pc' := 29) rfl ?_
 refine w_iconst X49 hx (d7_29 hby) (v := (3 : Int32)) rfl (pc' := 30) rfl ?_
 refine w_aloadN X49 hx (d7_30 hby) rfl rfl (pc' := 31) rfl ?_
 have f53 : Fld Z h49 a0 kc1 "body" "[B" (.ref jj4) := (((((zz20.ext E20).keep K28 nin0).other W33 (Or.inl ne37)).other W41 (Or.inl ne37)).other W49 (Or.inl ne37))
 refine w_getF X49 hx "" hZ hown (Or.inl (wd_46 hw)) Via.refl e49 f53 (d7_31 hby) (pc' := 34) rfl ?_
 intro T54 X54 e54
 have ne55 : jj4 ≠ b20 := (Nat.ne_of_lt (Nat.lt_of_lt_of_le zz21.lt (Nat.le_trans (Nat.le_refl _) (Nat.le_of_eq g20.symm))))
 have f56 : Arv Z h49 jj4 jj5 .byte jj6 (mI jj7) (.int (0 : Int32)) := (((((zz21.ext E20).keep K28 nin0).other W33 ne55).other W41 ne55).other W49 ne55)
 have f57 : Exa Z h49 jj4 "[B" := (((((zz22.ext E20).keep K28).wr W33).wr W41).wr W49)
 have le58 : h0.size ≤ T28.heap.size := (Nat.le_trans E20.1 K28.1)
 have le59 : h0.size ≤ h33.size := (Nat.le_trans le58 (Keep.of_wr W33).1)
 have le60 : h0.size ≤ h41.size := (Nat.le_trans le59 (Keep.of_wr W41).1)
 have le61 : h0.size ≤ h49.size := (Nat.le_trans le60 (Keep.of_wr W49).1)
 refine w_static X54 hx (y := yn_9) hown (mvT hZ (wd_63 hw)) (mvT hZ (wd_64 hw)) (mvT hZ (wd_65 hw)) (mvT hZ (wd_66 hw)) (by decide) (backOf (W := 3) (rm_m9_31 l Z aZ hw [] jj4 jj5 jj6 jj7 h49 n0 (Nat.le_trans Z0 le61) f56 zz23 f57) hZ (wd_66 hw) (wd_65 hw) (by decide) (by decide)) (by rw [hml]; rfl) [(.ref jj4)] (lenOf pd_15 rfl) rfl (Nat.le_of_eq rfl) (d7_34 hby) (fun _ _ => ⟨rfl, e54, (by decide : 2 + 0 ≤ _), (by decide : 5 + 0 ≤ _)⟩) (pc' := 37) rfl ?_
 rintro _ _ ⟨T62, L62, k62, n62⟩ X62 ⟨Lc62, hQ62, l62, y62, z62⟩
 dsimp only [Pt.U, Pt.locs, Pt.cells, Pt.slots] at X62 l62 y62 z62 hQ62 ⊢
 subst l62 y62 z62
 obtain ⟨rfl, N62q, e62⟩ := hQ62
 have N63 := Fr.app N52 N62q
 show Runs _ _ _ _ (T62.setTop (mkF m 37 #[.val (.ref a0)] [(.int (hB jj7)), (.int (3 : Int32)), (.ref b20), (.ref b20)]))
 have f64 : Old Z n0 h49 := ((((f27.keep K28 all0).wr W33 ge21).wr W41 ge21).wr W49 ge21)
 refine w_static X62 hx (y := yn_8) hown (mvT hZ (wd_55 hw)) (mvT hZ (wd_56 hw)) (mvT hZ (wd_57 hw)) (mvT hZ (wd_58 hw)) (by decide) (backOf (W := 3) (rm_m8_28 l Z aZ hw [] (hB jj7) jj1 jj2 h49 n0 (Nat.le_trans Z0 le61) zz14 f64 zz15 zz16) hZ (wd_58 hw) (wd_57 hw) (by decide) (by decide)) (by rw [hml]; rfl) [(.int (hB jj7))] (lenOf pd_12 rfl) rfl (Nat.le_of_eq rfl) (d7_37 hby) (fun _ _ => ⟨rfl, e62, (by decide : 2 + 1 ≤ _), (by decide : 5 + 1 ≤ _)⟩) (pc' := 40) rfl ?_
 rintro _ _ ⟨T65, L65, k65, n65⟩ X65 ⟨Lc65, hQ65, l65, y65, z65⟩
 dsimp only [Pt.U, Pt.locs, Pt.cells, Pt.slots] at X65 l65 y65 z65 hQ65 ⊢
 subst l65 y65 z65
 obtain ⟨r_65, rfl, N65q, K65, g65_0, g65_1⟩ := hQ65
 have N66 := Fr.app N63 N65q
 have K67 : Keep h0 T65.heap [jj3] := K51.trans K65 (all0 (P := fun x => x ∈ [jj3] ∨ h0.size ≤ x))
 show Runs _ _ _ _ (T65.setTop (mkF m 40 #[.val (.ref a0)] [(.ref r_65), (.int (3 : Int32)), (.ref b20), (.ref b20)]))
 have f68 : Arv Z T65.heap b20 k20 (.object kc3) (4 : Int32) [(.ref r_28), .null, (.ref jj3), .null] .null := (V50.keep K65 nin0)
 obtain ⟨clu69, Aru69, qu69, Su69, Nu69, Hu69, Gu69⟩ := id f68
 have hinu69 := inb_of (j := (3 : Int32)) Su69 ⟨by decide, by decide⟩
 refine w_stR X65 hx hZ rfl Aru69 hinu69 rfl (Sto.ofV Aru69 qu69 O20 (Ins.of_exa g65_0 (wd_62 hw))) (d7_40 hby) (pc' := 41) rfl ?_
 intro T70 h70 X70 e70 W70
 have V71 : Arv Z h70 b20 k20 (.object kc3) (4 : Int32) [(.ref r_28), .null, (.ref jj3), (.ref r_65)] .null := Arv.set Aru69 qu69 Su69 Nu69 Hu69 Gu69 rfl W70 3 rfl (Nat.le_of_ble_eq_true rfl)
 have K72 : Keep h0 h70 [jj3] := K67.wr W70 (Or.inr sz22)
 have N73 := Fr.snoc X70 N66 ge21
 have f74 : Exa Z h70 r_28 kc2 := (((((g28_0.wr W33).wr W41).wr W49).keep K65).wr W70)
 have f76 : Exa Z h70 b20 "[Ljava/lang/Object;" := ((((((Q20.keep K28).wr W33).wr W41).wr W49).keep K65).wr W70)
 have ne75 : r_28 ≠ b20 := ne_exa f74 f76 (by decide)
 have f77 : Fld Z h70 r_28 kc2 "value" "I" (.int jj0) := (((((g28_1.other W33 (Or.inl ne75)).other W41 (Or.inl ne75)).other W49 (Or.inl ne75)).keep K65 nin0).other W70 (Or.inl ne75))
 have f78 : Exa Z h70 jj3 kc0 := (((f48.wr W49).keep K65).wr W70)
 have ne79 : jj3 ≠ b20 := (Nat.ne_of_lt (Nat.lt_of_lt_of_le zz19.lt (Nat.le_trans (Nat.le_refl _) (Nat.le_of_eq g20.symm))))
 have f80 : Fld Z h70 jj3 kc0 "hash" "I" (.int (0 : Int32)) := (((((((zz24.ext E20).keep K28 nin0).other W33 (Or.inl ne79)).other W41 (Or.inl ne79)).other W49 (Or.inl ne79)).keep K65 nin0).other W70 (Or.inl ne79))
 have f81 : Fld Z h70 jj3 kc0 "hashIsZero" "Z" (.int (0 : Int32)) := (((((((zz25.ext E20).keep K28 nin0).other W33 (Or.inl ne79)).other W41 (Or.inl ne79)).other W49 (Or.inl ne79)).keep K65 nin0).other W70 (Or.inl ne79))
 have f82 : Fld Z h70 jj3 kc0 "coder" "B" (.int (0 : Int32)) := (((((((zz26.ext E20).keep K28 nin0).other W33 (Or.inl ne79)).other W41 (Or.inl ne79)).other W49 (Or.inl ne79)).keep K65 nin0).other W70 (Or.inl ne79))
 have f83 : Fld Z h70 jj3 kc0 "value" "[B" (.ref jj8) := (((((((zz27.ext E20).keep K28 nin0).other W33 (Or.inl ne79)).other W41 (Or.inl ne79)).other W49 (Or.inl ne79)).keep K65 nin0).other W70 (Or.inl ne79))
 have ne84 : jj8 ≠ b20 := (Nat.ne_of_lt (Nat.lt_of_lt_of_le zz28.lt (Nat.le_trans (Nat.le_refl _) (Nat.le_of_eq g20.symm))))
 have f85 : Arv Z h70 jj8 jj9 .byte jj10 (mI jj11) (.int (0 : Int32)) := (((((((zz28.ext E20).keep K28 nin0).other W33 ne84).other W41 ne84).other W49 ne84).keep K65 nin0).other W70 ne84)
 have f86 : EB Z h70 jj8 jj10 := (((((((zz29.ext E20).keep K28).wr W33).wr W41).wr W49).keep K65).wr W70)
 have f87 : Exa Z h70 r_65 kc2 := (g65_0.wr W70)
 have ne88 : r_65 ≠ b20 := ne_exa f87 f76 (by decide)
 have f89 : Fld Z h70 r_65 kc2 "value" "I" (.int (hB jj7)) := (g65_1.other W70 (Or.inl ne88))
 have f90 : Old Z n0 h70 := ((f64.keep K65 all0).wr W70 ge21)
 have le91 : h0.size ≤ T65.heap.size := (Nat.le_trans le61 K65.1)
 have le92 : h0.size ≤ h70.size := (Nat.le_trans le91 (Keep.of_wr W70).1)
 refine w_static X70 hx (y := yn_10) hown (mvT hZ (wd_67 hw)) (mvT hZ (wd_68 hw)) (mvT hZ (wd_35 hw)) (mvT hZ (wd_69 hw)) (by decide) (backOf (W := 0) (rm_m10_48 l Z aZ hw [] b20 k20 r_28 jj3 r_65 jj0 jj8 jj9 jj10 jj11 (hB jj7) jj12 h70 n0 (Nat.le_trans Z0 le92) V71 f74 f77 f78 f80 f81 f82 f83 f85 f86 f87 f89 zz30 f90 zz31 zz32 zz33) hZ (wd_69 hw) (wd_35 hw) (by decide) (by decide)) (by rw [hml]; rfl) [(.ref b20)] (lenOf pd_18 rfl) rfl (Nat.le_of_eq rfl) (d7_41 hby) (fun _ _ => ⟨rfl, e70, (by decide : 3 + 0 ≤ _), (by decide : 6 + 0 ≤ _)⟩) (pc' := 44) rfl ?_
 rintro _ _ ⟨T93, L93, k93, n93⟩ X93 ⟨Lc93, hQ93, l93, y93, z93⟩
 dsimp only [Pt.U, Pt.locs, Pt.cells, Pt.slots] at X93 l93 y93 z93 hQ93 ⊢
 subst l93 y93 z93
 obtain ⟨rfl, N93q, K93, g93_0, g93_1, g93_2, g93_3, g93_4⟩ := hQ93
 have N94 := Fr.app N73 N93q
 have K95 : Keep h0 T93.heap [jj3] := K72.trans K93 (allS (Or.inl (by simp)) (all0 (P := fun x => x ∈ [jj3] ∨ h0.size ≤ x)))
 show Runs _ _ _ _ (T93.setTop (mkF m 44 #[.val (.ref a0)] [(.int (((31 : Int32) * (((31 : Int32) * (((31 : Int32) * ((31 : Int32) + jj0)) + (0 : Int32))) + (hS jj11))) + (hB jj7)))]))
 exact w_done X93 hlk (v := some (.int (((31 : Int32) * (((31 : Int32) * (((31 : Int32) * ((31 : Int32) + jj0)) + (0 : Int32))) + (hS jj11))) + (hB jj7)))) rfl (fun h => by rw [hret] at h; cases h) (fun fs hr => retI X93 hx hret (d7_44 hby) hr) (by decide) (by decide) (⟨rfl, N94, K95, g93_0, g93_1, g93_2, g93_3, g93_4⟩)
theorem ef_m23_58 (m : MethodId) (a0 : Addr)  : entryFrame m #[(.ref a0)] 2 = mkF m 0 #[.val (.ref a0), .unset] [] := by first | (simp [entryFrame, mkF, argsToLocals, Value.category]; done) | rfl
def Q_m23_58 (Z : State) (a0 : Addr) (jj0 : Int32) (jj1 : Int32) (jj2 : Int32) (jj3 : Addr) (jj4 : ClassId) (jj5 : Int32) (jj6 : List Int32) (h0 : Heap) (n0 : Nat) (v : Option Value) (h : Heap) (L : List Loc) : Prop := v = some (.int (hS jj6)) ∧ Fr n0 L ∧ Keep h0 h [a0] ∧ Exa Z h a0 kc0 ∧ Fld Z h a0 kc0 "coder" "B" (.int (0 : Int32)) ∧ Fld Z h a0 kc0 "value" "[B" (.ref jj3) ∧ Fld Z h a0 kc0 "hash" "I" (.int (hS jj6)) ∧ Fld Z h a0 kc0 "hashIsZero" "Z" (.int (if (hS jj6) = (0 : Int32) then (1 : Int32) else (0 : Int32)))
theorem rm_m23_58 (l : Launch) (Z : State) (aZ : Array Value) (hw : ∀ d ∈ tables_1, d.before aZ Z = true) (ws : List Jvm.Cond) (a0 : Addr) (jj0 : Int32) (jj1 : Int32) (jj2 : Int32) (jj3 : Addr) (jj4 : ClassId) (jj5 : Int32) (jj6 : List Int32) (h0 : Heap) (n0 : Nat) (Z0 : n0 ≤ h0.size) (zz7 : Fld Z h0 a0 kc0 "hash" "I" (.int jj0)) (zz8 : Fld Z h0 a0 kc0 "hashIsZero" "Z" (.int jj1)) (E_a0 : Exa Z h0 a0 kc0) (zz9 : Sta Z Z.heap kc0 "COMPACT_STRINGS" "Z" (.int jj2)) (O0 : Old Z n0 h0) (zz10 : Fld Z h0 a0 kc0 "coder" "B" (.int (0 : Int32))) (hP_6 : ¬ (jj2 = (0 : Int32))) (zz11 : Fld Z h0 a0 kc0 "value" "[B" (.ref jj3)) (zz12 : Arv Z h0 jj3 jj4 .byte jj5 (mI jj6) (.int (0 : Int32))) (zz13 : EB Z h0 jj3 jj5) (zz14 : TS jj5 jj6) (zz15 : n0 ≤ a0) (zz16 : HOK jj0 jj1 (hS jj6)) :
    MetN l Z yn_23 jdk_42_method_78_code 2 (some .int) ws ({ frames := 3, cells := 0, slots := 0, locals := 45 } : Room) #[(.ref a0)] h0 (Q_m23_58 Z a0 jj0 jj1 jj2 jj3 jj4 jj5 jj6 h0 n0) := by
 refine MetN.of (plainFor_of_name pn_0) ?_
 intro p e s m below meth c s₁ hret hx hby hml hown hnm hlk hZ X0 e0
 have N0 := Fr.nil n0
 rw [ef_m23_58 m a0]
 refine w_aloadN X0 hx (d23_0 hby) rfl rfl (pc' := 1) rfl ?_
 refine w_getF X0 hx "" hZ hown (Or.inl (wd_128 hw)) Via.refl e0 zz7 (d23_1 hby) (pc' := 4) rfl ?_
 intro T20 X20 e20
 refine w_istoreN X20 hx (d23_4 hby) (L' := #[.val (.ref a0), .val (.int jj0)]) rfl (pc' := 5) rfl ?_
 refine w_iloadN X20 hx (d23_5 hby) rfl (pc' := 6) rfl ?_
 by_cases hc21 : jj0 = (0 : Int32)
 · refine w_ifN X20 hx (d23_6 hby) (teq hc21).2 (pc' := 9) rfl ?_
   refine w_aloadN X20 hx (d23_9 hby) rfl rfl (pc' := 10) rfl ?_
   refine w_getF X20 hx "" hZ hown (Or.inl (wd_130 hw)) Via.refl e20 zz8 (d23_10 hby) (pc' := 13) rfl ?_
   intro T22 X22 e22
   by_cases hc23 : jj1 = (0 : Int32)
   · refine w_ifN X22 hx (d23_13 hby) (teq hc23).2 (pc' := 16) rfl ?_
     refine w_aloadN X22 hx (d23_16 hby) rfl rfl (pc' := 17) rfl ?_
     obtain ⟨cq24, kq24, q24a, q24b, q24c⟩ := isOf hZ e22 E_a0
     refine w_virtual X22 hx (y := yn_24) (z := yn_24) hown (mvT hZ (wd_132 hw)) (mvT hZ (wd_133 hw)) (notFace_of_selects (args := #[]) (mvT hZ (wd_135 hw))) (mvT hZ (wd_135 hw)) (mvT hZ (wd_134 hw)) (by decide) (backOf (W := 0) (rm_m24_51 l Z aZ hw [] a0 jj2 h0 n0 Z0 zz9 O0 hP_6 zz10) hZ (wd_136 hw) (wd_27 hw) (by decide) (by decide)) q24a q24c (by rw [hml]; rfl) [] (lenOf pd_23 rfl) rfl (Nat.le_of_eq rfl) (d23_17 hby) (fun _ _ => ⟨rfl, e22, (by decide : 0 + 0 ≤ _), (by decide : 0 + 0 ≤ _)⟩) (pc' := 20) rfl ?_
     rintro _ _ ⟨T24, L24, k24, n24⟩ X24 ⟨Lc24, hQ24, l24, y24, z24⟩
     dsimp only [Pt.U, Pt.locs, Pt.cells, Pt.slots] at X24 l24 y24 z24 hQ24 ⊢
     subst l24 y24 z24
     obtain ⟨rfl, N24q, e24⟩ := hQ24
     have N25 := Fr.app N0 N24q
     show Runs _ _ _ _ (T24.setTop (mkF m 20 #[.val (.ref a0), .val (.int jj0)] [(.int (1 : Int32))]))
     refine w_ifN X24 hx (d23_20 hby) (feq (by decide : ¬ ((1 : Int32) = (0 : Int32)))).1 (pc' := 23) rfl ?_
     refine w_aloadN X24 hx (d23_23 hby) rfl rfl (pc' := 24) rfl ?_
     refine w_getF X24 hx "" hZ hown (Or.inl (wd_123 hw)) Via.refl e24 zz11 (d23_24 hby) (pc' := 27) rfl ?_
     intro T26 X26 e26
     refine w_static X26 hx (y := yn_25) hown (mvT hZ (wd_137 hw)) (mvT hZ (wd_138 hw)) (mvT hZ (wd_139 hw)) (mvT hZ (wd_140 hw)) (by decide) (backOf (W := 0) (rm_m25_52 l Z aZ hw [] jj3 jj4 jj5 jj6 h0 n0 Z0 zz12 zz14 zz13) hZ (wd_140 hw) (wd_139 hw) (by decide) (by decide)) (by rw [hml]; rfl) [(.ref jj3)] (lenOf pd_15 rfl) rfl (Nat.le_of_eq rfl) (d23_27 hby) (fun _ _ => ⟨rfl, e26, (by decide : 0 + 0 ≤ _), (by decide : 0 + 0 ≤ _)⟩) (pc' := 30) rfl ?_
     rintro _ _ ⟨T27, L27, k27, n27⟩ X27 ⟨Lc27, hQ27, l27, y27, z27⟩
     dsimp only [Pt.U, Pt.locs, Pt.cells, Pt.slots] at X27 l27 y27 z27 hQ27 ⊢
     subst l27 y27 z27
     obtain ⟨rfl, N27q, e27⟩ := hQ27
     have N28 := Fr.app N25 N27q
     show Runs _ _ _ _ (T27.setTop (mkF m 30 #[.val (.ref a0), .val (.int jj0)] [(.int (hS jj6))]))
     refine w_goto X27 hx (d23_30 hby) (pc' := 40) (by decide) (by decide) ?_
     refine w_istoreN X27 hx (d23_40 hby) (L' := #[.val (.ref a0), .val (.int (hS jj6))]) rfl (pc' := 41) rfl ?_
     refine w_iloadN X27 hx (d23_41 hby) rfl (pc' := 42) rfl ?_
     by_cases hc29 : (hS jj6) = (0 : Int32)
     · refine w_ifN X27 hx (d23_42 hby) (teq hc29).2 (pc' := 45) rfl ?_
       refine w_aloadN X27 hx (d23_45 hby) rfl rfl (pc' := 46) rfl ?_
       refine w_iconst X27 hx (d23_46 hby) (v := (1 : Int32)) rfl (pc' := 47) rfl ?_
       refine w_putF X27 hx "" hZ hown (Or.inl (wd_130 hw)) Via.refl e27 zz8 E_a0 (Or.inl (wd_131 hw)) (wd_28 hw) (ty := .boolean) (by decide) rfl rfl (d23_47 hby) (pc' := 50) rfl ?_
       intro T30 h30 X30 e30 W30
       have f31 : Fld Z h30 a0 kc0 "hashIsZero" "Z" (.int (1 : Int32)) := zz8.same W30
       have K32 : Keep h0 h30 [a0] := (Keep.refl h0 [a0]).wr W30 (Or.inl (by simp))
       have N33 := Fr.snoc X30 N28 zz15
       refine w_goto X30 hx (d23_50 hby) (pc' := 58) (by decide) (by decide) ?_
       refine w_iloadN X30 hx (d23_58 hby) rfl (pc' := 59) rfl ?_
       have f34 : Exa Z h30 a0 kc0 := (E_a0.wr W30)
       have f35 : Fld Z h30 a0 kc0 "coder" "B" (.int (0 : Int32)) := (zz10.other W30 (Or.inr (slot_ne (Or.inr (wd_30 hw)) (Or.inl (wd_131 hw)) (by decide) (t := .byte) (t' := .boolean) (by decide) (by decide))))
       have f36 : Fld Z h30 a0 kc0 "value" "[B" (.ref jj3) := (zz11.other W30 (Or.inr (slot_ne (Or.inr (wd_29 hw)) (Or.inl (wd_131 hw)) (by decide) (t := (.array .byte)) (t' := .boolean) (by decide) (by decide))))
       have f37 : Fld Z h30 a0 kc0 "hash" "I" (.int jj0) := (zz7.other W30 (Or.inr (slot_ne (Or.inl (wd_129 hw)) (Or.inl (wd_131 hw)) (by decide) (t := .int) (t' := .boolean) (by decide) (by decide))))
       exact w_done X30 hlk (v := some (.int (hS jj6))) e30 (fun h => by rw [hret] at h; cases h) (fun fs hr => retI X30 hx hret (d23_59 hby) hr) (by decide) (by decide) (⟨rfl, N33, K32, f34, f35, f36, (by have hq : jj0 = (hS jj6) := (hc21.trans hc29.symm); rw [← hq]; exact f37), (by have hq : (1 : Int32) = (if (hS jj6) = (0 : Int32) then (1 : Int32) else (0 : Int32)) := (if_pos hc29).symm; rw [← hq]; exact f31)⟩)
     · refine w_ifY X27 hx (d23_42 hby) (feq hc29).2 (pc' := 53) (by decide) (by decide) ?_
       refine w_aloadN X27 hx (d23_53 hby) rfl rfl (pc' := 54) rfl ?_
       refine w_iloadN X27 hx (d23_54 hby) rfl (pc' := 55) rfl ?_
       refine w_putF X27 hx "" hZ hown (Or.inl (wd_128 hw)) Via.refl e27 zz7 E_a0 (Or.inl (wd_129 hw)) (wd_28 hw) (ty := .int) (by decide) rfl rfl (d23_55 hby) (pc' := 58) rfl ?_
       intro T38 h38 X38 e38 W38
       have f39 : Fld Z h38 a0 kc0 "hash" "I" (.int (hS jj6)) := zz7.same W38
       have K40 : Keep h0 h38 [a0] := (Keep.refl h0 [a0]).wr W38 (Or.inl (by simp))
       have N41 := Fr.snoc X38 N28 zz15
       refine w_iloadN X38 hx (d23_58 hby) rfl (pc' := 59) rfl ?_
       have f42 : Exa Z h38 a0 kc0 := (E_a0.wr W38)
       have f43 : Fld Z h38 a0 kc0 "coder" "B" (.int (0 : Int32)) := (zz10.other W38 (Or.inr (slot_ne (Or.inr (wd_30 hw)) (Or.inl (wd_129 hw)) (by decide) (t := .byte) (t' := .int) (by decide) (by decide))))
       have f44 : Fld Z h38 a0 kc0 "value" "[B" (.ref jj3) := (zz11.other W38 (Or.inr (slot_ne (Or.inr (wd_29 hw)) (Or.inl (wd_129 hw)) (by decide) (t := (.array .byte)) (t' := .int) (by decide) (by decide))))
       have f45 : Fld Z h38 a0 kc0 "hashIsZero" "Z" (.int jj1) := (zz8.other W38 (Or.inr (slot_ne (Or.inl (wd_131 hw)) (Or.inl (wd_129 hw)) (by decide) (t := .boolean) (t' := .int) (by decide) (by decide))))
       exact w_done X38 hlk (v := some (.int (hS jj6))) e38 (fun h => by rw [hret] at h; cases h) (fun fs hr => retI X38 hx hret (d23_59 hby) hr) (by decide) (by decide) (⟨rfl, N41, K40, f42, f43, f44, f39, (by have hq : jj1 = (if (hS jj6) = (0 : Int32) then (1 : Int32) else (0 : Int32)) := (hc23.trans (if_neg hc29).symm); rw [← hq]; exact f45)⟩)
   · refine w_ifY X22 hx (d23_13 hby) (feq hc23).2 (pc' := 58) (by decide) (by decide) ?_
     refine w_iloadN X22 hx (d23_58 hby) rfl (pc' := 59) rfl ?_
     exact w_done X22 hlk (v := some (.int jj0)) e22 (fun h => by rw [hret] at h; cases h) (fun fs hr => retI X22 hx hret (d23_59 hby) hr) (by decide) (by decide) (⟨(congrArg (fun z => some (Value.int z)) (show jj0 = (hS jj6) from (own_hok2 zz16 hc23).1)), N0, (Keep.refl h0 [a0]), E_a0, zz10, zz11, (by have hq : jj0 = (hS jj6) := (own_hok2 zz16 hc23).1; rw [← hq]; exact zz7), (by have hq : jj1 = (if (hS jj6) = (0 : Int32) then (1 : Int32) else (0 : Int32)) := (own_hok2 zz16 hc23).2; rw [← hq]; exact zz8)⟩)
 · refine w_ifY X20 hx (d23_6 hby) (feq hc21).2 (pc' := 58) (by decide) (by decide) ?_
   refine w_iloadN X20 hx (d23_58 hby) rfl (pc' := 59) rfl ?_
   exact w_done X20 hlk (v := some (.int jj0)) e20 (fun h => by rw [hret] at h; cases h) (fun fs hr => retI X20 hx hret (d23_59 hby) hr) (by decide) (by decide) (⟨(congrArg (fun z => some (Value.int z)) (show jj0 = (hS jj6) from (own_hok1 zz16 hc21).1)), N0, (Keep.refl h0 [a0]), E_a0, zz10, zz11, (by have hq : jj0 = (hS jj6) := (own_hok1 zz16 hc21).1; rw [← hq]; exact zz7), (by have hq : jj1 = (if (hS jj6) = (0 : Int32) then (1 : Int32) else (0 : Int32)) := (own_hok1 zz16 hc21).2; rw [← hq]; exact zz8)⟩)
theorem ef_m11_57 (m : MethodId) (a0 : Addr)  : entryFrame m #[(.ref a0)] 6 = mkF m 0 #[.val (.ref a0), .unset, .unset, .unset, .unset, .unset] [] := by first | (simp [entryFrame, mkF, argsToLocals, Value.category]; done) | rfl
def Q_m11_57 (Z : State) (a0 : Addr) (k_a0 : ClassId) (jj0 : Addr) (jj1 : Addr) (jj2 : Addr) (jj3 : Int32) (jj4 : Int32) (jj5 : Int32) (jj6 : Addr) (jj7 : ClassId) (jj8 : Int32) (jj9 : List Int32) (jj10 : Int32) (jj11 : Int32) (h0 : Heap) (n0 : Nat) (v : Option Value) (h : Heap) (L : List Loc) : Prop := v = some (.int (((31 : Int32) * (((31 : Int32) * (((31 : Int32) * ((31 : Int32) + jj3)) + (0 : Int32))) + (hS jj9))) + jj11)) ∧ Fr n0 L ∧ Keep h0 h [jj1] ∧ Exa Z h jj1 kc0 ∧ Fld Z h jj1 kc0 "hash" "I" (.int (hS jj9)) ∧ Fld Z h jj1 kc0 "hashIsZero" "Z" (.int (if (hS jj9) = (0 : Int32) then (1 : Int32) else (0 : Int32))) ∧ Fld Z h jj1 kc0 "coder" "B" (.int (0 : Int32)) ∧ Fld Z h jj1 kc0 "value" "[B" (.ref jj6)
theorem rm_m11_57 (l : Launch) (Z : State) (aZ : Array Value) (hw : ∀ d ∈ tables_1, d.before aZ Z = true) (ws : List Jvm.Cond) (a0 : Addr) (k_a0 : ClassId) (jj0 : Addr) (jj1 : Addr) (jj2 : Addr) (jj3 : Int32) (jj4 : Int32) (jj5 : Int32) (jj6 : Addr) (jj7 : ClassId) (jj8 : Int32) (jj9 : List Int32) (jj10 : Int32) (jj11 : Int32) (h0 : Heap) (n0 : Nat) (Z0 : n0 ≤ h0.size) (V_a0 : Arv Z h0 a0 k_a0 (.object kc3) (4 : Int32) [(.ref jj0), .null, (.ref jj1), (.ref jj2)] .null) (zz12 : Exa Z h0 jj0 kc2) (zz13 : Fld Z h0 jj0 kc2 "value" "I" (.int jj3)) (zz14 : Exa Z h0 jj1 kc0) (zz15 : Fld Z h0 jj1 kc0 "hash" "I" (.int jj4)) (zz16 : Fld Z h0 jj1 kc0 "hashIsZero" "Z" (.int jj5)) (zz17 : Fld Z h0 jj1 kc0 "coder" "B" (.int (0 : Int32))) (zz18 : Fld Z h0 jj1 kc0 "value" "[B" (.ref jj6)) (zz19 : Arv Z h0 jj6 jj7 .byte jj8 (mI jj9) (.int (0 : Int32))) (zz20 : EB Z h0 jj6 jj8) (zz21 : Sta Z Z.heap kc0 "COMPACT_STRINGS" "Z" (.int jj10)) (O0 : Old Z n0 h0) (zz22 : ¬ (jj10 = (0 : Int32))) (zz23 : TS jj8 jj9) (zz24 : n0 ≤ jj1) (zz25 : HOK jj4 jj5 (hS jj9)) (zz26 : Exa Z h0 jj2 kc2) (zz27 : Fld Z h0 jj2 kc2 "value" "I" (.int jj11)) :
    MetN l Z yn_11 jdk_65_method_157_code 6 (some .int) ws ({ frames := 4, cells := 0, slots := 0, locals := 59 } : Room) #[(.ref a0)] h0 (Q_m11_57 Z a0 k_a0 jj0 jj1 jj2 jj3 jj4 jj5 jj6 jj7 jj8 jj9 jj10 jj11 h0 n0) := by
 refine MetN.of (plainFor_of_name pn_8) ?_
 intro p e s m below meth c s₁ hret hx hby hml hown hnm hlk hZ X0 e0
 have N0 := Fr.nil n0
 rw [ef_m11_57 m a0]
 refine w_aloadN X0 hx (d11_0 hby) rfl rfl (pc' := 1) rfl ?_
 refine w_ifnonnullY X0 hx (d11_1 hby) (pc' := 6) (by decide) (by decide) ?_
 refine w_iconst X0 hx (d11_6 hby) (v := (1 : Int32)) rfl (pc' := 7) rfl ?_
 refine w_istoreN X0 hx (d11_7 hby) (L' := #[.val (.ref a0), .val (.int (1 : Int32)), .unset, .unset, .unset, .unset]) rfl (pc' := 8) rfl ?_
 refine w_aloadN X0 hx (d11_8 hby) rfl rfl (pc' := 9) rfl ?_
 refine w_astoreN X0 hx (d11_9 hby) rfl (L' := #[.val (.ref a0), .val (.int (1 : Int32)), .val (.ref a0), .unset, .unset, .unset]) rfl (pc' := 10) rfl ?_
 refine w_aloadN X0 hx (d11_10 hby) rfl rfl (pc' := 11) rfl ?_
 refine w_alen X0 hx hZ e0 V_a0 (d11_11 hby) (pc' := 12) rfl ?_
 refine w_istoreN X0 hx (d11_12 hby) (L' := #[.val (.ref a0), .val (.int (1 : Int32)), .val (.ref a0), .val (.int (4 : Int32)), .unset, .unset]) rfl (pc' := 13) rfl ?_
 refine w_iconst X0 hx (d11_13 hby) (v := (0 : Int32)) rfl (pc' := 14) rfl ?_
 refine w_istore X0 hx (d11_14 hby) (L' := #[.val (.ref a0), .val (.int (1 : Int32)), .val (.ref a0), .val (.int (4 : Int32)), .val (.int (0 : Int32)), .unset]) rfl (pc' := 16) rfl ?_
 refine w_iload X0 hx (d11_16 hby) rfl (pc' := 18) rfl ?_
 refine w_iloadN X0 hx (d11_18 hby) rfl (pc' := 19) rfl ?_
 refine w_icN X0 hx (d11_19 hby) (tlt (by decide : (0 : Int32) < (4 : Int32))).2.1 (pc' := 22) rfl ?_
 refine w_aloadN X0 hx (d11_22 hby) rfl rfl (pc' := 23) rfl ?_
 refine w_iload X0 hx (d11_23 hby) rfl (pc' := 25) rfl ?_
 obtain ⟨clu20, Aru20, qu20, Su20, Nu20, Hu20, Gu20⟩ := id V_a0
 have hinu20 := inb_of (j := (0 : Int32)) Su20 ⟨by decide, by decide⟩
 refine w_aaload X0 hx hZ e0 Aru20 rfl hinu20 (Hu20.at hinu20 rfl) (d11_25 hby) (pc' := 26) rfl ?_
 refine w_astore X0 hx (d11_26 hby) rfl (L' := #[.val (.ref a0), .val (.int (1 : Int32)), .val (.ref a0), .val (.int (4 : Int32)), .val (.int (0 : Int32)), .val (.ref jj0)]) rfl (pc' := 28) rfl ?_
 refine w_bipush X0 hx (d11_28 hby) (v := (31 : Int32)) rfl (pc' := 30) rfl ?_
 refine w_iloadN X0 hx (d11_30 hby) rfl (pc' := 31) rfl ?_
 refine w_imul X0 hx (d11_31 hby) (pc' := 32) rfl ?_
 rw [show ((31 : Int32) * (1 : Int32)) = (31 : Int32) from by decide]
 refine w_aload X0 hx (d11_32 hby) rfl rfl (pc' := 34) rfl ?_
 refine w_ifnonnullY X0 hx (d11_34 hby) (pc' := 41) (by decide) (by decide) ?_
 refine w_aload X0 hx (d11_41 hby) rfl rfl (pc' := 43) rfl ?_
 obtain ⟨cq21, kq21, q21a, q21b, q21c⟩ := isOf hZ e0 zz12
 refine w_virtual X0 hx (y := (⟨kc3, "hashCode", "()I"⟩ : MethodName)) (z := yn_12) hown (mvT hZ (wd_73 hw)) (mvT hZ (wd_74 hw)) (own_nfS (args := #[]) (mvT hZ (wd_43 hw)) rfl) (mvT hZ (wd_76 hw)) (mvT hZ (wd_77 hw)) (by decide) (backOf (W := 1) (rm_m12_38 l Z aZ hw [] jj0 jj3 h0 n0 Z0 zz13) hZ (wd_78 hw) (wd_57 hw) (by decide) (by decide)) q21a q21c (by rw [hml]; rfl) [] (lenOf pd_17 rfl) rfl (Nat.le_of_eq rfl) (d11_43 hby) (fun _ _ => ⟨rfl, e0, (by decide : 0 + 0 ≤ _), (by decide : 0 + 0 ≤ _)⟩) (pc' := 46) rfl ?_
 rintro _ _ ⟨T21, L21, k21, n21⟩ X21 ⟨Lc21, hQ21, l21, y21, z21⟩
 dsimp only [Pt.U, Pt.locs, Pt.cells, Pt.slots] at X21 l21 y21 z21 hQ21 ⊢
 subst l21 y21 z21
 obtain ⟨rfl, N21q, e21⟩ := hQ21
 have N22 := Fr.app N0 N21q
 show Runs _ _ _ _ (T21.setTop (mkF m 46 #[.val (.ref a0), .val (.int (1 : Int32)), .val (.ref a0), .val (.int (4 : Int32)), .val (.int (0 : Int32)), .val (.ref jj0)] [(.int jj3), (.int (31 : Int32))]))
 refine w_iadd X21 hx (d11_46 hby) (pc' := 47) rfl ?_
 refine w_istoreN X21 hx (d11_47 hby) (L' := #[.val (.ref a0), .val (.int ((31 : Int32) + jj3)), .val (.ref a0), .val (.int (4 : Int32)), .val (.int (0 : Int32)), .val (.ref jj0)]) rfl (pc' := 48) rfl ?_
 refine w_iinc X21 hx (d11_48 hby) (v := (1 : Int32)) rfl rfl (L' := #[.val (.ref a0), .val (.int ((31 : Int32) + jj3)), .val (.ref a0), .val (.int (4 : Int32)), .val (.int ((0 : Int32) + (1 : Int32))), .val (.ref jj0)]) rfl (pc' := 51) rfl ?_
 rw [show ((0 : Int32) + (1 : Int32)) = (1 : Int32) from by decide]
 refine w_goto X21 hx (d11_51 hby) (pc' := 16) (by decide) (by decide) ?_
 refine w_iload X21 hx (d11_16 hby) rfl (pc' := 18) rfl ?_
 refine w_iloadN X21 hx (d11_18 hby) rfl (pc' := 19) rfl ?_
 refine w_icN X21 hx (d11_19 hby) (tlt (by decide : (1 : Int32) < (4 : Int32))).2.1 (pc' := 22) rfl ?_
 refine w_aloadN X21 hx (d11_22 hby) rfl rfl (pc' := 23) rfl ?_
 refine w_iload X21 hx (d11_23 hby) rfl (pc' := 25) rfl ?_
 obtain ⟨clu23, Aru23, qu23, Su23, Nu23, Hu23, Gu23⟩ := id V_a0
 have hinu23 := inb_of (j := (1 : Int32)) Su23 ⟨by decide, by decide⟩
 refine w_aaload X21 hx hZ e21 Aru23 rfl hinu23 (Hu23.at hinu23 rfl) (d11_25 hby) (pc' := 26) rfl ?_
 refine w_astore X21 hx (d11_26 hby) rfl (L' := #[.val (.ref a0), .val (.int ((31 : Int32) + jj3)), .val (.ref a0), .val (.int (4 : Int32)), .val (.int (1 : Int32)), .val .null]) rfl (pc' := 28) rfl ?_
 refine w_bipush X21 hx (d11_28 hby) (v := (31 : Int32)) rfl (pc' := 30) rfl ?_
 refine w_iloadN X21 hx (d11_30 hby) rfl (pc' := 31) rfl ?_
 refine w_imul X21 hx (d11_31 hby) (pc' := 32) rfl ?_
 refine w_aload X21 hx (d11_32 hby) rfl rfl (pc' := 34) rfl ?_
 refine w_ifnonnullN X21 hx (d11_34 hby) (pc' := 37) rfl ?_
 refine w_iconst X21 hx (d11_37 hby) (v := (0 : Int32)) rfl (pc' := 38) rfl ?_
 refine w_goto X21 hx (d11_38 hby) (pc' := 46) (by decide) (by decide) ?_
 refine w_iadd X21 hx (d11_46 hby) (pc' := 47) rfl ?_
 refine w_istoreN X21 hx (d11_47 hby) (L' := #[.val (.ref a0), .val (.int (((31 : Int32) * ((31 : Int32) + jj3)) + (0 : Int32))), .val (.ref a0), .val (.int (4 : Int32)), .val (.int (1 : Int32)), .val .null]) rfl (pc' := 48) rfl ?_
 refine w_iinc X21 hx (d11_48 hby) (v := (1 : Int32)) rfl rfl (L' := #[.val (.ref a0), .val (.int (((31 : Int32) * ((31 : Int32) + jj3)) + (0 : Int32))), .val (.ref a0), .val (.int (4 : Int32)), .val (.int ((1 : Int32) + (1 : Int32))), .val .null]) rfl (pc' := 51) rfl ?_
 rw [show ((1 : Int32) + (1 : Int32)) = (2 : Int32) from by decide]
 refine w_goto X21 hx (d11_51 hby) (pc' := 16) (by decide) (by decide) ?_
 refine w_iload X21 hx (d11_16 hby) rfl (pc' := 18) rfl ?_
 refine w_iloadN X21 hx (d11_18 hby) rfl (pc' := 19) rfl ?_
 refine w_icN X21 hx (d11_19 hby) (tlt (by decide : (2 : Int32) < (4 : Int32))).2.1 (pc' := 22) rfl ?_
 refine w_aloadN X21 hx (d11_22 hby) rfl rfl (pc' := 23) rfl ?_
 refine w_iload X21 hx (d11_23 hby) rfl (pc' := 25) rfl ?_
 obtain ⟨clu24, Aru24, qu24, Su24, Nu24, Hu24, Gu24⟩ := id V_a0
 have hinu24 := inb_of (j := (2 : Int32)) Su24 ⟨by decide, by decide⟩
 refine w_aaload X21 hx hZ e21 Aru24 rfl hinu24 (Hu24.at hinu24 rfl) (d11_25 hby) (pc' := 26) rfl ?_
 refine w_astore X21 hx (d11_26 hby) rfl (L' := #[.val (.ref a0), .val (.int (((31 : Int32) * ((31 : Int32) + jj3)) + (0 : Int32))), .val (.ref a0), .val (.int (4 : Int32)), .val (.int (2 : Int32)), .val (.ref jj1)]) rfl (pc' := 28) rfl ?_
 refine w_bipush X21 hx (d11_28 hby) (v := (31 : Int32)) rfl (pc' := 30) rfl ?_
 refine w_iloadN X21 hx (d11_30 hby) rfl (pc' := 31) rfl ?_
 refine w_imul X21 hx (d11_31 hby) (pc' := 32) rfl ?_
 refine w_aload X21 hx (d11_32 hby) rfl rfl (pc' := 34) rfl ?_
 refine w_ifnonnullY X21 hx (d11_34 hby) (pc' := 41) (by decide) (by decide) ?_
 refine w_aload X21 hx (d11_41 hby) rfl rfl (pc' := 43) rfl ?_
 obtain ⟨cq25, kq25, q25a, q25b, q25c⟩ := isOf hZ e21 zz14
 refine w_virtual X21 hx (y := (⟨kc3, "hashCode", "()I"⟩ : MethodName)) (z := yn_23) hown (mvT hZ (wd_73 hw)) (mvT hZ (wd_74 hw)) (own_nfS (args := #[]) (mvT hZ (wd_43 hw)) rfl) (mvT hZ (wd_125 hw)) (mvT hZ (wd_126 hw)) (by decide) (backOf (W := 1) (rm_m23_58 l Z aZ hw [] jj1 jj4 jj5 jj10 jj6 jj7 jj8 jj9 h0 n0 Z0 zz15 zz16 zz14 zz21 O0 zz17 zz22 zz18 zz19 zz20 zz23 zz24 zz25) hZ (wd_127 hw) (wd_27 hw) (by decide) (by decide)) q25a q25c (by rw [hml]; rfl) [] (lenOf pd_17 rfl) rfl (Nat.le_of_eq rfl) (d11_43 hby) (fun _ _ => ⟨rfl, e21, (by decide : 0 + 0 ≤ _), (by decide : 0 + 0 ≤ _)⟩) (pc' := 46) rfl ?_
 rintro _ _ ⟨T25, L25, k25, n25⟩ X25 ⟨Lc25, hQ25, l25, y25, z25⟩
 dsimp only [Pt.U, Pt.locs, Pt.cells, Pt.slots] at X25 l25 y25 z25 hQ25 ⊢
 subst l25 y25 z25
 obtain ⟨rfl, N25q, K25, g25_0, g25_1, g25_2, g25_3, g25_4⟩ := hQ25
 have N26 := Fr.app N22 N25q
 have K27 : Keep h0 T25.heap [jj1] := (Keep.refl h0 [jj1]).trans K25 (allS (Or.inl (by simp)) (all0 (P := fun x => x ∈ [jj1] ∨ h0.size ≤ x)))
 show Runs _ _ _ _ (T25.setTop (mkF m 46 #[.val (.ref a0), .val (.int (((31 : Int32) * ((31 : Int32) + jj3)) + (0 : Int32))), .val (.ref a0), .val (.int (4 : Int32)), .val (.int (2 : Int32)), .val (.ref jj1)] [(.int (hS jj9)), (.int ((31 : Int32) * (((31 : Int32) * ((31 : Int32) + jj3)) + (0 : Int32))))]))
 refine w_iadd X25 hx (d11_46 hby) (pc' := 47) rfl ?_
 refine w_istoreN X25 hx (d11_47 hby) (L' := #[.val (.ref a0), .val (.int (((31 : Int32) * (((31 : Int32) * ((31 : Int32) + jj3)) + (0 : Int32))) + (hS jj9))), .val (.ref a0), .val (.int (4 : Int32)), .val (.int (2 : Int32)), .val (.ref jj1)]) rfl (pc' := 48) rfl ?_
 refine w_iinc X25 hx (d11_48 hby) (v := (1 : Int32)) rfl rfl (L' := #[.val (.ref a0), .val (.int (((31 : Int32) * (((31 : Int32) * ((31 : Int32) + jj3)) + (0 : Int32))) + (hS jj9))), .val (.ref a0), .val (.int (4 : Int32)), .val (.int ((2 : Int32) + (1 : Int32))), .val (.ref jj1)]) rfl (pc' := 51) rfl ?_
 rw [show ((2 : Int32) + (1 : Int32)) = (3 : Int32) from by decide]
 refine w_goto X25 hx (d11_51 hby) (pc' := 16) (by decide) (by decide) ?_
 refine w_iload X25 hx (d11_16 hby) rfl (pc' := 18) rfl ?_
 refine w_iloadN X25 hx (d11_18 hby) rfl (pc' := 19) rfl ?_
 refine w_icN X25 hx (d11_19 hby) (tlt (by decide : (3 : Int32) < (4 : Int32))).2.1 (pc' := 22) rfl ?_
 refine w_aloadN X25 hx (d11_22 hby) rfl rfl (pc' := 23) rfl ?_
 refine w_iload X25 hx (d11_23 hby) rfl (pc' := 25) rfl ?_
 have ne28 : jj1 ≠ a0 := Exa.neArv zz14 V_a0 (wd_28 hw)
 have f29 : Arv Z T25.heap a0 k_a0 (.object kc3) (4 : Int32) [(.ref jj0), .null, (.ref jj1), (.ref jj2)] .null := (V_a0.keep K25 (ninS (Ne.symm ne28) nin0))
 obtain ⟨clu30, Aru30, qu30, Su30, Nu30, Hu30, Gu30⟩ := id f29
 have hinu30 := inb_of (j := (3 : Int32)) Su30 ⟨by decide, by decide⟩
 refine w_aaload X25 hx hZ rfl Aru30 rfl hinu30 (Hu30.at hinu30 rfl) (d11_25 hby) (pc' := 26) rfl ?_
 refine w_astore X25 hx (d11_26 hby) rfl (L' := #[.val (.ref a0), .val (.int (((31 : Int32) * (((31 : Int32) * ((31 : Int32) + jj3)) + (0 : Int32))) + (hS jj9))), .val (.ref a0), .val (.int (4 : Int32)), .val (.int (3 : Int32)), .val (.ref jj2)]) rfl (pc' := 28) rfl ?_
 refine w_bipush X25 hx (d11_28 hby) (v := (31 : Int32)) rfl (pc' := 30) rfl ?_
 refine w_iloadN X25 hx (d11_30 hby) rfl (pc' := 31) rfl ?_
 refine w_imul X25 hx (d11_31 hby) (pc' := 32) rfl ?_
 refine w_aload X25 hx (d11_32 hby) rfl rfl (pc' := 34) rfl ?_
 refine w_ifnonnullY X25 hx (d11_34 hby) (pc' := 41) (by decide) (by decide) ?_
 refine w_aload X25 hx (d11_41 hby) rfl rfl (pc' := 43) rfl ?_
 have f32 : Exa Z T25.heap jj2 kc2 := (zz26.keep K25)
 have ne31 : jj2 ≠ jj1 := ne_exa f32 g25_0 (by decide)
 have f33 : Fld Z T25.heap jj2 kc2 "value" "I" (.int jj11) := (zz27.keep K25 (ninS ne31 nin0))
 obtain ⟨cq34, kq34, q34a, q34b, q34c⟩ := isOf hZ rfl f32
 refine w_virtual X25 hx (y := (⟨kc3, "hashCode", "()I"⟩ : MethodName)) (z := yn_12) hown (mvT hZ (wd_73 hw)) (mvT hZ (wd_74 hw)) (own_nfS (args := #[]) (mvT hZ (wd_43 hw)) rfl) (mvT hZ (wd_76 hw)) (mvT hZ (wd_77 hw)) (by decide) (backOf (W := 1) (rm_m12_38 l Z aZ hw [] jj2 jj11 T25.heap n0 (Nat.le_trans Z0 K25.1) f33) hZ (wd_78 hw) (wd_57 hw) (by decide) (by decide)) q34a q34c (by rw [hml]; rfl) [] (lenOf pd_17 rfl) rfl (Nat.le_of_eq rfl) (d11_43 hby) (fun _ _ => ⟨rfl, rfl, (by decide : 0 + 0 ≤ _), (by decide : 0 + 0 ≤ _)⟩) (pc' := 46) rfl ?_
 rintro _ _ ⟨T34, L34, k34, n34⟩ X34 ⟨Lc34, hQ34, l34, y34, z34⟩
 dsimp only [Pt.U, Pt.locs, Pt.cells, Pt.slots] at X34 l34 y34 z34 hQ34 ⊢
 subst l34 y34 z34
 obtain ⟨rfl, N34q, e34⟩ := hQ34
 have N35 := Fr.app N26 N34q
 show Runs _ _ _ _ (T34.setTop (mkF m 46 #[.val (.ref a0), .val (.int (((31 : Int32) * (((31 : Int32) * ((31 : Int32) + jj3)) + (0 : Int32))) + (hS jj9))), .val (.ref a0), .val (.int (4 : Int32)), .val (.int (3 : Int32)), .val (.ref jj2)] [(.int jj11), (.int ((31 : Int32) * (((31 : Int32) * (((31 : Int32) * ((31 : Int32) + jj3)) + (0 : Int32))) + (hS jj9))))]))
 refine w_iadd X34 hx (d11_46 hby) (pc' := 47) rfl ?_
 refine w_istoreN X34 hx (d11_47 hby) (L' := #[.val (.ref a0), .val (.int (((31 : Int32) * (((31 : Int32) * (((31 : Int32) * ((31 : Int32) + jj3)) + (0 : Int32))) + (hS jj9))) + jj11)), .val (.ref a0), .val (.int (4 : Int32)), .val (.int (3 : Int32)), .val (.ref jj2)]) rfl (pc' := 48) rfl ?_
 refine w_iinc X34 hx (d11_48 hby) (v := (1 : Int32)) rfl rfl (L' := #[.val (.ref a0), .val (.int (((31 : Int32) * (((31 : Int32) * (((31 : Int32) * ((31 : Int32) + jj3)) + (0 : Int32))) + (hS jj9))) + jj11)), .val (.ref a0), .val (.int (4 : Int32)), .val (.int ((3 : Int32) + (1 : Int32))), .val (.ref jj2)]) rfl (pc' := 51) rfl ?_
 rw [show ((3 : Int32) + (1 : Int32)) = (4 : Int32) from by decide]
 refine w_goto X34 hx (d11_51 hby) (pc' := 16) (by decide) (by decide) ?_
 refine w_iload X34 hx (d11_16 hby) rfl (pc' := 18) rfl ?_
 refine w_iloadN X34 hx (d11_18 hby) rfl (pc' := 19) rfl ?_
 refine w_icY X34 hx (d11_19 hby) (flt (by decide : ¬ ((4 : Int32) < (4 : Int32)))).2.1 (pc' := 54) (by decide) (by decide) ?_
 refine w_iloadN X34 hx (d11_54 hby) rfl (pc' := 55) rfl ?_
 exact w_done X34 hlk (v := some (.int (((31 : Int32) * (((31 : Int32) * (((31 : Int32) * ((31 : Int32) + jj3)) + (0 : Int32))) + (hS jj9))) + jj11))) e34 (fun h => by rw [hret] at h; cases h) (fun fs hr => retI X34 hx hret (d11_55 hby) hr) (by decide) (by decide) (⟨rfl, N35, K27, g25_0, g25_3, g25_4, g25_1, g25_2⟩)
theorem ef_m10_56 (m : MethodId) (a0 : Addr)  : entryFrame m #[(.ref a0)] 1 = mkF m 0 #[.val (.ref a0)] [] := by first | (simp [entryFrame, mkF, argsToLocals, Value.category]; done) | rfl
def Q_m10_56 (Z : State) (a0 : Addr) (k_a0 : ClassId) (jj0 : Addr) (jj1 : Addr) (jj2 : Addr) (jj3 : Int32) (jj4 : Int32) (jj5 : Int32) (jj6 : Addr) (jj7 : ClassId) (jj8 : Int32) (jj9 : List Int32) (jj10 : Int32) (jj11 : Int32) (h0 : Heap) (n0 : Nat) (v : Option Value) (h : Heap) (L : List Loc) : Prop := v = some (.int (((31 : Int32) * (((31 : Int32) * (((31 : Int32) * ((31 : Int32) + jj3)) + (0 : Int32))) + (hS jj9))) + jj10)) ∧ Fr n0 L ∧ Keep h0 h [jj1] ∧ Exa Z h jj1 kc0 ∧ Fld Z h jj1 kc0 "hash" "I" (.int (hS jj9)) ∧ Fld Z h jj1 kc0 "hashIsZero" "Z" (.int (if (hS jj9) = (0 : Int32) then (1 : Int32) else (0 : Int32))) ∧ Fld Z h jj1 kc0 "coder" "B" (.int (0 : Int32)) ∧ Fld Z h jj1 kc0 "value" "[B" (.ref jj6)
theorem rm_m10_56 (l : Launch) (Z : State) (aZ : Array Value) (hw : ∀ d ∈ tables_1, d.before aZ Z = true) (ws : List Jvm.Cond) (a0 : Addr) (k_a0 : ClassId) (jj0 : Addr) (jj1 : Addr) (jj2 : Addr) (jj3 : Int32) (jj4 : Int32) (jj5 : Int32) (jj6 : Addr) (jj7 : ClassId) (jj8 : Int32) (jj9 : List Int32) (jj10 : Int32) (jj11 : Int32) (h0 : Heap) (n0 : Nat) (Z0 : n0 ≤ h0.size) (V_a0 : Arv Z h0 a0 k_a0 (.object kc3) (4 : Int32) [(.ref jj0), .null, (.ref jj1), (.ref jj2)] .null) (zz12 : Exa Z h0 jj0 kc2) (zz13 : Fld Z h0 jj0 kc2 "value" "I" (.int jj3)) (zz14 : Exa Z h0 jj1 kc0) (zz15 : Fld Z h0 jj1 kc0 "hash" "I" (.int jj4)) (zz16 : Fld Z h0 jj1 kc0 "hashIsZero" "Z" (.int jj5)) (zz17 : Fld Z h0 jj1 kc0 "coder" "B" (.int (0 : Int32))) (zz18 : Fld Z h0 jj1 kc0 "value" "[B" (.ref jj6)) (zz19 : Arv Z h0 jj6 jj7 .byte jj8 (mI jj9) (.int (0 : Int32))) (zz20 : EB Z h0 jj6 jj8) (zz21 : Exa Z h0 jj2 kc2) (zz22 : Fld Z h0 jj2 kc2 "value" "I" (.int jj10)) (zz23 : Sta Z Z.heap kc0 "COMPACT_STRINGS" "Z" (.int jj11)) (O0 : Old Z n0 h0) (zz24 : ¬ (jj11 = (0 : Int32))) (zz25 : TS jj8 jj9) (zz26 : n0 ≤ jj1) (zz27 : HOK jj4 jj5 (hS jj9)) :
    MetN l Z yn_10 jdk_31_method_5_code 1 (some .int) ws ({ frames := 5, cells := 0, slots := 0, locals := 76 } : Room) #[(.ref a0)] h0 (Q_m10_56 Z a0 k_a0 jj0 jj1 jj2 jj3 jj4 jj5 jj6 jj7 jj8 jj9 jj10 jj11 h0 n0) := by
 refine MetN.of (plainFor_of_name pn_3) ?_
 intro p e s m below meth c s₁ hret hx hby hml hown hnm hlk hZ X0 e0
 have N0 := Fr.nil n0
 rw [ef_m10_56 m a0]
 refine w_aloadN X0 hx (d10_0 hby) rfl rfl (pc' := 1) rfl ?_
 refine w_static X0 hx (y := yn_11) hown (mvT hZ (wd_70 hw)) (mvT hZ (wd_71 hw)) (mvT hZ (wd_65 hw)) (mvT hZ (wd_72 hw)) (by decide) (backOf (W := 0) (rm_m11_57 l Z aZ hw [] a0 k_a0 jj0 jj1 jj2 jj3 jj4 jj5 jj6 jj7 jj8 jj9 jj11 jj10 h0 n0 Z0 V_a0 zz12 zz13 zz14 zz15 zz16 zz17 zz18 zz19 zz20 zz23 O0 zz24 zz25 zz26 zz27 zz21 zz22) hZ (wd_72 hw) (wd_65 hw) (by decide) (by decide)) (by rw [hml]; rfl) [(.ref a0)] (lenOf pd_18 rfl) rfl (Nat.le_of_eq rfl) (d10_1 hby) (fun _ _ => ⟨rfl, e0, (by decide : 0 + 0 ≤ _), (by decide : 0 + 0 ≤ _)⟩) (pc' := 4) rfl ?_
 rintro _ _ ⟨T20, L20, k20, n20⟩ X20 ⟨Lc20, hQ20, l20, y20, z20⟩
 dsimp only [Pt.U, Pt.locs, Pt.cells, Pt.slots] at X20 l20 y20 z20 hQ20 ⊢
 subst l20 y20 z20
 obtain ⟨rfl, N20q, K20, g20_0, g20_1, g20_2, g20_3, g20_4⟩ := hQ20
 have N21 := Fr.app N0 N20q
 have K22 : Keep h0 T20.heap [jj1] := (Keep.refl h0 [jj1]).trans K20 (allS (Or.inl (by simp)) (all0 (P := fun x => x ∈ [jj1] ∨ h0.size ≤ x)))
 show Runs _ _ _ _ (T20.setTop (mkF m 4 #[.val (.ref a0)] [(.int (((31 : Int32) * (((31 : Int32) * (((31 : Int32) * ((31 : Int32) + jj3)) + (0 : Int32))) + (hS jj9))) + jj10))]))
 exact w_done X20 hlk (v := some (.int (((31 : Int32) * (((31 : Int32) * (((31 : Int32) * ((31 : Int32) + jj3)) + (0 : Int32))) + (hS jj9))) + jj10))) rfl (fun h => by rw [hret] at h; cases h) (fun fs hr => retI X20 hx hret (d10_4 hby) hr) (by decide) (by decide) (⟨rfl, N21, K22, g20_0, g20_1, g20_2, g20_3, g20_4⟩)
theorem ef_m7_55 (m : MethodId) (a0 : Addr)  : entryFrame m #[(.ref a0)] 1 = mkF m 0 #[.val (.ref a0)] [] := by first | (simp [entryFrame, mkF, argsToLocals, Value.category]; done) | rfl
def Q_m7_55 (Z : State) (a0 : Addr) (jj0 : Int32) (jj1 : Addr) (jj2 : Cell) (jj3 : Addr) (jj4 : Addr) (jj5 : ClassId) (jj6 : Int32) (jj7 : List Int32) (jj8 : Int32) (jj9 : Int32) (jj10 : Addr) (jj11 : ClassId) (jj12 : Int32) (jj13 : List Int32) (jj14 : Int32) (h0 : Heap) (n0 : Nat) (v : Option Value) (h : Heap) (L : List Loc) : Prop := v = some (.int (((31 : Int32) * (((31 : Int32) * (((31 : Int32) * ((31 : Int32) + jj0)) + (0 : Int32))) + (hS jj13))) + (hB jj7))) ∧ Fr n0 L ∧ Keep h0 h [jj3] ∧ Exa Z h jj3 kc0 ∧ Fld Z h jj3 kc0 "hash" "I" (.int (hS jj13)) ∧ Fld Z h jj3 kc0 "hashIsZero" "Z" (.int (if (hS jj13) = (0 : Int32) then (1 : Int32) else (0 : Int32))) ∧ Fld Z h jj3 kc0 "coder" "B" (.int (0 : Int32)) ∧ Fld Z h jj3 kc0 "value" "[B" (.ref jj10)
theorem rm_m7_55 (l : Launch) (Z : State) (aZ : Array Value) (hw : ∀ d ∈ tables_1, d.before aZ Z = true) (ws : List Jvm.Cond) (a0 : Addr) (jj0 : Int32) (jj1 : Addr) (jj2 : Cell) (jj3 : Addr) (jj4 : Addr) (jj5 : ClassId) (jj6 : Int32) (jj7 : List Int32) (jj8 : Int32) (jj9 : Int32) (jj10 : Addr) (jj11 : ClassId) (jj12 : Int32) (jj13 : List Int32) (jj14 : Int32) (h0 : Heap) (n0 : Nat) (Z0 : n0 ≤ h0.size) (zz15 : Fld Z h0 a0 kc1 "status" "I" (.int jj0)) (zz16 : Sta Z Z.heap kc4 "high" "I" (.int (127 : Int32))) (O0 : Old Z n0 h0) (zz17 : Sta Z Z.heap kc4 "cache" "[Ljava/lang/Integer;" (.ref jj1)) (zz18 : Bxs Z jj1 jj2 kc2 "I" (256 : Int32) (fun j => .int (j - 128))) (zz19 : Fld Z h0 a0 kc1 "contentType" "Ljava/lang/String;" .null) (zz20 : Fld Z h0 a0 kc1 "location" "Ljava/lang/String;" (.ref jj3)) (zz21 : Exa Z h0 jj3 kc0) (zz22 : Fld Z h0 a0 kc1 "body" "[B" (.ref jj4)) (zz23 : Arv Z h0 jj4 jj5 .byte jj6 (mI jj7) (.int (0 : Int32))) (zz24 : Exa Z h0 jj4 "[B") (zz25 : TB jj6 jj7) (zz26 : Fld Z h0 jj3 kc0 "hash" "I" (.int jj8)) (zz27 : Fld Z h0 jj3 kc0 "hashIsZero" "Z" (.int jj9)) (zz28 : Fld Z h0 jj3 kc0 "coder" "B" (.int (0 : Int32))) (zz29 : Fld Z h0 jj3 kc0 "value" "[B" (.ref jj10)) (zz30 : Arv Z h0 jj10 jj11 .byte jj12 (mI jj13) (.int (0 : Int32))) (zz31 : EB Z h0 jj10 jj12) (zz32 : Sta Z Z.heap kc0 "COMPACT_STRINGS" "Z" (.int jj14)) (zz33 : ¬ (jj14 = (0 : Int32))) (zz34 : TS jj12 jj13) (zz35 : n0 ≤ jj3) (zz36 : HOK jj8 jj9 (hS jj13)) :
    MetN l Z yn_7 prog_12_method_7_code 1 (some .int) ws ({ frames := 6, cells := 3, slots := 6, locals := 88 } : Room) #[(.ref a0)] h0 (Q_m7_55 Z a0 jj0 jj1 jj2 jj3 jj4 jj5 jj6 jj7 jj8 jj9 jj10 jj11 jj12 jj13 jj14 h0 n0) := by
 refine MetN.of (plainFor_of_name pn_4) ?_
 intro p e s m below meth c s₁ hret hx hby hml hown hnm hlk hZ X0 e0
 have N0 := Fr.nil n0
 rw [ef_m7_55 m a0]
 refine w_iconst X0 hx (d7_0 hby) (v := (4 : Int32)) rfl (pc' := 1) rfl ?_
 refine w_newR X0 hx 4 "[Ljava/lang/Object;" hZ hown (wd_53 hw) (wd_54 hw) e0 (d7_1 hby) (by decide) (by decide) (by decide) (by decide) (by decide) (by decide +kernel) (pc' := 4) rfl ?_
 intro T20 h20 k20 b20 X20 e20 E20 g20 A20 Q20 O20
 have ge21 : n0 ≤ b20 := Nat.le_trans Z0 (Nat.le_of_eq g20.symm)
 have sz22 : h0.size ≤ b20 := Nat.le_trans (Nat.le_refl _) (Nat.le_of_eq g20.symm)
 have K23 : Keep h0 h20 [jj3] := (Keep.refl h0 [jj3]).ext E20
 have V24 : Arv Z h20 b20 k20 (.object kc3) (4 : Int32) [.null, .null, .null, .null] .null := (Arv.new A20 (by decide)).pad (pad_rep [] .null 4)
 refine w_dup X20 hx (d7_4 hby) rfl (pc' := 5) rfl ?_
 refine w_iconst X20 hx (d7_5 hby) (v := (0 : Int32)) rfl (pc' := 6) rfl ?_
 refine w_aloadN X20 hx (d7_6 hby) rfl rfl (pc' := 7) rfl ?_
 have f25 : Fld Z h20 a0 kc1 "status" "I" (.int jj0) := (zz15.ext E20)
 refine w_getF X20 hx "" hZ hown (Or.inl (wd_20 hw)) Via.refl e20 f25 (d7_7 hby) (pc' := 10) rfl ?_
 intro T26 X26 e26
 have f27 : Old Z n0 h20 := (O0.ext E20)
 refine w_static X26 hx (y := yn_8) hown (mvT hZ (wd_55 hw)) (mvT hZ (wd_56 hw)) (mvT hZ (wd_57 hw)) (mvT hZ (wd_58 hw)) (by decide) (backOf (W := 3) (rm_m8_28 l Z aZ hw [] jj0 jj1 jj2 h20 n0 (Nat.le_trans Z0 E20.1) zz16 f27 zz17 zz18) hZ (wd_58 hw) (wd_57 hw) (by decide) (by decide)) (by rw [hml]; rfl) [(.int jj0)] (lenOf pd_12 rfl) rfl (Nat.le_of_eq rfl) (d7_10 hby) (fun _ _ => ⟨rfl, e26, (by decide : 1 + 1 ≤ _), (by decide : 4 + 1 ≤ _)⟩) (pc' := 13) rfl ?_
 rintro _ _ ⟨T28, L28, k28, n28⟩ X28 ⟨Lc28, hQ28, l28, y28, z28⟩
 dsimp only [Pt.U, Pt.locs, Pt.cells, Pt.slots] at X28 l28 y28 z28 hQ28 ⊢
 subst l28 y28 z28
 obtain ⟨r_28, rfl, N28q, K28, g28_0, g28_1⟩ := hQ28
 have N29 := Fr.app N0 N28q
 have K30 : Keep h0 T28.heap [jj3] := K23.trans K28 (all0 (P := fun x => x ∈ [jj3] ∨ h0.size ≤ x))
 show Runs _ _ _ _ (T28.setTop (mkF m 13 #[.val (.ref a0)] [(.ref r_28), (.int (0 : Int32)), (.ref b20), (.ref b20)]))
 have f31 : Arv Z T28.heap b20 k20 (.object kc3) (4 : Int32) [.null, .null, .null, .null] .null := (V24.keep K28 nin0)
 obtain ⟨clu32, Aru32, qu32, Su32, Nu32, Hu32, Gu32⟩ := id f31
 have hinu32 := inb_of (j := (0 : Int32)) Su32 ⟨by decide, by decide⟩
 refine w_stR X28 hx hZ rfl Aru32 hinu32 rfl (Sto.ofV Aru32 qu32 O20 (Ins.of_exa g28_0 (wd_62 hw))) (d7_13 hby) (pc' := 14) rfl ?_
 intro T33 h33 X33 e33 W33
 have V34 : Arv Z h33 b20 k20 (.object kc3) (4 : Int32) [(.ref r_28), .null, .null, .null] .null := Arv.set Aru32 qu32 Su32 Nu32 Hu32 Gu32 rfl W33 0 rfl (Nat.le_of_ble_eq_true rfl)
 have K35 : Keep h0 h33 [jj3] := K30.wr W33 (Or.inr sz22)
 have N36 := Fr.snoc X33 N29 ge21
 refine w_dup X33 hx (d7_14 hby) rfl (pc' := 15) rfl ?_
 refine w_iconst X33 hx (d7_15 hby) (v := (1 : Int32)) rfl (pc' := 16) rfl ?_
 refine w_aloadN X33 hx (d7_16 hby) rfl rfl (pc' := 17) rfl ?_
 have ne37 : a0 ≠ b20 := (Nat.ne_of_lt (Nat.lt_of_lt_of_le zz15.lt (Nat.le_trans (Nat.le_refl _) (Nat.le_of_eq g20.symm))))
 have f38 : Fld Z h33 a0 kc1 "contentType" "Ljava/lang/String;" .null := (((zz19.ext E20).keep K28 nin0).other W33 (Or.inl ne37))
 refine w_getF X33 hx "" hZ hown (Or.inl (wd_22 hw)) Via.refl e33 f38 (d7_17 hby) (pc' := 20) rfl ?_
 intro T39 X39 e39
 obtain ⟨clu40, Aru40, qu40, Su40, Nu40, Hu40, Gu40⟩ := id V34
 have hinu40 := inb_of (j := (1 : Int32)) Su40 ⟨by decide, by decide⟩
 refine w_stR X39 hx hZ e39 Aru40 hinu40 rfl (Or.inl rfl) (d7_20 hby) (pc' := 21) rfl ?_
 intro T41 h41 X41 e41 W41
 have V42 : Arv Z h41 b20 k20 (.object kc3) (4 : Int32) [(.ref r_28), .null, .null, .null] .null := Arv.set Aru40 qu40 Su40 Nu40 Hu40 Gu40 rfl W41 1 rfl (Nat.le_of_ble_eq_true rfl)
 have K43 : Keep h0 h41 [jj3] := K35.wr W41 (Or.inr sz22)
 have N44 := Fr.snoc X41 N36 ge21
 refine w_dup X41 hx (d7_21 hby) rfl (pc' := 22) rfl ?_
 refine w_iconst X41 hx (d7_22 hby) (v := (2 : Int32)) rfl (pc' := 23) rfl ?_
 refine w_aloadN X41 hx (d7_23 hby) rfl rfl (pc' := 24) rfl ?_
 have f45 : Fld Z h41 a0 kc1 "location" "Ljava/lang/String;" (.ref jj3) := ((((zz20.ext E20).keep K28 nin0).other W33 (Or.inl ne37)).other W41 (Or.inl ne37))
 refine w_getF X41 hx "" hZ hown (Or.inl (wd_24 hw)) Via.refl e41 f45 (d7_24 hby) (pc' := 27) rfl ?_
 intro T46 X46 e46
 have f48 : Exa Z h41 jj3 kc0 := ((((zz21.ext E20).keep K28).wr W33).wr W41)
 obtain ⟨clu47, Aru47, qu47, Su47, Nu47, Hu47, Gu47⟩ := id V42
 have hinu47 := inb_of (j := (2 : Int32)) Su47 ⟨by decide, by decide⟩
 refine w_stR X46 hx hZ e46 Aru47 hinu47 rfl (Sto.ofV Aru47 qu47 O20 (Ins.of_exa f48 (wd_124 hw))) (d7_27 hby) (pc' := 28) rfl ?_
 intro T49 h49 X49 e49 W49
 have V50 : Arv Z h49 b20 k20 (.object kc3) (4 : Int32) [(.ref r_28), .null, (.ref jj3), .null] .null := Arv.set Aru47 qu47 Su47 Nu47 Hu47 Gu47 rfl W49 2 rfl (Nat.le_of_ble_eq_true rfl)
 have K51 : Keep h0 h49 [jj3] := K43.wr W49 (Or.inr sz22)
 have N52 := Fr.snoc X49 N44 ge21
 refine w_dup X49 hx (d7_28 hby) rfl (pc' := 29) rfl ?_
 refine w_iconst X49 hx (d7_29 hby) (v := (3 : Int32)) rfl (pc' := 30) rfl ?_
 refine w_aloadN X49 hx (d7_30 hby) rfl rfl (pc' := 31) rfl ?_
 have f53 : Fld Z h49 a0 kc1 "body" "[B" (.ref jj4) := (((((zz22.ext E20).keep K28 nin0).other W33 (Or.inl ne37)).other W41 (Or.inl ne37)).other W49 (Or.inl ne37))
 refine w_getF X49 hx "" hZ hown (Or.inl (wd_46 hw)) Via.refl e49 f53 (d7_31 hby) (pc' := 34) rfl ?_
 intro T54 X54 e54
 have ne55 : jj4 ≠ b20 := (Nat.ne_of_lt (Nat.lt_of_lt_of_le zz23.lt (Nat.le_trans (Nat.le_refl _) (Nat.le_of_eq g20.symm))))
 have f56 : Arv Z h49 jj4 jj5 .byte jj6 (mI jj7) (.int (0 : Int32)) := (((((zz23.ext E20).keep K28 nin0).other W33 ne55).other W41 ne55).other W49 ne55)
 have f57 : Exa Z h49 jj4 "[B" := (((((zz24.ext E20).keep K28).wr W33).wr W41).wr W49)
 have le58 : h0.size ≤ T28.heap.size := (Nat.le_trans E20.1 K28.1)
 have le59 : h0.size ≤ h33.size := (Nat.le_trans le58 (Keep.of_wr W33).1)
 have le60 : h0.size ≤ h41.size := (Nat.le_trans le59 (Keep.of_wr W41).1)
 have le61 : h0.size ≤ h49.size := (Nat.le_trans le60 (Keep.of_wr W49).1)
 refine w_static X54 hx (y := yn_9) hown (mvT hZ (wd_63 hw)) (mvT hZ (wd_64 hw)) (mvT hZ (wd_65 hw)) (mvT hZ (wd_66 hw)) (by decide) (backOf (W := 3) (rm_m9_31 l Z aZ hw [] jj4 jj5 jj6 jj7 h49 n0 (Nat.le_trans Z0 le61) f56 zz25 f57) hZ (wd_66 hw) (wd_65 hw) (by decide) (by decide)) (by rw [hml]; rfl) [(.ref jj4)] (lenOf pd_15 rfl) rfl (Nat.le_of_eq rfl) (d7_34 hby) (fun _ _ => ⟨rfl, e54, (by decide : 2 + 0 ≤ _), (by decide : 5 + 0 ≤ _)⟩) (pc' := 37) rfl ?_
 rintro _ _ ⟨T62, L62, k62, n62⟩ X62 ⟨Lc62, hQ62, l62, y62, z62⟩
 dsimp only [Pt.U, Pt.locs, Pt.cells, Pt.slots] at X62 l62 y62 z62 hQ62 ⊢
 subst l62 y62 z62
 obtain ⟨rfl, N62q, e62⟩ := hQ62
 have N63 := Fr.app N52 N62q
 show Runs _ _ _ _ (T62.setTop (mkF m 37 #[.val (.ref a0)] [(.int (hB jj7)), (.int (3 : Int32)), (.ref b20), (.ref b20)]))
 have f64 : Old Z n0 h49 := ((((f27.keep K28 all0).wr W33 ge21).wr W41 ge21).wr W49 ge21)
 refine w_static X62 hx (y := yn_8) hown (mvT hZ (wd_55 hw)) (mvT hZ (wd_56 hw)) (mvT hZ (wd_57 hw)) (mvT hZ (wd_58 hw)) (by decide) (backOf (W := 3) (rm_m8_28 l Z aZ hw [] (hB jj7) jj1 jj2 h49 n0 (Nat.le_trans Z0 le61) zz16 f64 zz17 zz18) hZ (wd_58 hw) (wd_57 hw) (by decide) (by decide)) (by rw [hml]; rfl) [(.int (hB jj7))] (lenOf pd_12 rfl) rfl (Nat.le_of_eq rfl) (d7_37 hby) (fun _ _ => ⟨rfl, e62, (by decide : 2 + 1 ≤ _), (by decide : 5 + 1 ≤ _)⟩) (pc' := 40) rfl ?_
 rintro _ _ ⟨T65, L65, k65, n65⟩ X65 ⟨Lc65, hQ65, l65, y65, z65⟩
 dsimp only [Pt.U, Pt.locs, Pt.cells, Pt.slots] at X65 l65 y65 z65 hQ65 ⊢
 subst l65 y65 z65
 obtain ⟨r_65, rfl, N65q, K65, g65_0, g65_1⟩ := hQ65
 have N66 := Fr.app N63 N65q
 have K67 : Keep h0 T65.heap [jj3] := K51.trans K65 (all0 (P := fun x => x ∈ [jj3] ∨ h0.size ≤ x))
 show Runs _ _ _ _ (T65.setTop (mkF m 40 #[.val (.ref a0)] [(.ref r_65), (.int (3 : Int32)), (.ref b20), (.ref b20)]))
 have f68 : Arv Z T65.heap b20 k20 (.object kc3) (4 : Int32) [(.ref r_28), .null, (.ref jj3), .null] .null := (V50.keep K65 nin0)
 obtain ⟨clu69, Aru69, qu69, Su69, Nu69, Hu69, Gu69⟩ := id f68
 have hinu69 := inb_of (j := (3 : Int32)) Su69 ⟨by decide, by decide⟩
 refine w_stR X65 hx hZ rfl Aru69 hinu69 rfl (Sto.ofV Aru69 qu69 O20 (Ins.of_exa g65_0 (wd_62 hw))) (d7_40 hby) (pc' := 41) rfl ?_
 intro T70 h70 X70 e70 W70
 have V71 : Arv Z h70 b20 k20 (.object kc3) (4 : Int32) [(.ref r_28), .null, (.ref jj3), (.ref r_65)] .null := Arv.set Aru69 qu69 Su69 Nu69 Hu69 Gu69 rfl W70 3 rfl (Nat.le_of_ble_eq_true rfl)
 have K72 : Keep h0 h70 [jj3] := K67.wr W70 (Or.inr sz22)
 have N73 := Fr.snoc X70 N66 ge21
 have f79 : Exa Z h70 r_28 kc2 := (((((g28_0.wr W33).wr W41).wr W49).keep K65).wr W70)
 have f81 : Exa Z h70 b20 "[Ljava/lang/Object;" := ((((((Q20.keep K28).wr W33).wr W41).wr W49).keep K65).wr W70)
 have ne80 : r_28 ≠ b20 := ne_exa f79 f81 (by decide)
 have f82 : Fld Z h70 r_28 kc2 "value" "I" (.int jj0) := (((((g28_1.other W33 (Or.inl ne80)).other W41 (Or.inl ne80)).other W49 (Or.inl ne80)).keep K65 nin0).other W70 (Or.inl ne80))
 have f83 : Exa Z h70 jj3 kc0 := (((f48.wr W49).keep K65).wr W70)
 have ne84 : jj3 ≠ b20 := (Nat.ne_of_lt (Nat.lt_of_lt_of_le zz21.lt (Nat.le_trans (Nat.le_refl _) (Nat.le_of_eq g20.symm))))
 have f85 : Fld Z h70 jj3 kc0 "hash" "I" (.int jj8) := (((((((zz26.ext E20).keep K28 nin0).other W33 (Or.inl ne84)).other W41 (Or.inl ne84)).other W49 (Or.inl ne84)).keep K65 nin0).other W70 (Or.inl ne84))
 have f86 : Fld Z h70 jj3 kc0 "hashIsZero" "Z" (.int jj9) := (((((((zz27.ext E20).keep K28 nin0).other W33 (Or.inl ne84)).other W41 (Or.inl ne84)).other W49 (Or.inl ne84)).keep K65 nin0).other W70 (Or.inl ne84))
 have f87 : Fld Z h70 jj3 kc0 "coder" "B" (.int (0 : Int32)) := (((((((zz28.ext E20).keep K28 nin0).other W33 (Or.inl ne84)).other W41 (Or.inl ne84)).other W49 (Or.inl ne84)).keep K65 nin0).other W70 (Or.inl ne84))
 have f88 : Fld Z h70 jj3 kc0 "value" "[B" (.ref jj10) := (((((((zz29.ext E20).keep K28 nin0).other W33 (Or.inl ne84)).other W41 (Or.inl ne84)).other W49 (Or.inl ne84)).keep K65 nin0).other W70 (Or.inl ne84))
 have ne89 : jj10 ≠ b20 := (Nat.ne_of_lt (Nat.lt_of_lt_of_le zz30.lt (Nat.le_trans (Nat.le_refl _) (Nat.le_of_eq g20.symm))))
 have f90 : Arv Z h70 jj10 jj11 .byte jj12 (mI jj13) (.int (0 : Int32)) := (((((((zz30.ext E20).keep K28 nin0).other W33 ne89).other W41 ne89).other W49 ne89).keep K65 nin0).other W70 ne89)
 have f91 : EB Z h70 jj10 jj12 := (((((((zz31.ext E20).keep K28).wr W33).wr W41).wr W49).keep K65).wr W70)
 have f92 : Exa Z h70 r_65 kc2 := (g65_0.wr W70)
 have ne93 : r_65 ≠ b20 := ne_exa f92 f81 (by decide)
 have f94 : Fld Z h70 r_65 kc2 "value" "I" (.int (hB jj7)) := (g65_1.other W70 (Or.inl ne93))
 have f95 : Old Z n0 h70 := ((f64.keep K65 all0).wr W70 ge21)
 have le96 : h0.size ≤ T65.heap.size := (Nat.le_trans le61 K65.1)
 have le97 : h0.size ≤ h70.size := (Nat.le_trans le96 (Keep.of_wr W70).1)
 refine w_static X70 hx (y := yn_10) hown (mvT hZ (wd_67 hw)) (mvT hZ (wd_68 hw)) (mvT hZ (wd_35 hw)) (mvT hZ (wd_69 hw)) (by decide) (backOf (W := 0) (rm_m10_56 l Z aZ hw [] b20 k20 r_28 jj3 r_65 jj0 jj8 jj9 jj10 jj11 jj12 jj13 (hB jj7) jj14 h70 n0 (Nat.le_trans Z0 le97) V71 f79 f82 f83 f85 f86 f87 f88 f90 f91 f92 f94 zz32 f95 zz33 zz34 zz35 zz36) hZ (wd_69 hw) (wd_35 hw) (by decide) (by decide)) (by rw [hml]; rfl) [(.ref b20)] (lenOf pd_18 rfl) rfl (Nat.le_of_eq rfl) (d7_41 hby) (fun _ _ => ⟨rfl, e70, (by decide : 3 + 0 ≤ _), (by decide : 6 + 0 ≤ _)⟩) (pc' := 44) rfl ?_
 rintro _ _ ⟨T98, L98, k98, n98⟩ X98 ⟨Lc98, hQ98, l98, y98, z98⟩
 dsimp only [Pt.U, Pt.locs, Pt.cells, Pt.slots] at X98 l98 y98 z98 hQ98 ⊢
 subst l98 y98 z98
 obtain ⟨rfl, N98q, K98, g98_0, g98_1, g98_2, g98_3, g98_4⟩ := hQ98
 have N99 := Fr.app N73 N98q
 have K100 : Keep h0 T98.heap [jj3] := K72.trans K98 (allS (Or.inl (by simp)) (all0 (P := fun x => x ∈ [jj3] ∨ h0.size ≤ x)))
 show Runs _ _ _ _ (T98.setTop (mkF m 44 #[.val (.ref a0)] [(.int (((31 : Int32) * (((31 : Int32) * (((31 : Int32) * ((31 : Int32) + jj0)) + (0 : Int32))) + (hS jj13))) + (hB jj7)))]))
 exact w_done X98 hlk (v := some (.int (((31 : Int32) * (((31 : Int32) * (((31 : Int32) * ((31 : Int32) + jj0)) + (0 : Int32))) + (hS jj13))) + (hB jj7)))) rfl (fun h => by rw [hret] at h; cases h) (fun fs hr => retI X98 hx hret (d7_44 hby) hr) (by decide) (by decide) (⟨rfl, N99, K100, g98_0, g98_1, g98_2, g98_3, g98_4⟩)
theorem ef_m29_62 (m : MethodId) (a0 : Addr) (a1 : Addr)  : entryFrame m #[(.ref a0), (.ref a1)] 3 = mkF m 0 #[.val (.ref a0), .val (.ref a1), .unset] [] := by first | (simp [entryFrame, mkF, argsToLocals, Value.category]; done) | rfl
def Q_m29_62 (Z : State) (a0 : Addr) (a1 : Addr) (k_a0 : ClassId) (jj0 : Int32) (l_a0 : List Int32) (k_a1 : ClassId) (h0 : Heap) (n0 : Nat) (v : Option Value) (h : Heap) (L : List Loc) : Prop := v = some (.int (1 : Int32)) ∧ Fr n0 L ∧ h = h0
theorem rm_m29_62 (l : Launch) (Z : State) (aZ : Array Value) (hw : ∀ d ∈ tables_1, d.before aZ Z = true) (ws : List Jvm.Cond) (a0 : Addr) (a1 : Addr) (k_a0 : ClassId) (jj0 : Int32) (l_a0 : List Int32) (k_a1 : ClassId) (h0 : Heap) (n0 : Nat) (Z0 : n0 ≤ h0.size) (V_a0 : Arv Z h0 a0 k_a0 .byte jj0 (mI l_a0) (.int (0 : Int32))) (V_a1 : Arv Z h0 a1 k_a1 .byte jj0 (mI l_a0) (.int (0 : Int32))) (hX_2 : TS jj0 l_a0) :
    MetN l Z yn_29 jdk_43_method_13_code 3 (some .boolean) ws ({ frames := 0, cells := 0, slots := 0, locals := 0 } : Room) #[(.ref a0), (.ref a1)] h0 (Q_m29_62 Z a0 a1 k_a0 jj0 l_a0 k_a1 h0 n0) := by
 refine MetN.of (plainFor_of_name pn_9) ?_
 intro p e s m below meth c s₁ hret hx hby hml hown hnm hlk hZ X0 e0
 have N0 := Fr.nil n0
 rw [ef_m29_62 m a0 a1]
 rcases hX_2 with ⟨rfl, rfl⟩ | ⟨x1, rfl, rfl⟩ | ⟨x1, x2, rfl, rfl⟩
 · have V20 : Arv Z h0 a0 k_a0 .byte (0 : Int32) [] (.int (0 : Int32)) := V_a0
   have V21 : Arv Z h0 a1 k_a1 .byte (0 : Int32) [] (.int (0 : Int32)) := V_a1
   refine w_aloadN X0 hx (d29_0 hby) rfl rfl (pc' := 1) rfl ?_
   refine w_alen X0 hx hZ e0 V20 (d29_1 hby) (pc' := 2) rfl ?_
   refine w_aloadN X0 hx (d29_2 hby) rfl rfl (pc' := 3) rfl ?_
   refine w_alen X0 hx hZ e0 V21 (d29_3 hby) (pc' := 4) rfl ?_
   refine w_icN X0 hx (d29_4 hby) (teq (by decide : (0 : Int32) = (0 : Int32))).2 (pc' := 7) rfl ?_
   refine w_iconst X0 hx (d29_7 hby) (v := (0 : Int32)) rfl (pc' := 8) rfl ?_
   refine w_istoreN X0 hx (d29_8 hby) (L' := #[.val (.ref a0), .val (.ref a1), .val (.int (0 : Int32))]) rfl (pc' := 9) rfl ?_
   refine w_iloadN X0 hx (d29_9 hby) rfl (pc' := 10) rfl ?_
   refine w_aloadN X0 hx (d29_10 hby) rfl rfl (pc' := 11) rfl ?_
   refine w_alen X0 hx hZ e0 V20 (d29_11 hby) (pc' := 12) rfl ?_
   refine w_icY X0 hx (d29_12 hby) (flt (by decide : ¬ ((0 : Int32) < (0 : Int32)))).2.1 (pc' := 32) (by decide) (by decide) ?_
   refine w_iconst X0 hx (d29_32 hby) (v := (1 : Int32)) rfl (pc' := 33) rfl ?_
   exact w_done X0 hlk (v := some (.int (1 : Int32))) e0 (fun h => by rw [hret] at h; cases h) (fun fs hr => retN X0 hx (t := .boolean) hret (by simp) (d29_33 hby) hr) (by decide) (by decide) (⟨rfl, N0, rfl⟩)
 · have V22 : Arv Z h0 a0 k_a0 .byte (1 : Int32) [(.int x1)] (.int (0 : Int32)) := V_a0
   have V23 : Arv Z h0 a1 k_a1 .byte (1 : Int32) [(.int x1)] (.int (0 : Int32)) := V_a1
   refine w_aloadN X0 hx (d29_0 hby) rfl rfl (pc' := 1) rfl ?_
   refine w_alen X0 hx hZ e0 V22 (d29_1 hby) (pc' := 2) rfl ?_
   refine w_aloadN X0 hx (d29_2 hby) rfl rfl (pc' := 3) rfl ?_
   refine w_alen X0 hx hZ e0 V23 (d29_3 hby) (pc' := 4) rfl ?_
   refine w_icN X0 hx (d29_4 hby) (teq (by decide : (1 : Int32) = (1 : Int32))).2 (pc' := 7) rfl ?_
   refine w_iconst X0 hx (d29_7 hby) (v := (0 : Int32)) rfl (pc' := 8) rfl ?_
   refine w_istoreN X0 hx (d29_8 hby) (L' := #[.val (.ref a0), .val (.ref a1), .val (.int (0 : Int32))]) rfl (pc' := 9) rfl ?_
   refine w_iloadN X0 hx (d29_9 hby) rfl (pc' := 10) rfl ?_
   refine w_aloadN X0 hx (d29_10 hby) rfl rfl (pc' := 11) rfl ?_
   refine w_alen X0 hx hZ e0 V22 (d29_11 hby) (pc' := 12) rfl ?_
   refine w_icN X0 hx (d29_12 hby) (tlt (by decide : (0 : Int32) < (1 : Int32))).2.1 (pc' := 15) rfl ?_
   refine w_aloadN X0 hx (d29_15 hby) rfl rfl (pc' := 16) rfl ?_
   refine w_iloadN X0 hx (d29_16 hby) rfl (pc' := 17) rfl ?_
   obtain ⟨clu24, Aru24, qu24, Su24, Nu24, Hu24, Gu24⟩ := id V22
   have hinu24 := inb_of (j := (0 : Int32)) Su24 ⟨by decide, by decide⟩
   refine w_baload X0 hx hZ e0 Aru24 hinu24 (Hu24.at hinu24 rfl) (d29_17 hby) (pc' := 18) rfl ?_
   refine w_aloadN X0 hx (d29_18 hby) rfl rfl (pc' := 19) rfl ?_
   refine w_iloadN X0 hx (d29_19 hby) rfl (pc' := 20) rfl ?_
   obtain ⟨clu25, Aru25, qu25, Su25, Nu25, Hu25, Gu25⟩ := id V23
   have hinu25 := inb_of (j := (0 : Int32)) Su25 ⟨by decide, by decide⟩
   refine w_baload X0 hx hZ e0 Aru25 hinu25 (Hu25.at hinu25 rfl) (d29_20 hby) (pc' := 21) rfl ?_
   refine w_icY X0 hx (d29_21 hby) (teq (rfl : x1 = x1)).1 (pc' := 26) (by decide) (by decide) ?_
   refine w_iinc X0 hx (d29_26 hby) (v := (1 : Int32)) rfl rfl (L' := #[.val (.ref a0), .val (.ref a1), .val (.int ((0 : Int32) + (1 : Int32)))]) rfl (pc' := 29) rfl ?_
   rw [show ((0 : Int32) + (1 : Int32)) = (1 : Int32) from by decide]
   refine w_goto X0 hx (d29_29 hby) (pc' := 9) (by decide) (by decide) ?_
   refine w_iloadN X0 hx (d29_9 hby) rfl (pc' := 10) rfl ?_
   refine w_aloadN X0 hx (d29_10 hby) rfl rfl (pc' := 11) rfl ?_
   refine w_alen X0 hx hZ e0 V22 (d29_11 hby) (pc' := 12) rfl ?_
   refine w_icY X0 hx (d29_12 hby) (flt (by decide : ¬ ((1 : Int32) < (1 : Int32)))).2.1 (pc' := 32) (by decide) (by decide) ?_
   refine w_iconst X0 hx (d29_32 hby) (v := (1 : Int32)) rfl (pc' := 33) rfl ?_
   exact w_done X0 hlk (v := some (.int (1 : Int32))) e0 (fun h => by rw [hret] at h; cases h) (fun fs hr => retN X0 hx (t := .boolean) hret (by simp) (d29_33 hby) hr) (by decide) (by decide) (⟨rfl, N0, rfl⟩)
 · have V26 : Arv Z h0 a0 k_a0 .byte (2 : Int32) [(.int x1), (.int x2)] (.int (0 : Int32)) := V_a0
   have V27 : Arv Z h0 a1 k_a1 .byte (2 : Int32) [(.int x1), (.int x2)] (.int (0 : Int32)) := V_a1
   refine w_aloadN X0 hx (d29_0 hby) rfl rfl (pc' := 1) rfl ?_
   refine w_alen X0 hx hZ e0 V26 (d29_1 hby) (pc' := 2) rfl ?_
   refine w_aloadN X0 hx (d29_2 hby) rfl rfl (pc' := 3) rfl ?_
   refine w_alen X0 hx hZ e0 V27 (d29_3 hby) (pc' := 4) rfl ?_
   refine w_icN X0 hx (d29_4 hby) (teq (by decide : (2 : Int32) = (2 : Int32))).2 (pc' := 7) rfl ?_
   refine w_iconst X0 hx (d29_7 hby) (v := (0 : Int32)) rfl (pc' := 8) rfl ?_
   refine w_istoreN X0 hx (d29_8 hby) (L' := #[.val (.ref a0), .val (.ref a1), .val (.int (0 : Int32))]) rfl (pc' := 9) rfl ?_
   refine w_iloadN X0 hx (d29_9 hby) rfl (pc' := 10) rfl ?_
   refine w_aloadN X0 hx (d29_10 hby) rfl rfl (pc' := 11) rfl ?_
   refine w_alen X0 hx hZ e0 V26 (d29_11 hby) (pc' := 12) rfl ?_
   refine w_icN X0 hx (d29_12 hby) (tlt (by decide : (0 : Int32) < (2 : Int32))).2.1 (pc' := 15) rfl ?_
   refine w_aloadN X0 hx (d29_15 hby) rfl rfl (pc' := 16) rfl ?_
   refine w_iloadN X0 hx (d29_16 hby) rfl (pc' := 17) rfl ?_
   obtain ⟨clu28, Aru28, qu28, Su28, Nu28, Hu28, Gu28⟩ := id V26
   have hinu28 := inb_of (j := (0 : Int32)) Su28 ⟨by decide, by decide⟩
   refine w_baload X0 hx hZ e0 Aru28 hinu28 (Hu28.at hinu28 rfl) (d29_17 hby) (pc' := 18) rfl ?_
   refine w_aloadN X0 hx (d29_18 hby) rfl rfl (pc' := 19) rfl ?_
   refine w_iloadN X0 hx (d29_19 hby) rfl (pc' := 20) rfl ?_
   obtain ⟨clu29, Aru29, qu29, Su29, Nu29, Hu29, Gu29⟩ := id V27
   have hinu29 := inb_of (j := (0 : Int32)) Su29 ⟨by decide, by decide⟩
   refine w_baload X0 hx hZ e0 Aru29 hinu29 (Hu29.at hinu29 rfl) (d29_20 hby) (pc' := 21) rfl ?_
   refine w_icY X0 hx (d29_21 hby) (teq (rfl : x1 = x1)).1 (pc' := 26) (by decide) (by decide) ?_
   refine w_iinc X0 hx (d29_26 hby) (v := (1 : Int32)) rfl rfl (L' := #[.val (.ref a0), .val (.ref a1), .val (.int ((0 : Int32) + (1 : Int32)))]) rfl (pc' := 29) rfl ?_
   rw [show ((0 : Int32) + (1 : Int32)) = (1 : Int32) from by decide]
   refine w_goto X0 hx (d29_29 hby) (pc' := 9) (by decide) (by decide) ?_
   refine w_iloadN X0 hx (d29_9 hby) rfl (pc' := 10) rfl ?_
   refine w_aloadN X0 hx (d29_10 hby) rfl rfl (pc' := 11) rfl ?_
   refine w_alen X0 hx hZ e0 V26 (d29_11 hby) (pc' := 12) rfl ?_
   refine w_icN X0 hx (d29_12 hby) (tlt (by decide : (1 : Int32) < (2 : Int32))).2.1 (pc' := 15) rfl ?_
   refine w_aloadN X0 hx (d29_15 hby) rfl rfl (pc' := 16) rfl ?_
   refine w_iloadN X0 hx (d29_16 hby) rfl (pc' := 17) rfl ?_
   obtain ⟨clu30, Aru30, qu30, Su30, Nu30, Hu30, Gu30⟩ := id V26
   have hinu30 := inb_of (j := (1 : Int32)) Su30 ⟨by decide, by decide⟩
   refine w_baload X0 hx hZ e0 Aru30 hinu30 (Hu30.at hinu30 rfl) (d29_17 hby) (pc' := 18) rfl ?_
   refine w_aloadN X0 hx (d29_18 hby) rfl rfl (pc' := 19) rfl ?_
   refine w_iloadN X0 hx (d29_19 hby) rfl (pc' := 20) rfl ?_
   obtain ⟨clu31, Aru31, qu31, Su31, Nu31, Hu31, Gu31⟩ := id V27
   have hinu31 := inb_of (j := (1 : Int32)) Su31 ⟨by decide, by decide⟩
   refine w_baload X0 hx hZ e0 Aru31 hinu31 (Hu31.at hinu31 rfl) (d29_20 hby) (pc' := 21) rfl ?_
   refine w_icY X0 hx (d29_21 hby) (teq (rfl : x2 = x2)).1 (pc' := 26) (by decide) (by decide) ?_
   refine w_iinc X0 hx (d29_26 hby) (v := (1 : Int32)) rfl rfl (L' := #[.val (.ref a0), .val (.ref a1), .val (.int ((1 : Int32) + (1 : Int32)))]) rfl (pc' := 29) rfl ?_
   rw [show ((1 : Int32) + (1 : Int32)) = (2 : Int32) from by decide]
   refine w_goto X0 hx (d29_29 hby) (pc' := 9) (by decide) (by decide) ?_
   refine w_iloadN X0 hx (d29_9 hby) rfl (pc' := 10) rfl ?_
   refine w_aloadN X0 hx (d29_10 hby) rfl rfl (pc' := 11) rfl ?_
   refine w_alen X0 hx hZ e0 V26 (d29_11 hby) (pc' := 12) rfl ?_
   refine w_icY X0 hx (d29_12 hby) (flt (by decide : ¬ ((2 : Int32) < (2 : Int32)))).2.1 (pc' := 32) (by decide) (by decide) ?_
   refine w_iconst X0 hx (d29_32 hby) (v := (1 : Int32)) rfl (pc' := 33) rfl ?_
   exact w_done X0 hlk (v := some (.int (1 : Int32))) e0 (fun h => by rw [hret] at h; cases h) (fun fs hr => retN X0 hx (t := .boolean) hret (by simp) (d29_33 hby) hr) (by decide) (by decide) (⟨rfl, N0, rfl⟩)
theorem ef_m28_61 (m : MethodId) (a0 : Addr) (a1 : Addr)  : entryFrame m #[(.ref a0), (.ref a1)] 3 = mkF m 0 #[.val (.ref a0), .val (.ref a1), .unset] [] := by first | (simp [entryFrame, mkF, argsToLocals, Value.category]; done) | rfl
def Q_m28_61 (Z : State) (a0 : Addr) (a1 : Addr) (jj0 : Int32) (jj1 : Addr) (jj2 : Addr) (jj3 : ClassId) (jj4 : Int32) (jj5 : List Int32) (jj6 : ClassId) (h0 : Heap) (n0 : Nat) (v : Option Value) (h : Heap) (L : List Loc) : Prop := v = some (.int (1 : Int32)) ∧ Fr n0 L ∧ h = h0
theorem rm_m28_61 (l : Launch) (Z : State) (aZ : Array Value) (hw : ∀ d ∈ tables_1, d.before aZ Z = true) (ws : List Jvm.Cond) (a0 : Addr) (a1 : Addr) (jj0 : Int32) (jj1 : Addr) (jj2 : Addr) (jj3 : ClassId) (jj4 : Int32) (jj5 : List Int32) (jj6 : ClassId) (h0 : Heap) (n0 : Nat) (Z0 : n0 ≤ h0.size) (zz7 : a0 ≠ a1) (E_a1 : Exa Z h0 a1 kc0) (zz8 : Sta Z Z.heap kc0 "COMPACT_STRINGS" "Z" (.int jj0)) (O0 : Old Z n0 h0) (hP_4 : ¬ (jj0 = (0 : Int32))) (zz9 : Fld Z h0 a0 kc0 "coder" "B" (.int (0 : Int32))) (zz10 : Fld Z h0 a1 kc0 "coder" "B" (.int (0 : Int32))) (zz11 : Fld Z h0 a0 kc0 "value" "[B" (.ref jj1)) (zz12 : Fld Z h0 a1 kc0 "value" "[B" (.ref jj2)) (zz13 : Arv Z h0 jj1 jj3 .byte jj4 (mI jj5) (.int (0 : Int32))) (zz14 : Arv Z h0 jj2 jj6 .byte jj4 (mI jj5) (.int (0 : Int32))) (zz15 : TS jj4 jj5) :
    MetN l Z yn_28 jdk_42_method_66_code 3 (some .boolean) ws ({ frames := 1, cells := 0, slots := 0, locals := 14 } : Room) #[(.ref a0), (.ref a1)] h0 (Q_m28_61 Z a0 a1 jj0 jj1 jj2 jj3 jj4 jj5 jj6 h0 n0) := by
 refine MetN.of (plainFor_of_name pn_0) ?_
 intro p e s m below meth c s₁ hret hx hby hml hown hnm hlk hZ X0 e0
 have N0 := Fr.nil n0
 rw [ef_m28_61 m a0 a1]
 refine w_aloadN X0 hx (d28_0 hby) rfl rfl (pc' := 1) rfl ?_
 refine w_aloadN X0 hx (d28_1 hby) rfl rfl (pc' := 2) rfl ?_
 refine w_acmp X0 hx (d28_2 hby) (same := false) rfl rfl (decide_eq_false fun q => zz7 (Value.ref.inj q)) (pc' := 7) (by decide) (by decide) ?_
 refine w_aloadN X0 hx (d28_7 hby) rfl rfl (pc' := 8) rfl ?_
 refine w_instY X0 hx hZ hown (wd_154 hw) e0 (Ins.self E_a1) (d28_8 hby) (pc' := 11) rfl ?_
 intro T20 X20 e20
 refine w_ifN X20 hx (d28_11 hby) (feq (by decide : ¬ ((1 : Int32) = (0 : Int32)))).1 (pc' := 14) rfl ?_
 refine w_aloadN X20 hx (d28_14 hby) rfl rfl (pc' := 15) rfl ?_
 refine w_castY X20 hx hZ hown (wd_154 hw) e20 (Ins.self E_a1) (d28_15 hby) (pc' := 18) rfl ?_
 intro T21 X21 e21
 refine w_astoreN X21 hx (d28_18 hby) rfl (L' := #[.val (.ref a0), .val (.ref a1), .val (.ref a1)]) rfl (pc' := 19) rfl ?_
 refine w_getS X21 hx "" hZ hown (Or.inl (wd_111 hw)) Via.refl e21 (zz8.ext O0.2) (d28_19 hby) (pc' := 22) rfl ?_
 intro T22 X22 e22
 refine w_ifN X22 hx (d28_22 hby) (feq hP_4).1 (pc' := 25) rfl ?_
 refine w_aloadN X22 hx (d28_25 hby) rfl rfl (pc' := 26) rfl ?_
 refine w_getF X22 hx "" hZ hown (Or.inl (wd_122 hw)) Via.refl e22 zz9 (d28_26 hby) (pc' := 29) rfl ?_
 intro T23 X23 e23
 refine w_aloadN X23 hx (d28_29 hby) rfl rfl (pc' := 30) rfl ?_
 refine w_getF X23 hx "" hZ hown (Or.inl (wd_122 hw)) Via.refl e23 zz10 (d28_30 hby) (pc' := 33) rfl ?_
 intro T24 X24 e24
 refine w_icN X24 hx (d28_33 hby) (teq (by decide : (0 : Int32) = (0 : Int32))).2 (pc' := 36) rfl ?_
 refine w_aloadN X24 hx (d28_36 hby) rfl rfl (pc' := 37) rfl ?_
 refine w_getF X24 hx "" hZ hown (Or.inl (wd_123 hw)) Via.refl e24 zz11 (d28_37 hby) (pc' := 40) rfl ?_
 intro T25 X25 e25
 refine w_aloadN X25 hx (d28_40 hby) rfl rfl (pc' := 41) rfl ?_
 refine w_getF X25 hx "" hZ hown (Or.inl (wd_123 hw)) Via.refl e25 zz12 (d28_41 hby) (pc' := 44) rfl ?_
 intro T26 X26 e26
 refine w_static X26 hx (y := yn_29) hown (mvT hZ (wd_155 hw)) (mvT hZ (wd_156 hw)) (mvT hZ (wd_139 hw)) (mvT hZ (wd_157 hw)) (by decide) (backOf (W := 0) (rm_m29_62 l Z aZ hw [] jj1 jj2 jj3 jj4 jj5 jj6 h0 n0 Z0 zz13 zz14 zz15) hZ (wd_157 hw) (wd_139 hw) (by decide) (by decide)) (by rw [hml]; rfl) [(.ref jj1), (.ref jj2)] (lenOf pd_21 rfl) rfl (Nat.le_of_eq rfl) (d28_44 hby) (fun _ _ => ⟨rfl, e26, (by decide : 0 + 0 ≤ _), (by decide : 0 + 0 ≤ _)⟩) (pc' := 47) rfl ?_
 rintro _ _ ⟨T27, L27, k27, n27⟩ X27 ⟨Lc27, hQ27, l27, y27, z27⟩
 dsimp only [Pt.U, Pt.locs, Pt.cells, Pt.slots] at X27 l27 y27 z27 hQ27 ⊢
 subst l27 y27 z27
 obtain ⟨rfl, N27q, e27⟩ := hQ27
 have N28 := Fr.app N0 N27q
 show Runs _ _ _ _ (T27.setTop (mkF m 47 #[.val (.ref a0), .val (.ref a1), .val (.ref a1)] [(.int (1 : Int32))]))
 refine w_ifN X27 hx (d28_47 hby) (feq (by decide : ¬ ((1 : Int32) = (0 : Int32)))).1 (pc' := 50) rfl ?_
 refine w_iconst X27 hx (d28_50 hby) (v := (1 : Int32)) rfl (pc' := 51) rfl ?_
 refine w_goto X27 hx (d28_51 hby) (pc' := 55) (by decide) (by decide) ?_
 exact w_done X27 hlk (v := some (.int (1 : Int32))) e27 (fun h => by rw [hret] at h; cases h) (fun fs hr => retN X27 hx (t := .boolean) hret (by simp) (d28_55 hby) hr) (by decide) (by decide) (⟨rfl, N28, rfl⟩)
theorem ef_m15_60 (m : MethodId) (a0 : Addr) (a1 : Addr)  : entryFrame m #[(.ref a0), (.ref a1)] 2 = mkF m 0 #[.val (.ref a0), .val (.ref a1)] [] := by first | (simp [entryFrame, mkF, argsToLocals, Value.category]; done) | rfl
def Q_m15_60 (Z : State) (a0 : Addr) (a1 : Addr) (jj0 : Addr) (jj1 : Addr) (jj2 : ClassId) (jj3 : Int32) (jj4 : List Int32) (jj5 : ClassId) (jj6 : Int32) (h0 : Heap) (n0 : Nat) (v : Option Value) (h : Heap) (L : List Loc) : Prop := v = some (.int (1 : Int32)) ∧ Fr n0 L ∧ h = h0
theorem rm_m15_60 (l : Launch) (Z : State) (aZ : Array Value) (hw : ∀ d ∈ tables_1, d.before aZ Z = true) (ws : List Jvm.Cond) (a0 : Addr) (a1 : Addr) (jj0 : Addr) (jj1 : Addr) (jj2 : ClassId) (jj3 : Int32) (jj4 : List Int32) (jj5 : ClassId) (jj6 : Int32) (h0 : Heap) (n0 : Nat) (Z0 : n0 ≤ h0.size) (zz7 : a0 ≠ a1) (E_a0 : Exa Z h0 a0 kc0) (E_a1 : Exa Z h0 a1 kc0) (hP_3 : ¬ (jj6 = (0 : Int32))) (zz8 : Fld Z h0 a0 kc0 "coder" "B" (.int (0 : Int32))) (zz9 : Fld Z h0 a1 kc0 "coder" "B" (.int (0 : Int32))) (zz10 : Fld Z h0 a0 kc0 "value" "[B" (.ref jj0)) (zz11 : Fld Z h0 a1 kc0 "value" "[B" (.ref jj1)) (zz12 : Arv Z h0 jj0 jj2 .byte jj3 (mI jj4) (.int (0 : Int32))) (zz13 : Arv Z h0 jj1 jj5 .byte jj3 (mI jj4) (.int (0 : Int32))) (zz14 : Sta Z Z.heap kc0 "COMPACT_STRINGS" "Z" (.int jj6)) (O0 : Old Z n0 h0) (zz15 : TS jj3 jj4) :
    MetN l Z yn_15 jdk_31_method_2_code 2 (some .boolean) ws ({ frames := 2, cells := 0, slots := 0, locals := 28 } : Room) #[(.ref a0), (.ref a1)] h0 (Q_m15_60 Z a0 a1 jj0 jj1 jj2 jj3 jj4 jj5 jj6 h0 n0) := by
 refine MetN.of (plainFor_of_name pn_3) ?_
 intro p e s m below meth c s₁ hret hx hby hml hown hnm hlk hZ X0 e0
 have N0 := Fr.nil n0
 rw [ef_m15_60 m a0 a1]
 refine w_aloadN X0 hx (d15_0 hby) rfl rfl (pc' := 1) rfl ?_
 refine w_aloadN X0 hx (d15_1 hby) rfl rfl (pc' := 2) rfl ?_
 refine w_acmp X0 hx (d15_2 hby) (same := false) rfl rfl (decide_eq_false fun q => zz7 (Value.ref.inj q)) (pc' := 5) (by decide) (by decide) ?_
 refine w_aloadN X0 hx (d15_5 hby) rfl rfl (pc' := 6) rfl ?_
 refine w_ifnullN X0 hx (d15_6 hby) (pc' := 9) rfl ?_
 refine w_aloadN X0 hx (d15_9 hby) rfl rfl (pc' := 10) rfl ?_
 refine w_aloadN X0 hx (d15_10 hby) rfl rfl (pc' := 11) rfl ?_
 obtain ⟨cq20, kq20, q20a, q20b, q20c⟩ := isOf hZ e0 E_a0
 refine w_virtual X0 hx (y := (⟨kc3, "equals", "(Ljava/lang/Object;)Z"⟩ : MethodName)) (z := yn_28) hown (mvT hZ (wd_148 hw)) (mvT hZ (wd_149 hw)) (own_nfS (args := #[]) (mvT hZ (wd_43 hw)) rfl) (mvT hZ (wd_151 hw)) (mvT hZ (wd_152 hw)) (by decide) (backOf (W := 0) (rm_m28_61 l Z aZ hw [] a0 a1 jj6 jj0 jj1 jj2 jj3 jj4 jj5 h0 n0 Z0 zz7 E_a1 zz14 O0 hP_3 zz8 zz9 zz10 zz11 zz12 zz13 zz15) hZ (wd_153 hw) (wd_27 hw) (by decide) (by decide)) q20a q20c (by rw [hml]; rfl) [(.ref a1)] (lenOf pd_22 rfl) rfl (Nat.le_of_eq rfl) (d15_11 hby) (fun _ _ => ⟨rfl, e0, (by decide : 0 + 0 ≤ _), (by decide : 0 + 0 ≤ _)⟩) (pc' := 14) rfl ?_
 rintro _ _ ⟨T20, L20, k20, n20⟩ X20 ⟨Lc20, hQ20, l20, y20, z20⟩
 dsimp only [Pt.U, Pt.locs, Pt.cells, Pt.slots] at X20 l20 y20 z20 hQ20 ⊢
 subst l20 y20 z20
 obtain ⟨rfl, N20q, e20⟩ := hQ20
 have N21 := Fr.app N0 N20q
 show Runs _ _ _ _ (T20.setTop (mkF m 14 #[.val (.ref a0), .val (.ref a1)] [(.int (1 : Int32))]))
 refine w_ifN X20 hx (d15_14 hby) (feq (by decide : ¬ ((1 : Int32) = (0 : Int32)))).1 (pc' := 17) rfl ?_
 refine w_iconst X20 hx (d15_17 hby) (v := (1 : Int32)) rfl (pc' := 18) rfl ?_
 refine w_goto X20 hx (d15_18 hby) (pc' := 22) (by decide) (by decide) ?_
 exact w_done X20 hlk (v := some (.int (1 : Int32))) e20 (fun h => by rw [hret] at h; cases h) (fun fs hr => retN X20 hx (t := .boolean) hret (by simp) (d15_22 hby) hr) (by decide) (by decide) (⟨rfl, N21, rfl⟩)
theorem ef_m14_59 (m : MethodId) (a0 : Addr) (a1 : Addr)  : entryFrame m #[(.ref a0), (.ref a1)] 3 = mkF m 0 #[.val (.ref a0), .val (.ref a1), .unset] [] := by first | (simp [entryFrame, mkF, argsToLocals, Value.category]; done) | rfl
def Q_m14_59 (Z : State) (a0 : Addr) (a1 : Addr) (jj0 : Int32) (jj1 : Addr) (jj2 : Addr) (jj3 : Addr) (jj4 : Addr) (jj5 : ClassId) (jj6 : Int32) (jj7 : List Int32) (jj8 : ClassId) (jj9 : Int32) (jj10 : Addr) (jj11 : Addr) (jj12 : ClassId) (jj13 : Int32) (jj14 : List Int32) (jj15 : ClassId) (h0 : Heap) (n0 : Nat) (v : Option Value) (h : Heap) (L : List Loc) : Prop := v = some (.int (1 : Int32)) ∧ Fr n0 L ∧ h = h0
theorem rm_m14_59 (l : Launch) (Z : State) (aZ : Array Value) (hw : ∀ d ∈ tables_1, d.before aZ Z = true) (ws : List Jvm.Cond) (a0 : Addr) (a1 : Addr) (jj0 : Int32) (jj1 : Addr) (jj2 : Addr) (jj3 : Addr) (jj4 : Addr) (jj5 : ClassId) (jj6 : Int32) (jj7 : List Int32) (jj8 : ClassId) (jj9 : Int32) (jj10 : Addr) (jj11 : Addr) (jj12 : ClassId) (jj13 : Int32) (jj14 : List Int32) (jj15 : ClassId) (h0 : Heap) (n0 : Nat) (Z0 : n0 ≤ h0.size) (E_a1 : Exa Z h0 a1 kc1) (zz16 : Fld Z h0 a0 kc1 "status" "I" (.int jj0)) (zz17 : Fld Z h0 a1 kc1 "status" "I" (.int jj0)) (zz18 : Fld Z h0 a0 kc1 "contentType" "Ljava/lang/String;" .null) (zz19 : Fld Z h0 a1 kc1 "contentType" "Ljava/lang/String;" .null) (zz20 : Fld Z h0 a0 kc1 "location" "Ljava/lang/String;" (.ref jj1)) (zz21 : Fld Z h0 a1 kc1 "location" "Ljava/lang/String;" (.ref jj2)) (zz22 : Exa Z h0 jj1 kc0) (zz23 : Exa Z h0 jj2 kc0) (zz24 : Fld Z h0 jj1 kc0 "coder" "B" (.int (0 : Int32))) (zz25 : Fld Z h0 jj2 kc0 "coder" "B" (.int (0 : Int32))) (zz26 : Fld Z h0 jj1 kc0 "value" "[B" (.ref jj3)) (zz27 : Fld Z h0 jj2 kc0 "value" "[B" (.ref jj4)) (zz28 : Arv Z h0 jj3 jj5 .byte jj6 (mI jj7) (.int (0 : Int32))) (zz29 : Arv Z h0 jj4 jj8 .byte jj6 (mI jj7) (.int (0 : Int32))) (zz30 : Sta Z Z.heap kc0 "COMPACT_STRINGS" "Z" (.int jj9)) (O0 : Old Z n0 h0) (zz31 : jj1 ≠ jj2) (zz32 : ¬ (jj9 = (0 : Int32))) (zz33 : TS jj6 jj7) (zz34 : Fld Z h0 a0 kc1 "body" "[B" (.ref jj10)) (zz35 : Fld Z h0 a1 kc1 "body" "[B" (.ref jj11)) (zz36 : Arv Z h0 jj10 jj12 .byte jj13 (mI jj14) (.int (0 : Int32))) (zz37 : Arv Z h0 jj11 jj15 .byte jj13 (mI jj14) (.int (0 : Int32))) (zz38 : TB jj13 jj14) (zz39 : jj10 ≠ jj11) :
    MetN l Z yn_14 prog_12_method_6_code 3 (some .boolean) ws ({ frames := 3, cells := 0, slots := 0, locals := 41 } : Room) #[(.ref a0), (.ref a1)] h0 (Q_m14_59 Z a0 a1 jj0 jj1 jj2 jj3 jj4 jj5 jj6 jj7 jj8 jj9 jj10 jj11 jj12 jj13 jj14 jj15 h0 n0) := by
 refine MetN.of (plainFor_of_name pn_4) ?_
 intro p e s m below meth c s₁ hret hx hby hml hown hnm hlk hZ X0 e0
 have N0 := Fr.nil n0
 rw [ef_m14_59 m a0 a1]
 refine w_aloadN X0 hx (d14_0 hby) rfl rfl (pc' := 1) rfl ?_
 refine w_instY X0 hx hZ hown (wd_89 hw) e0 (Ins.self E_a1) (d14_1 hby) (pc' := 4) rfl ?_
 intro T20 X20 e20
 refine w_ifN X20 hx (d14_4 hby) (feq (by decide : ¬ ((1 : Int32) = (0 : Int32)))).1 (pc' := 7) rfl ?_
 refine w_aloadN X20 hx (d14_7 hby) rfl rfl (pc' := 8) rfl ?_
 refine w_castY X20 hx hZ hown (wd_89 hw) e20 (Ins.self E_a1) (d14_8 hby) (pc' := 11) rfl ?_
 intro T21 X21 e21
 refine w_astoreN X21 hx (d14_11 hby) rfl (L' := #[.val (.ref a0), .val (.ref a1), .val (.ref a1)]) rfl (pc' := 12) rfl ?_
 refine w_aloadN X21 hx (d14_12 hby) rfl rfl (pc' := 13) rfl ?_
 refine w_getF X21 hx "" hZ hown (Or.inl (wd_20 hw)) Via.refl e21 zz16 (d14_13 hby) (pc' := 16) rfl ?_
 intro T22 X22 e22
 refine w_aloadN X22 hx (d14_16 hby) rfl rfl (pc' := 17) rfl ?_
 refine w_getF X22 hx "" hZ hown (Or.inl (wd_20 hw)) Via.refl e22 zz17 (d14_17 hby) (pc' := 20) rfl ?_
 intro T23 X23 e23
 refine w_icN X23 hx (d14_20 hby) (teq (rfl : jj0 = jj0)).2 (pc' := 23) rfl ?_
 refine w_aloadN X23 hx (d14_23 hby) rfl rfl (pc' := 24) rfl ?_
 refine w_getF X23 hx "" hZ hown (Or.inl (wd_22 hw)) Via.refl e23 zz18 (d14_24 hby) (pc' := 27) rfl ?_
 intro T24 X24 e24
 refine w_aloadN X24 hx (d14_27 hby) rfl rfl (pc' := 28) rfl ?_
 refine w_getF X24 hx "" hZ hown (Or.inl (wd_22 hw)) Via.refl e24 zz19 (d14_28 hby) (pc' := 31) rfl ?_
 intro T25 X25 e25
 refine w_static X25 hx (y := yn_15) hown (mvT hZ (wd_91 hw)) (mvT hZ (wd_92 hw)) (mvT hZ (wd_35 hw)) (mvT hZ (wd_93 hw)) (by decide) (backOf (W := 0) (rm_m15_41 l Z aZ hw []  h0 n0 Z0 ) hZ (wd_93 hw) (wd_35 hw) (by decide) (by decide)) (by rw [hml]; rfl) [.null, .null] (lenOf pd_19 rfl) rfl (Nat.le_of_eq rfl) (d14_31 hby) (fun _ _ => ⟨rfl, e25, (by decide : 0 + 0 ≤ _), (by decide : 0 + 0 ≤ _)⟩) (pc' := 34) rfl ?_
 rintro _ _ ⟨T26, L26, k26, n26⟩ X26 ⟨Lc26, hQ26, l26, y26, z26⟩
 dsimp only [Pt.U, Pt.locs, Pt.cells, Pt.slots] at X26 l26 y26 z26 hQ26 ⊢
 subst l26 y26 z26
 obtain ⟨rfl, N26q, e26⟩ := hQ26
 have N27 := Fr.app N0 N26q
 show Runs _ _ _ _ (T26.setTop (mkF m 34 #[.val (.ref a0), .val (.ref a1), .val (.ref a1)] [(.int (1 : Int32))]))
 refine w_ifN X26 hx (d14_34 hby) (feq (by decide : ¬ ((1 : Int32) = (0 : Int32)))).1 (pc' := 37) rfl ?_
 refine w_aloadN X26 hx (d14_37 hby) rfl rfl (pc' := 38) rfl ?_
 refine w_getF X26 hx "" hZ hown (Or.inl (wd_24 hw)) Via.refl e26 zz20 (d14_38 hby) (pc' := 41) rfl ?_
 intro T28 X28 e28
 refine w_aloadN X28 hx (d14_41 hby) rfl rfl (pc' := 42) rfl ?_
 refine w_getF X28 hx "" hZ hown (Or.inl (wd_24 hw)) Via.refl e28 zz21 (d14_42 hby) (pc' := 45) rfl ?_
 intro T29 X29 e29
 refine w_static X29 hx (y := yn_15) hown (mvT hZ (wd_91 hw)) (mvT hZ (wd_92 hw)) (mvT hZ (wd_35 hw)) (mvT hZ (wd_93 hw)) (by decide) (backOf (W := 0) (rm_m15_60 l Z aZ hw [] jj1 jj2 jj3 jj4 jj5 jj6 jj7 jj8 jj9 h0 n0 Z0 zz31 zz22 zz23 zz32 zz24 zz25 zz26 zz27 zz28 zz29 zz30 O0 zz33) hZ (wd_93 hw) (wd_35 hw) (by decide) (by decide)) (by rw [hml]; rfl) [(.ref jj1), (.ref jj2)] (lenOf pd_19 rfl) rfl (Nat.le_of_eq rfl) (d14_45 hby) (fun _ _ => ⟨rfl, e29, (by decide : 0 + 0 ≤ _), (by decide : 0 + 0 ≤ _)⟩) (pc' := 48) rfl ?_
 rintro _ _ ⟨T30, L30, k30, n30⟩ X30 ⟨Lc30, hQ30, l30, y30, z30⟩
 dsimp only [Pt.U, Pt.locs, Pt.cells, Pt.slots] at X30 l30 y30 z30 hQ30 ⊢
 subst l30 y30 z30
 obtain ⟨rfl, N30q, e30⟩ := hQ30
 have N31 := Fr.app N27 N30q
 show Runs _ _ _ _ (T30.setTop (mkF m 48 #[.val (.ref a0), .val (.ref a1), .val (.ref a1)] [(.int (1 : Int32))]))
 refine w_ifN X30 hx (d14_48 hby) (feq (by decide : ¬ ((1 : Int32) = (0 : Int32)))).1 (pc' := 51) rfl ?_
 refine w_aloadN X30 hx (d14_51 hby) rfl rfl (pc' := 52) rfl ?_
 refine w_getF X30 hx "" hZ hown (Or.inl (wd_46 hw)) Via.refl e30 zz34 (d14_52 hby) (pc' := 55) rfl ?_
 intro T32 X32 e32
 refine w_aloadN X32 hx (d14_55 hby) rfl rfl (pc' := 56) rfl ?_
 refine w_getF X32 hx "" hZ hown (Or.inl (wd_46 hw)) Via.refl e32 zz35 (d14_56 hby) (pc' := 59) rfl ?_
 intro T33 X33 e33
 refine w_static X33 hx (y := yn_16) hown (mvT hZ (wd_94 hw)) (mvT hZ (wd_95 hw)) (mvT hZ (wd_65 hw)) (mvT hZ (wd_96 hw)) (by decide) (backOf (W := 0) (rm_m16_42 l Z aZ hw [] jj10 jj11 jj12 jj13 jj14 jj15 h0 n0 Z0 zz36 zz37 zz38 zz39) hZ (wd_96 hw) (wd_65 hw) (by decide) (by decide)) (by rw [hml]; rfl) [(.ref jj10), (.ref jj11)] (lenOf pd_21 rfl) rfl (Nat.le_of_eq rfl) (d14_59 hby) (fun _ _ => ⟨rfl, e33, (by decide : 0 + 0 ≤ _), (by decide : 0 + 0 ≤ _)⟩) (pc' := 62) rfl ?_
 rintro _ _ ⟨T34, L34, k34, n34⟩ X34 ⟨Lc34, hQ34, l34, y34, z34⟩
 dsimp only [Pt.U, Pt.locs, Pt.cells, Pt.slots] at X34 l34 y34 z34 hQ34 ⊢
 subst l34 y34 z34
 obtain ⟨rfl, N34q, e34⟩ := hQ34
 have N35 := Fr.app N31 N34q
 show Runs _ _ _ _ (T34.setTop (mkF m 62 #[.val (.ref a0), .val (.ref a1), .val (.ref a1)] [(.int (1 : Int32))]))
 refine w_ifN X34 hx (d14_62 hby) (feq (by decide : ¬ ((1 : Int32) = (0 : Int32)))).1 (pc' := 65) rfl ?_
 refine w_iconst X34 hx (d14_65 hby) (v := (1 : Int32)) rfl (pc' := 66) rfl ?_
 refine w_goto X34 hx (d14_66 hby) (pc' := 70) (by decide) (by decide) ?_
 exact w_done X34 hlk (v := some (.int (1 : Int32))) e34 (fun h => by rw [hret] at h; cases h) (fun fs hr => retN X34 hx (t := .boolean) hret (by simp) (d14_70 hby) hr) (by decide) (by decide) (⟨rfl, N35, rfl⟩)
theorem ef_m11_65 (m : MethodId) (a0 : Addr)  : entryFrame m #[(.ref a0)] 6 = mkF m 0 #[.val (.ref a0), .unset, .unset, .unset, .unset, .unset] [] := by first | (simp [entryFrame, mkF, argsToLocals, Value.category]; done) | rfl
def Q_m11_65 (Z : State) (a0 : Addr) (k_a0 : ClassId) (jj0 : Addr) (jj1 : Addr) (jj2 : Addr) (jj3 : Int32) (jj4 : Int32) (jj5 : Addr) (jj6 : ClassId) (jj7 : Int32) (jj8 : List Int32) (jj9 : Int32) (h0 : Heap) (n0 : Nat) (v : Option Value) (h : Heap) (L : List Loc) : Prop := v = some (.int (((31 : Int32) * (((31 : Int32) * (((31 : Int32) * ((31 : Int32) + jj3)) + (hS jj8))) + (0 : Int32))) + jj9)) ∧ Fr n0 L ∧ Keep h0 h [jj1] ∧ Exa Z h jj1 kc0 ∧ Fld Z h jj1 kc0 "hash" "I" (.int (hS jj8)) ∧ Fld Z h jj1 kc0 "hashIsZero" "Z" (.int (if (hS jj8) = (0 : Int32) then (1 : Int32) else (0 : Int32))) ∧ Fld Z h jj1 kc0 "coder" "B" (.int (0 : Int32)) ∧ Fld Z h jj1 kc0 "value" "[B" (.ref jj5)
theorem rm_m11_65 (l : Launch) (Z : State) (aZ : Array Value) (hw : ∀ d ∈ tables_1, d.before aZ Z = true) (ws : List Jvm.Cond) (a0 : Addr) (k_a0 : ClassId) (jj0 : Addr) (jj1 : Addr) (jj2 : Addr) (jj3 : Int32) (jj4 : Int32) (jj5 : Addr) (jj6 : ClassId) (jj7 : Int32) (jj8 : List Int32) (jj9 : Int32) (h0 : Heap) (n0 : Nat) (Z0 : n0 ≤ h0.size) (V_a0 : Arv Z h0 a0 k_a0 (.object kc3) (4 : Int32) [(.ref jj0), (.ref jj1), .null, (.ref jj2)] .null) (zz10 : Exa Z h0 jj0 kc2) (zz11 : Fld Z h0 jj0 kc2 "value" "I" (.int jj3)) (zz12 : Exa Z h0 jj1 kc0) (zz13 : Fld Z h0 jj1 kc0 "hash" "I" (.int (0 : Int32))) (zz14 : Fld Z h0 jj1 kc0 "hashIsZero" "Z" (.int (0 : Int32))) (zz15 : Fld Z h0 jj1 kc0 "coder" "B" (.int (0 : Int32))) (zz16 : Sta Z Z.heap kc0 "COMPACT_STRINGS" "Z" (.int jj4)) (O0 : Old Z n0 h0) (zz17 : Fld Z h0 jj1 kc0 "value" "[B" (.ref jj5)) (zz18 : Arv Z h0 jj5 jj6 .byte jj7 (mI jj8) (.int (0 : Int32))) (zz19 : EB Z h0 jj5 jj7) (zz20 : ¬ (jj4 = (0 : Int32))) (zz21 : TS jj7 jj8) (zz22 : n0 ≤ jj1) (zz23 : Exa Z h0 jj2 kc2) (zz24 : Fld Z h0 jj2 kc2 "value" "I" (.int jj9)) :
    MetN l Z yn_11 jdk_65_method_157_code 6 (some .int) ws ({ frames := 4, cells := 0, slots := 0, locals := 59 } : Room) #[(.ref a0)] h0 (Q_m11_65 Z a0 k_a0 jj0 jj1 jj2 jj3 jj4 jj5 jj6 jj7 jj8 jj9 h0 n0) := by
 refine MetN.of (plainFor_of_name pn_8) ?_
 intro p e s m below meth c s₁ hret hx hby hml hown hnm hlk hZ X0 e0
 have N0 := Fr.nil n0
 rw [ef_m11_65 m a0]
 refine w_aloadN X0 hx (d11_0 hby) rfl rfl (pc' := 1) rfl ?_
 refine w_ifnonnullY X0 hx (d11_1 hby) (pc' := 6) (by decide) (by decide) ?_
 refine w_iconst X0 hx (d11_6 hby) (v := (1 : Int32)) rfl (pc' := 7) rfl ?_
 refine w_istoreN X0 hx (d11_7 hby) (L' := #[.val (.ref a0), .val (.int (1 : Int32)), .unset, .unset, .unset, .unset]) rfl (pc' := 8) rfl ?_
 refine w_aloadN X0 hx (d11_8 hby) rfl rfl (pc' := 9) rfl ?_
 refine w_astoreN X0 hx (d11_9 hby) rfl (L' := #[.val (.ref a0), .val (.int (1 : Int32)), .val (.ref a0), .unset, .unset, .unset]) rfl (pc' := 10) rfl ?_
 refine w_aloadN X0 hx (d11_10 hby) rfl rfl (pc' := 11) rfl ?_
 refine w_alen X0 hx hZ e0 V_a0 (d11_11 hby) (pc' := 12) rfl ?_
 refine w_istoreN X0 hx (d11_12 hby) (L' := #[.val (.ref a0), .val (.int (1 : Int32)), .val (.ref a0), .val (.int (4 : Int32)), .unset, .unset]) rfl (pc' := 13) rfl ?_
 refine w_iconst X0 hx (d11_13 hby) (v := (0 : Int32)) rfl (pc' := 14) rfl ?_
 refine w_istore X0 hx (d11_14 hby) (L' := #[.val (.ref a0), .val (.int (1 : Int32)), .val (.ref a0), .val (.int (4 : Int32)), .val (.int (0 : Int32)), .unset]) rfl (pc' := 16) rfl ?_
 refine w_iload X0 hx (d11_16 hby) rfl (pc' := 18) rfl ?_
 refine w_iloadN X0 hx (d11_18 hby) rfl (pc' := 19) rfl ?_
 refine w_icN X0 hx (d11_19 hby) (tlt (by decide : (0 : Int32) < (4 : Int32))).2.1 (pc' := 22) rfl ?_
 refine w_aloadN X0 hx (d11_22 hby) rfl rfl (pc' := 23) rfl ?_
 refine w_iload X0 hx (d11_23 hby) rfl (pc' := 25) rfl ?_
 obtain ⟨clu20, Aru20, qu20, Su20, Nu20, Hu20, Gu20⟩ := id V_a0
 have hinu20 := inb_of (j := (0 : Int32)) Su20 ⟨by decide, by decide⟩
 refine w_aaload X0 hx hZ e0 Aru20 rfl hinu20 (Hu20.at hinu20 rfl) (d11_25 hby) (pc' := 26) rfl ?_
 refine w_astore X0 hx (d11_26 hby) rfl (L' := #[.val (.ref a0), .val (.int (1 : Int32)), .val (.ref a0), .val (.int (4 : Int32)), .val (.int (0 : Int32)), .val (.ref jj0)]) rfl (pc' := 28) rfl ?_
 refine w_bipush X0 hx (d11_28 hby) (v := (31 : Int32)) rfl (pc' := 30) rfl ?_
 refine w_iloadN X0 hx (d11_30 hby) rfl (pc' := 31) rfl ?_
 refine w_imul X0 hx (d11_31 hby) (pc' := 32) rfl ?_
 rw [show ((31 : Int32) * (1 : Int32)) = (31 : Int32) from by decide]
 refine w_aload X0 hx (d11_32 hby) rfl rfl (pc' := 34) rfl ?_
 refine w_ifnonnullY X0 hx (d11_34 hby) (pc' := 41) (by decide) (by decide) ?_
 refine w_aload X0 hx (d11_41 hby) rfl rfl (pc' := 43) rfl ?_
 obtain ⟨cq21, kq21, q21a, q21b, q21c⟩ := isOf hZ e0 zz10
 refine w_virtual X0 hx (y := (⟨kc3, "hashCode", "()I"⟩ : MethodName)) (z := yn_12) hown (mvT hZ (wd_73 hw)) (mvT hZ (wd_74 hw)) (own_nfS (args := #[]) (mvT hZ (wd_43 hw)) rfl) (mvT hZ (wd_76 hw)) (mvT hZ (wd_77 hw)) (by decide) (backOf (W := 1) (rm_m12_38 l Z aZ hw [] jj0 jj3 h0 n0 Z0 zz11) hZ (wd_78 hw) (wd_57 hw) (by decide) (by decide)) q21a q21c (by rw [hml]; rfl) [] (lenOf pd_17 rfl) rfl (Nat.le_of_eq rfl) (d11_43 hby) (fun _ _ => ⟨rfl, e0, (by decide : 0 + 0 ≤ _), (by decide : 0 + 0 ≤ _)⟩) (pc' := 46) rfl ?_
 rintro _ _ ⟨T21, L21, k21, n21⟩ X21 ⟨Lc21, hQ21, l21, y21, z21⟩
 dsimp only [Pt.U, Pt.locs, Pt.cells, Pt.slots] at X21 l21 y21 z21 hQ21 ⊢
 subst l21 y21 z21
 obtain ⟨rfl, N21q, e21⟩ := hQ21
 have N22 := Fr.app N0 N21q
 show Runs _ _ _ _ (T21.setTop (mkF m 46 #[.val (.ref a0), .val (.int (1 : Int32)), .val (.ref a0), .val (.int (4 : Int32)), .val (.int (0 : Int32)), .val (.ref jj0)] [(.int jj3), (.int (31 : Int32))]))
 refine w_iadd X21 hx (d11_46 hby) (pc' := 47) rfl ?_
 refine w_istoreN X21 hx (d11_47 hby) (L' := #[.val (.ref a0), .val (.int ((31 : Int32) + jj3)), .val (.ref a0), .val (.int (4 : Int32)), .val (.int (0 : Int32)), .val (.ref jj0)]) rfl (pc' := 48) rfl ?_
 refine w_iinc X21 hx (d11_48 hby) (v := (1 : Int32)) rfl rfl (L' := #[.val (.ref a0), .val (.int ((31 : Int32) + jj3)), .val (.ref a0), .val (.int (4 : Int32)), .val (.int ((0 : Int32) + (1 : Int32))), .val (.ref jj0)]) rfl (pc' := 51) rfl ?_
 rw [show ((0 : Int32) + (1 : Int32)) = (1 : Int32) from by decide]
 refine w_goto X21 hx (d11_51 hby) (pc' := 16) (by decide) (by decide) ?_
 refine w_iload X21 hx (d11_16 hby) rfl (pc' := 18) rfl ?_
 refine w_iloadN X21 hx (d11_18 hby) rfl (pc' := 19) rfl ?_
 refine w_icN X21 hx (d11_19 hby) (tlt (by decide : (1 : Int32) < (4 : Int32))).2.1 (pc' := 22) rfl ?_
 refine w_aloadN X21 hx (d11_22 hby) rfl rfl (pc' := 23) rfl ?_
 refine w_iload X21 hx (d11_23 hby) rfl (pc' := 25) rfl ?_
 obtain ⟨clu23, Aru23, qu23, Su23, Nu23, Hu23, Gu23⟩ := id V_a0
 have hinu23 := inb_of (j := (1 : Int32)) Su23 ⟨by decide, by decide⟩
 refine w_aaload X21 hx hZ e21 Aru23 rfl hinu23 (Hu23.at hinu23 rfl) (d11_25 hby) (pc' := 26) rfl ?_
 refine w_astore X21 hx (d11_26 hby) rfl (L' := #[.val (.ref a0), .val (.int ((31 : Int32) + jj3)), .val (.ref a0), .val (.int (4 : Int32)), .val (.int (1 : Int32)), .val (.ref jj1)]) rfl (pc' := 28) rfl ?_
 refine w_bipush X21 hx (d11_28 hby) (v := (31 : Int32)) rfl (pc' := 30) rfl ?_
 refine w_iloadN X21 hx (d11_30 hby) rfl (pc' := 31) rfl ?_
 refine w_imul X21 hx (d11_31 hby) (pc' := 32) rfl ?_
 refine w_aload X21 hx (d11_32 hby) rfl rfl (pc' := 34) rfl ?_
 refine w_ifnonnullY X21 hx (d11_34 hby) (pc' := 41) (by decide) (by decide) ?_
 refine w_aload X21 hx (d11_41 hby) rfl rfl (pc' := 43) rfl ?_
 obtain ⟨cq24, kq24, q24a, q24b, q24c⟩ := isOf hZ e21 zz12
 refine w_virtual X21 hx (y := (⟨kc3, "hashCode", "()I"⟩ : MethodName)) (z := yn_23) hown (mvT hZ (wd_73 hw)) (mvT hZ (wd_74 hw)) (own_nfS (args := #[]) (mvT hZ (wd_43 hw)) rfl) (mvT hZ (wd_125 hw)) (mvT hZ (wd_126 hw)) (by decide) (backOf (W := 1) (rm_m23_50 l Z aZ hw [] jj1 jj4 jj5 jj6 jj7 jj8 h0 n0 Z0 zz13 zz14 zz12 zz20 zz15 zz16 O0 zz17 zz18 zz19 zz21 zz22) hZ (wd_127 hw) (wd_27 hw) (by decide) (by decide)) q24a q24c (by rw [hml]; rfl) [] (lenOf pd_17 rfl) rfl (Nat.le_of_eq rfl) (d11_43 hby) (fun _ _ => ⟨rfl, e21, (by decide : 0 + 0 ≤ _), (by decide : 0 + 0 ≤ _)⟩) (pc' := 46) rfl ?_
 rintro _ _ ⟨T24, L24, k24, n24⟩ X24 ⟨Lc24, hQ24, l24, y24, z24⟩
 dsimp only [Pt.U, Pt.locs, Pt.cells, Pt.slots] at X24 l24 y24 z24 hQ24 ⊢
 subst l24 y24 z24
 obtain ⟨rfl, N24q, K24, g24_0, g24_1, g24_2, g24_3, g24_4⟩ := hQ24
 have N25 := Fr.app N22 N24q
 have K26 : Keep h0 T24.heap [jj1] := (Keep.refl h0 [jj1]).trans K24 (allS (Or.inl (by simp)) (all0 (P := fun x => x ∈ [jj1] ∨ h0.size ≤ x)))
 show Runs _ _ _ _ (T24.setTop (mkF m 46 #[.val (.ref a0), .val (.int ((31 : Int32) + jj3)), .val (.ref a0), .val (.int (4 : Int32)), .val (.int (1 : Int32)), .val (.ref jj1)] [(.int (hS jj8)), (.int ((31 : Int32) * ((31 : Int32) + jj3)))]))
 refine w_iadd X24 hx (d11_46 hby) (pc' := 47) rfl ?_
 refine w_istoreN X24 hx (d11_47 hby) (L' := #[.val (.ref a0), .val (.int (((31 : Int32) * ((31 : Int32) + jj3)) + (hS jj8))), .val (.ref a0), .val (.int (4 : Int32)), .val (.int (1 : Int32)), .val (.ref jj1)]) rfl (pc' := 48) rfl ?_
 refine w_iinc X24 hx (d11_48 hby) (v := (1 : Int32)) rfl rfl (L' := #[.val (.ref a0), .val (.int (((31 : Int32) * ((31 : Int32) + jj3)) + (hS jj8))), .val (.ref a0), .val (.int (4 : Int32)), .val (.int ((1 : Int32) + (1 : Int32))), .val (.ref jj1)]) rfl (pc' := 51) rfl ?_
 rw [show ((1 : Int32) + (1 : Int32)) = (2 : Int32) from by decide]
 refine w_goto X24 hx (d11_51 hby) (pc' := 16) (by decide) (by decide) ?_
 refine w_iload X24 hx (d11_16 hby) rfl (pc' := 18) rfl ?_
 refine w_iloadN X24 hx (d11_18 hby) rfl (pc' := 19) rfl ?_
 refine w_icN X24 hx (d11_19 hby) (tlt (by decide : (2 : Int32) < (4 : Int32))).2.1 (pc' := 22) rfl ?_
 refine w_aloadN X24 hx (d11_22 hby) rfl rfl (pc' := 23) rfl ?_
 refine w_iload X24 hx (d11_23 hby) rfl (pc' := 25) rfl ?_
 have ne27 : jj1 ≠ a0 := Exa.neArv zz12 V_a0 (wd_28 hw)
 have f28 : Arv Z T24.heap a0 k_a0 (.object kc3) (4 : Int32) [(.ref jj0), (.ref jj1), .null, (.ref jj2)] .null := (V_a0.keep K24 (ninS (Ne.symm ne27) nin0))
 obtain ⟨clu29, Aru29, qu29, Su29, Nu29, Hu29, Gu29⟩ := id f28
 have hinu29 := inb_of (j := (2 : Int32)) Su29 ⟨by decide, by decide⟩
 refine w_aaload X24 hx hZ rfl Aru29 rfl hinu29 (Hu29.at hinu29 rfl) (d11_25 hby) (pc' := 26) rfl ?_
 refine w_astore X24 hx (d11_26 hby) rfl (L' := #[.val (.ref a0), .val (.int (((31 : Int32) * ((31 : Int32) + jj3)) + (hS jj8))), .val (.ref a0), .val (.int (4 : Int32)), .val (.int (2 : Int32)), .val .null]) rfl (pc' := 28) rfl ?_
 refine w_bipush X24 hx (d11_28 hby) (v := (31 : Int32)) rfl (pc' := 30) rfl ?_
 refine w_iloadN X24 hx (d11_30 hby) rfl (pc' := 31) rfl ?_
 refine w_imul X24 hx (d11_31 hby) (pc' := 32) rfl ?_
 refine w_aload X24 hx (d11_32 hby) rfl rfl (pc' := 34) rfl ?_
 refine w_ifnonnullN X24 hx (d11_34 hby) (pc' := 37) rfl ?_
 refine w_iconst X24 hx (d11_37 hby) (v := (0 : Int32)) rfl (pc' := 38) rfl ?_
 refine w_goto X24 hx (d11_38 hby) (pc' := 46) (by decide) (by decide) ?_
 refine w_iadd X24 hx (d11_46 hby) (pc' := 47) rfl ?_
 refine w_istoreN X24 hx (d11_47 hby) (L' := #[.val (.ref a0), .val (.int (((31 : Int32) * (((31 : Int32) * ((31 : Int32) + jj3)) + (hS jj8))) + (0 : Int32))), .val (.ref a0), .val (.int (4 : Int32)), .val (.int (2 : Int32)), .val .null]) rfl (pc' := 48) rfl ?_
 refine w_iinc X24 hx (d11_48 hby) (v := (1 : Int32)) rfl rfl (L' := #[.val (.ref a0), .val (.int (((31 : Int32) * (((31 : Int32) * ((31 : Int32) + jj3)) + (hS jj8))) + (0 : Int32))), .val (.ref a0), .val (.int (4 : Int32)), .val (.int ((2 : Int32) + (1 : Int32))), .val .null]) rfl (pc' := 51) rfl ?_
 rw [show ((2 : Int32) + (1 : Int32)) = (3 : Int32) from by decide]
 refine w_goto X24 hx (d11_51 hby) (pc' := 16) (by decide) (by decide) ?_
 refine w_iload X24 hx (d11_16 hby) rfl (pc' := 18) rfl ?_
 refine w_iloadN X24 hx (d11_18 hby) rfl (pc' := 19) rfl ?_
 refine w_icN X24 hx (d11_19 hby) (tlt (by decide : (3 : Int32) < (4 : Int32))).2.1 (pc' := 22) rfl ?_
 refine w_aloadN X24 hx (d11_22 hby) rfl rfl (pc' := 23) rfl ?_
 refine w_iload X24 hx (d11_23 hby) rfl (pc' := 25) rfl ?_
 obtain ⟨clu30, Aru30, qu30, Su30, Nu30, Hu30, Gu30⟩ := id f28
 have hinu30 := inb_of (j := (3 : Int32)) Su30 ⟨by decide, by decide⟩
 refine w_aaload X24 hx hZ rfl Aru30 rfl hinu30 (Hu30.at hinu30 rfl) (d11_25 hby) (pc' := 26) rfl ?_
 refine w_astore X24 hx (d11_26 hby) rfl (L' := #[.val (.ref a0), .val (.int (((31 : Int32) * (((31 : Int32) * ((31 : Int32) + jj3)) + (hS jj8))) + (0 : Int32))), .val (.ref a0), .val (.int (4 : Int32)), .val (.int (3 : Int32)), .val (.ref jj2)]) rfl (pc' := 28) rfl ?_
 refine w_bipush X24 hx (d11_28 hby) (v := (31 : Int32)) rfl (pc' := 30) rfl ?_
 refine w_iloadN X24 hx (d11_30 hby) rfl (pc' := 31) rfl ?_
 refine w_imul X24 hx (d11_31 hby) (pc' := 32) rfl ?_
 refine w_aload X24 hx (d11_32 hby) rfl rfl (pc' := 34) rfl ?_
 refine w_ifnonnullY X24 hx (d11_34 hby) (pc' := 41) (by decide) (by decide) ?_
 refine w_aload X24 hx (d11_41 hby) rfl rfl (pc' := 43) rfl ?_
 have f32 : Exa Z T24.heap jj2 kc2 := (zz23.keep K24)
 have ne31 : jj2 ≠ jj1 := ne_exa f32 g24_0 (by decide)
 have f33 : Fld Z T24.heap jj2 kc2 "value" "I" (.int jj9) := (zz24.keep K24 (ninS ne31 nin0))
 obtain ⟨cq34, kq34, q34a, q34b, q34c⟩ := isOf hZ rfl f32
 refine w_virtual X24 hx (y := (⟨kc3, "hashCode", "()I"⟩ : MethodName)) (z := yn_12) hown (mvT hZ (wd_73 hw)) (mvT hZ (wd_74 hw)) (own_nfS (args := #[]) (mvT hZ (wd_43 hw)) rfl) (mvT hZ (wd_76 hw)) (mvT hZ (wd_77 hw)) (by decide) (backOf (W := 1) (rm_m12_38 l Z aZ hw [] jj2 jj9 T24.heap n0 (Nat.le_trans Z0 K24.1) f33) hZ (wd_78 hw) (wd_57 hw) (by decide) (by decide)) q34a q34c (by rw [hml]; rfl) [] (lenOf pd_17 rfl) rfl (Nat.le_of_eq rfl) (d11_43 hby) (fun _ _ => ⟨rfl, rfl, (by decide : 0 + 0 ≤ _), (by decide : 0 + 0 ≤ _)⟩) (pc' := 46) rfl ?_
 rintro _ _ ⟨T34, L34, k34, n34⟩ X34 ⟨Lc34, hQ34, l34, y34, z34⟩
 dsimp only [Pt.U, Pt.locs, Pt.cells, Pt.slots] at X34 l34 y34 z34 hQ34 ⊢
 subst l34 y34 z34
 obtain ⟨rfl, N34q, e34⟩ := hQ34
 have N35 := Fr.app N25 N34q
 show Runs _ _ _ _ (T34.setTop (mkF m 46 #[.val (.ref a0), .val (.int (((31 : Int32) * (((31 : Int32) * ((31 : Int32) + jj3)) + (hS jj8))) + (0 : Int32))), .val (.ref a0), .val (.int (4 : Int32)), .val (.int (3 : Int32)), .val (.ref jj2)] [(.int jj9), (.int ((31 : Int32) * (((31 : Int32) * (((31 : Int32) * ((31 : Int32) + jj3)) + (hS jj8))) + (0 : Int32))))]))
 refine w_iadd X34 hx (d11_46 hby) (pc' := 47) rfl ?_
 refine w_istoreN X34 hx (d11_47 hby) (L' := #[.val (.ref a0), .val (.int (((31 : Int32) * (((31 : Int32) * (((31 : Int32) * ((31 : Int32) + jj3)) + (hS jj8))) + (0 : Int32))) + jj9)), .val (.ref a0), .val (.int (4 : Int32)), .val (.int (3 : Int32)), .val (.ref jj2)]) rfl (pc' := 48) rfl ?_
 refine w_iinc X34 hx (d11_48 hby) (v := (1 : Int32)) rfl rfl (L' := #[.val (.ref a0), .val (.int (((31 : Int32) * (((31 : Int32) * (((31 : Int32) * ((31 : Int32) + jj3)) + (hS jj8))) + (0 : Int32))) + jj9)), .val (.ref a0), .val (.int (4 : Int32)), .val (.int ((3 : Int32) + (1 : Int32))), .val (.ref jj2)]) rfl (pc' := 51) rfl ?_
 rw [show ((3 : Int32) + (1 : Int32)) = (4 : Int32) from by decide]
 refine w_goto X34 hx (d11_51 hby) (pc' := 16) (by decide) (by decide) ?_
 refine w_iload X34 hx (d11_16 hby) rfl (pc' := 18) rfl ?_
 refine w_iloadN X34 hx (d11_18 hby) rfl (pc' := 19) rfl ?_
 refine w_icY X34 hx (d11_19 hby) (flt (by decide : ¬ ((4 : Int32) < (4 : Int32)))).2.1 (pc' := 54) (by decide) (by decide) ?_
 refine w_iloadN X34 hx (d11_54 hby) rfl (pc' := 55) rfl ?_
 exact w_done X34 hlk (v := some (.int (((31 : Int32) * (((31 : Int32) * (((31 : Int32) * ((31 : Int32) + jj3)) + (hS jj8))) + (0 : Int32))) + jj9))) e34 (fun h => by rw [hret] at h; cases h) (fun fs hr => retI X34 hx hret (d11_55 hby) hr) (by decide) (by decide) (⟨rfl, N35, K26, g24_0, g24_3, g24_4, g24_1, g24_2⟩)
theorem ef_m10_64 (m : MethodId) (a0 : Addr)  : entryFrame m #[(.ref a0)] 1 = mkF m 0 #[.val (.ref a0)] [] := by first | (simp [entryFrame, mkF, argsToLocals, Value.category]; done) | rfl
def Q_m10_64 (Z : State) (a0 : Addr) (k_a0 : ClassId) (jj0 : Addr) (jj1 : Addr) (jj2 : Addr) (jj3 : Int32) (jj4 : Addr) (jj5 : ClassId) (jj6 : Int32) (jj7 : List Int32) (jj8 : Int32) (jj9 : Int32) (h0 : Heap) (n0 : Nat) (v : Option Value) (h : Heap) (L : List Loc) : Prop := v = some (.int (((31 : Int32) * (((31 : Int32) * (((31 : Int32) * ((31 : Int32) + jj3)) + (hS jj7))) + (0 : Int32))) + jj8)) ∧ Fr n0 L ∧ Keep h0 h [jj1] ∧ Exa Z h jj1 kc0 ∧ Fld Z h jj1 kc0 "hash" "I" (.int (hS jj7)) ∧ Fld Z h jj1 kc0 "hashIsZero" "Z" (.int (if (hS jj7) = (0 : Int32) then (1 : Int32) else (0 : Int32))) ∧ Fld Z h jj1 kc0 "coder" "B" (.int (0 : Int32)) ∧ Fld Z h jj1 kc0 "value" "[B" (.ref jj4)
theorem rm_m10_64 (l : Launch) (Z : State) (aZ : Array Value) (hw : ∀ d ∈ tables_1, d.before aZ Z = true) (ws : List Jvm.Cond) (a0 : Addr) (k_a0 : ClassId) (jj0 : Addr) (jj1 : Addr) (jj2 : Addr) (jj3 : Int32) (jj4 : Addr) (jj5 : ClassId) (jj6 : Int32) (jj7 : List Int32) (jj8 : Int32) (jj9 : Int32) (h0 : Heap) (n0 : Nat) (Z0 : n0 ≤ h0.size) (V_a0 : Arv Z h0 a0 k_a0 (.object kc3) (4 : Int32) [(.ref jj0), (.ref jj1), .null, (.ref jj2)] .null) (zz10 : Exa Z h0 jj0 kc2) (zz11 : Fld Z h0 jj0 kc2 "value" "I" (.int jj3)) (zz12 : Exa Z h0 jj1 kc0) (zz13 : Fld Z h0 jj1 kc0 "hash" "I" (.int (0 : Int32))) (zz14 : Fld Z h0 jj1 kc0 "hashIsZero" "Z" (.int (0 : Int32))) (zz15 : Fld Z h0 jj1 kc0 "coder" "B" (.int (0 : Int32))) (zz16 : Fld Z h0 jj1 kc0 "value" "[B" (.ref jj4)) (zz17 : Arv Z h0 jj4 jj5 .byte jj6 (mI jj7) (.int (0 : Int32))) (zz18 : EB Z h0 jj4 jj6) (zz19 : Exa Z h0 jj2 kc2) (zz20 : Fld Z h0 jj2 kc2 "value" "I" (.int jj8)) (zz21 : Sta Z Z.heap kc0 "COMPACT_STRINGS" "Z" (.int jj9)) (O0 : Old Z n0 h0) (zz22 : ¬ (jj9 = (0 : Int32))) (zz23 : TS jj6 jj7) (zz24 : n0 ≤ jj1) :
    MetN l Z yn_10 jdk_31_method_5_code 1 (some .int) ws ({ frames := 5, cells := 0, slots := 0, locals := 76 } : Room) #[(.ref a0)] h0 (Q_m10_64 Z a0 k_a0 jj0 jj1 jj2 jj3 jj4 jj5 jj6 jj7 jj8 jj9 h0 n0) := by
 refine MetN.of (plainFor_of_name pn_3) ?_
 intro p e s m below meth c s₁ hret hx hby hml hown hnm hlk hZ X0 e0
 have N0 := Fr.nil n0
 rw [ef_m10_64 m a0]
 refine w_aloadN X0 hx (d10_0 hby) rfl rfl (pc' := 1) rfl ?_
 refine w_static X0 hx (y := yn_11) hown (mvT hZ (wd_70 hw)) (mvT hZ (wd_71 hw)) (mvT hZ (wd_65 hw)) (mvT hZ (wd_72 hw)) (by decide) (backOf (W := 0) (rm_m11_65 l Z aZ hw [] a0 k_a0 jj0 jj1 jj2 jj3 jj9 jj4 jj5 jj6 jj7 jj8 h0 n0 Z0 V_a0 zz10 zz11 zz12 zz13 zz14 zz15 zz21 O0 zz16 zz17 zz18 zz22 zz23 zz24 zz19 zz20) hZ (wd_72 hw) (wd_65 hw) (by decide) (by decide)) (by rw [hml]; rfl) [(.ref a0)] (lenOf pd_18 rfl) rfl (Nat.le_of_eq rfl) (d10_1 hby) (fun _ _ => ⟨rfl, e0, (by decide : 0 + 0 ≤ _), (by decide : 0 + 0 ≤ _)⟩) (pc' := 4) rfl ?_
 rintro _ _ ⟨T20, L20, k20, n20⟩ X20 ⟨Lc20, hQ20, l20, y20, z20⟩
 dsimp only [Pt.U, Pt.locs, Pt.cells, Pt.slots] at X20 l20 y20 z20 hQ20 ⊢
 subst l20 y20 z20
 obtain ⟨rfl, N20q, K20, g20_0, g20_1, g20_2, g20_3, g20_4⟩ := hQ20
 have N21 := Fr.app N0 N20q
 have K22 : Keep h0 T20.heap [jj1] := (Keep.refl h0 [jj1]).trans K20 (allS (Or.inl (by simp)) (all0 (P := fun x => x ∈ [jj1] ∨ h0.size ≤ x)))
 show Runs _ _ _ _ (T20.setTop (mkF m 4 #[.val (.ref a0)] [(.int (((31 : Int32) * (((31 : Int32) * (((31 : Int32) * ((31 : Int32) + jj3)) + (hS jj7))) + (0 : Int32))) + jj8))]))
 exact w_done X20 hlk (v := some (.int (((31 : Int32) * (((31 : Int32) * (((31 : Int32) * ((31 : Int32) + jj3)) + (hS jj7))) + (0 : Int32))) + jj8))) rfl (fun h => by rw [hret] at h; cases h) (fun fs hr => retI X20 hx hret (d10_4 hby) hr) (by decide) (by decide) (⟨rfl, N21, K22, g20_0, g20_1, g20_2, g20_3, g20_4⟩)
theorem ef_m7_63 (m : MethodId) (a0 : Addr)  : entryFrame m #[(.ref a0)] 1 = mkF m 0 #[.val (.ref a0)] [] := by first | (simp [entryFrame, mkF, argsToLocals, Value.category]; done) | rfl
def Q_m7_63 (Z : State) (a0 : Addr) (jj0 : Int32) (jj1 : Addr) (jj2 : Cell) (jj3 : Addr) (jj4 : Addr) (jj5 : ClassId) (jj6 : Int32) (jj7 : List Int32) (jj8 : Addr) (jj9 : ClassId) (jj10 : Int32) (jj11 : List Int32) (jj12 : Int32) (h0 : Heap) (n0 : Nat) (v : Option Value) (h : Heap) (L : List Loc) : Prop := v = some (.int (((31 : Int32) * (((31 : Int32) * (((31 : Int32) * ((31 : Int32) + jj0)) + (hS jj11))) + (0 : Int32))) + (hB jj7))) ∧ Fr n0 L ∧ Keep h0 h [jj3] ∧ Exa Z h jj3 kc0 ∧ Fld Z h jj3 kc0 "hash" "I" (.int (hS jj11)) ∧ Fld Z h jj3 kc0 "hashIsZero" "Z" (.int (if (hS jj11) = (0 : Int32) then (1 : Int32) else (0 : Int32))) ∧ Fld Z h jj3 kc0 "coder" "B" (.int (0 : Int32)) ∧ Fld Z h jj3 kc0 "value" "[B" (.ref jj8)
theorem rm_m7_63 (l : Launch) (Z : State) (aZ : Array Value) (hw : ∀ d ∈ tables_1, d.before aZ Z = true) (ws : List Jvm.Cond) (a0 : Addr) (jj0 : Int32) (jj1 : Addr) (jj2 : Cell) (jj3 : Addr) (jj4 : Addr) (jj5 : ClassId) (jj6 : Int32) (jj7 : List Int32) (jj8 : Addr) (jj9 : ClassId) (jj10 : Int32) (jj11 : List Int32) (jj12 : Int32) (h0 : Heap) (n0 : Nat) (Z0 : n0 ≤ h0.size) (zz13 : Fld Z h0 a0 kc1 "status" "I" (.int jj0)) (zz14 : Sta Z Z.heap kc4 "high" "I" (.int (127 : Int32))) (O0 : Old Z n0 h0) (zz15 : Sta Z Z.heap kc4 "cache" "[Ljava/lang/Integer;" (.ref jj1)) (zz16 : Bxs Z jj1 jj2 kc2 "I" (256 : Int32) (fun j => .int (j - 128))) (zz17 : Fld Z h0 a0 kc1 "contentType" "Ljava/lang/String;" (.ref jj3)) (zz18 : Exa Z h0 jj3 kc0) (zz19 : Fld Z h0 a0 kc1 "location" "Ljava/lang/String;" .null) (zz20 : Fld Z h0 a0 kc1 "body" "[B" (.ref jj4)) (zz21 : Arv Z h0 jj4 jj5 .byte jj6 (mI jj7) (.int (0 : Int32))) (zz22 : Exa Z h0 jj4 "[B") (zz23 : TB jj6 jj7) (zz24 : Fld Z h0 jj3 kc0 "hash" "I" (.int (0 : Int32))) (zz25 : Fld Z h0 jj3 kc0 "hashIsZero" "Z" (.int (0 : Int32))) (zz26 : Fld Z h0 jj3 kc0 "coder" "B" (.int (0 : Int32))) (zz27 : Fld Z h0 jj3 kc0 "value" "[B" (.ref jj8)) (zz28 : Arv Z h0 jj8 jj9 .byte jj10 (mI jj11) (.int (0 : Int32))) (zz29 : EB Z h0 jj8 jj10) (zz30 : Sta Z Z.heap kc0 "COMPACT_STRINGS" "Z" (.int jj12)) (zz31 : ¬ (jj12 = (0 : Int32))) (zz32 : TS jj10 jj11) (zz33 : n0 ≤ jj3) :
    MetN l Z yn_7 prog_12_method_7_code 1 (some .int) ws ({ frames := 6, cells := 3, slots := 6, locals := 88 } : Room) #[(.ref a0)] h0 (Q_m7_63 Z a0 jj0 jj1 jj2 jj3 jj4 jj5 jj6 jj7 jj8 jj9 jj10 jj11 jj12 h0 n0) := by
 refine MetN.of (plainFor_of_name pn_4) ?_
 intro p e s m below meth c s₁ hret hx hby hml hown hnm hlk hZ X0 e0
 have N0 := Fr.nil n0
 rw [ef_m7_63 m a0]
 refine w_iconst X0 hx (d7_0 hby) (v := (4 : Int32)) rfl (pc' := 1) rfl ?_
 refine w_newR X0 hx 4 "[Ljava/lang/Object;" hZ hown (wd_53 hw) (wd_54 hw) e0 (d7_1 hby) (by decide) (by decide) (by decide) (by decide) (by decide) (by decide +kernel) (pc' := 4) rfl ?_
 intro T20 h20 k20 b20 X20 e20 E20 g20 A20 Q20 O20
 have ge21 : n0 ≤ b20 := Nat.le_trans Z0 (Nat.le_of_eq g20.symm)
 have sz22 : h0.size ≤ b20 := Nat.le_trans (Nat.le_refl _) (Nat.le_of_eq g20.symm)
 have K23 : Keep h0 h20 [jj3] := (Keep.refl h0 [jj3]).ext E20
 have V24 : Arv Z h20 b20 k20 (.object kc3) (4 : Int32) [.null, .null, .null, .null] .null := (Arv.new A20 (by decide)).pad (pad_rep [] .null 4)
 refine w_dup X20 hx (d7_4 hby) rfl (pc' := 5) rfl ?_
 refine w_iconst X20 hx (d7_5 hby) (v := (0 : Int32)) rfl (pc' := 6) rfl ?_
 refine w_aloadN X20 hx (d7_6 hby) rfl rfl (pc' := 7) rfl ?_
 have f25 : Fld Z h20 a0 kc1 "status" "I" (.int jj0) := (zz13.ext E20)
 refine w_getF X20 hx "" hZ hown (Or.inl (wd_20 hw)) Via.refl e20 f25 (d7_7 hby) (pc' := 10) rfl ?_
 intro T26 X26 e26
 have f27 : Old Z n0 h20 := (O0.ext E20)
 refine w_static X26 hx (y := yn_8) hown (mvT hZ (wd_55 hw)) (mvT hZ (wd_56 hw)) (mvT hZ (wd_57 hw)) (mvT hZ (wd_58 hw)) (by decide) (backOf (W := 3) (rm_m8_28 l Z aZ hw [] jj0 jj1 jj2 h20 n0 (Nat.le_trans Z0 E20.1) zz14 f27 zz15 zz16) hZ (wd_58 hw) (wd_57 hw) (by decide) (by decide)) (by rw [hml]; rfl) [(.int jj0)] (lenOf pd_12 rfl) rfl (Nat.le_of_eq rfl) (d7_10 hby) (fun _ _ => ⟨rfl, e26, (by decide : 1 + 1 ≤ _), (by decide : 4 + 1 ≤ _)⟩) (pc' := 13) rfl ?_
 rintro _ _ ⟨T28, L28, k28, n28⟩ X28 ⟨Lc28, hQ28, l28, y28, z28⟩
 dsimp only [Pt.U, Pt.locs, Pt.cells, Pt.slots] at X28 l28 y28 z28 hQ28 ⊢
 subst l28 y28 z28
 obtain ⟨r_28, rfl, N28q, K28, g28_0, g28_1⟩ := hQ28
 have N29 := Fr.app N0 N28q
 have K30 : Keep h0 T28.heap [jj3] := K23.trans K28 (all0 (P := fun x => x ∈ [jj3] ∨ h0.size ≤ x))
 show Runs _ _ _ _ (T28.setTop (mkF m 13 #[.val (.ref a0)] [(.ref r_28), (.int (0 : Int32)), (.ref b20), (.ref b20)]))
 have f31 : Arv Z T28.heap b20 k20 (.object kc3) (4 : Int32) [.null, .null, .null, .null] .null := (V24.keep K28 nin0)
 obtain ⟨clu32, Aru32, qu32, Su32, Nu32, Hu32, Gu32⟩ := id f31
 have hinu32 := inb_of (j := (0 : Int32)) Su32 ⟨by decide, by decide⟩
 refine w_stR X28 hx hZ rfl Aru32 hinu32 rfl (Sto.ofV Aru32 qu32 O20 (Ins.of_exa g28_0 (wd_62 hw))) (d7_13 hby) (pc' := 14) rfl ?_
 intro T33 h33 X33 e33 W33
 have V34 : Arv Z h33 b20 k20 (.object kc3) (4 : Int32) [(.ref r_28), .null, .null, .null] .null := Arv.set Aru32 qu32 Su32 Nu32 Hu32 Gu32 rfl W33 0 rfl (Nat.le_of_ble_eq_true rfl)
 have K35 : Keep h0 h33 [jj3] := K30.wr W33 (Or.inr sz22)
 have N36 := Fr.snoc X33 N29 ge21
 refine w_dup X33 hx (d7_14 hby) rfl (pc' := 15) rfl ?_
 refine w_iconst X33 hx (d7_15 hby) (v := (1 : Int32)) rfl (pc' := 16) rfl ?_
 refine w_aloadN X33 hx (d7_16 hby) rfl rfl (pc' := 17) rfl ?_
 have ne37 : a0 ≠ b20 := (Nat.ne_of_lt (Nat.lt_of_lt_of_le zz13.lt (Nat.le_trans (Nat.le_refl _) (Nat.le_of_eq g20.symm))))
 have f38 : Fld Z h33 a0 kc1 "contentType" "Ljava/lang/String;" (.ref jj3) := (((zz17.ext E20).keep K28 nin0).other W33 (Or.inl ne37))
 refine w_getF X33 hx "" hZ hown (Or.inl (wd_22 hw)) Via.refl e33 f38 (d7_17 hby) (pc' := 20) rfl ?_
 intro T39 X39 e39
 have f41 : Exa Z h33 jj3 kc0 := (((zz18.ext E20).keep K28).wr W33)
 obtain ⟨clu40, Aru40, qu40, Su40, Nu40, Hu40, Gu40⟩ := id V34
 have hinu40 := inb_of (j := (1 : Int32)) Su40 ⟨by decide, by decide⟩
 refine w_stR X39 hx hZ e39 Aru40 hinu40 rfl (Sto.ofV Aru40 qu40 O20 (Ins.of_exa f41 (wd_124 hw))) (d7_20 hby) (pc' := 21) rfl ?_
 intro T42 h42 X42 e42 W42
 have V43 : Arv Z h42 b20 k20 (.object kc3) (4 : Int32) [(.ref r_28), (.ref jj3), .null, .null] .null := Arv.set Aru40 qu40 Su40 Nu40 Hu40 Gu40 rfl W42 1 rfl (Nat.le_of_ble_eq_true rfl)
 have K44 : Keep h0 h42 [jj3] := K35.wr W42 (Or.inr sz22)
 have N45 := Fr.snoc X42 N36 ge21
 refine w_dup X42 hx (d7_21 hby) rfl (pc' := 22) rfl ?_
 refine w_iconst X42 hx (d7_22 hby) (v := (2 : Int32)) rfl (pc' := 23) rfl ?_
 refine w_aloadN X42 hx (d7_23 hby) rfl rfl (pc' := 24) rfl ?_
 have f46 : Fld Z h42 a0 kc1 "location" "Ljava/lang/String;" .null := ((((zz19.ext E20).keep K28 nin0).other W33 (Or.inl ne37)).other W42 (Or.inl ne37))
 refine w_getF X42 hx "" hZ hown (Or.inl (wd_24 hw)) Via.refl e42 f46 (d7_24 hby) (pc' := 27) rfl ?_
 intro T47 X47 e47
 obtain ⟨clu48, Aru48, qu48, Su48, Nu48, Hu48, Gu48⟩ := id V43
 have hinu48 := inb_of (j := (2 : Int32)) Su48 ⟨by decide, by decide⟩
 refine w_stR X47 hx hZ e47 Aru48 hinu48 rfl (Or.inl rfl) (d7_27 hby) (pc' := 28) rfl ?_
 intro T49 h49 X49 e49 W49
 have V50 : Arv Z h49 b20 k20 (.object kc3) (4 : Int32) [(.ref r_28), (.ref jj3), .null, .null] .null := Arv.set Aru48 qu48 Su48 Nu48 Hu48 Gu48 rfl W49 2 rfl (Nat.le_of_ble_eq_true rfl)
 have K51 : Keep h0 h49 [jj3] := K44.wr W49 (Or.inr sz22)
 have N52 := Fr.snoc X49 N45 ge21
 refine w_dup X49 hx (d7_28 hby) rfl (pc' := 29) rfl ?_
 refine w_iconst X49 hx (d7_29 hby) (v := (3 : Int32)) rfl (pc' := 30) rfl ?_
 refine w_aloadN X49 hx (d7_30 hby) rfl rfl (pc' := 31) rfl ?_
 have f53 : Fld Z h49 a0 kc1 "body" "[B" (.ref jj4) := (((((zz20.ext E20).keep K28 nin0).other W33 (Or.inl ne37)).other W42 (Or.inl ne37)).other W49 (Or.inl ne37))
 refine w_getF X49 hx "" hZ hown (Or.inl (wd_46 hw)) Via.refl e49 f53 (d7_31 hby) (pc' := 34) rfl ?_
 intro T54 X54 e54
 have ne55 : jj4 ≠ b20 := (Nat.ne_of_lt (Nat.lt_of_lt_of_le zz21.lt (Nat.le_trans (Nat.le_refl _) (Nat.le_of_eq g20.symm))))
 have f56 : Arv Z h49 jj4 jj5 .byte jj6 (mI jj7) (.int (0 : Int32)) := (((((zz21.ext E20).keep K28 nin0).other W33 ne55).other W42 ne55).other W49 ne55)
 have f57 : Exa Z h49 jj4 "[B" := (((((zz22.ext E20).keep K28).wr W33).wr W42).wr W49)
 have le58 : h0.size ≤ T28.heap.size := (Nat.le_trans E20.1 K28.1)
 have le59 : h0.size ≤ h33.size := (Nat.le_trans le58 (Keep.of_wr W33).1)
 have le60 : h0.size ≤ h42.size := (Nat.le_trans le59 (Keep.of_wr W42).1)
 have le61 : h0.size ≤ h49.size := (Nat.le_trans le60 (Keep.of_wr W49).1)
 refine w_static X54 hx (y := yn_9) hown (mvT hZ (wd_63 hw)) (mvT hZ (wd_64 hw)) (mvT hZ (wd_65 hw)) (mvT hZ (wd_66 hw)) (by decide) (backOf (W := 3) (rm_m9_31 l Z aZ hw [] jj4 jj5 jj6 jj7 h49 n0 (Nat.le_trans Z0 le61) f56 zz23 f57) hZ (wd_66 hw) (wd_65 hw) (by decide) (by decide)) (by rw [hml]; rfl) [(.ref jj4)] (lenOf pd_15 rfl) rfl (Nat.le_of_eq rfl) (d7_34 hby) (fun _ _ => ⟨rfl, e54, (by decide : 2 + 0 ≤ _), (by decide : 5 + 0 ≤ _)⟩) (pc' := 37) rfl ?_
 rintro _ _ ⟨T62, L62, k62, n62⟩ X62 ⟨Lc62, hQ62, l62, y62, z62⟩
 dsimp only [Pt.U, Pt.locs, Pt.cells, Pt.slots] at X62 l62 y62 z62 hQ62 ⊢
 subst l62 y62 z62
 obtain ⟨rfl, N62q, e62⟩ := hQ62
 have N63 := Fr.app N52 N62q
 show Runs _ _ _ _ (T62.setTop (mkF m 37 #[.val (.ref a0)] [(.int (hB jj7)), (.int (3 : Int32)), (.ref b20), (.ref b20)]))
 have f64 : Old Z n0 h49 := ((((f27.keep K28 all0).wr W33 ge21).wr W42 ge21).wr W49 ge21)
 refine w_static X62 hx (y := yn_8) hown (mvT hZ (wd_55 hw)) (mvT hZ (wd_56 hw)) (mvT hZ (wd_57 hw)) (mvT hZ (wd_58 hw)) (by decide) (backOf (W := 3) (rm_m8_28 l Z aZ hw [] (hB jj7) jj1 jj2 h49 n0 (Nat.le_trans Z0 le61) zz14 f64 zz15 zz16) hZ (wd_58 hw) (wd_57 hw) (by decide) (by decide)) (by rw [hml]; rfl) [(.int (hB jj7))] (lenOf pd_12 rfl) rfl (Nat.le_of_eq rfl) (d7_37 hby) (fun _ _ => ⟨rfl, e62, (by decide : 2 + 1 ≤ _), (by decide : 5 + 1 ≤ _)⟩) (pc' := 40) rfl ?_
 rintro _ _ ⟨T65, L65, k65, n65⟩ X65 ⟨Lc65, hQ65, l65, y65, z65⟩
 dsimp only [Pt.U, Pt.locs, Pt.cells, Pt.slots] at X65 l65 y65 z65 hQ65 ⊢
 subst l65 y65 z65
 obtain ⟨r_65, rfl, N65q, K65, g65_0, g65_1⟩ := hQ65
 have N66 := Fr.app N63 N65q
 have K67 : Keep h0 T65.heap [jj3] := K51.trans K65 (all0 (P := fun x => x ∈ [jj3] ∨ h0.size ≤ x))
 show Runs _ _ _ _ (T65.setTop (mkF m 40 #[.val (.ref a0)] [(.ref r_65), (.int (3 : Int32)), (.ref b20), (.ref b20)]))
 have f68 : Arv Z T65.heap b20 k20 (.object kc3) (4 : Int32) [(.ref r_28), (.ref jj3), .null, .null] .null := (V50.keep K65 nin0)
 obtain ⟨clu69, Aru69, qu69, Su69, Nu69, Hu69, Gu69⟩ := id f68
 have hinu69 := inb_of (j := (3 : Int32)) Su69 ⟨by decide, by decide⟩
 refine w_stR X65 hx hZ rfl Aru69 hinu69 rfl (Sto.ofV Aru69 qu69 O20 (Ins.of_exa g65_0 (wd_62 hw))) (d7_40 hby) (pc' := 41) rfl ?_
 intro T70 h70 X70 e70 W70
 have V71 : Arv Z h70 b20 k20 (.object kc3) (4 : Int32) [(.ref r_28), (.ref jj3), .null, (.ref r_65)] .null := Arv.set Aru69 qu69 Su69 Nu69 Hu69 Gu69 rfl W70 3 rfl (Nat.le_of_ble_eq_true rfl)
 have K72 : Keep h0 h70 [jj3] := K67.wr W70 (Or.inr sz22)
 have N73 := Fr.snoc X70 N66 ge21
 have f74 : Exa Z h70 r_28 kc2 := (((((g28_0.wr W33).wr W42).wr W49).keep K65).wr W70)
 have f76 : Exa Z h70 b20 "[Ljava/lang/Object;" := ((((((Q20.keep K28).wr W33).wr W42).wr W49).keep K65).wr W70)
 have ne75 : r_28 ≠ b20 := ne_exa f74 f76 (by decide)
 have f77 : Fld Z h70 r_28 kc2 "value" "I" (.int jj0) := (((((g28_1.other W33 (Or.inl ne75)).other W42 (Or.inl ne75)).other W49 (Or.inl ne75)).keep K65 nin0).other W70 (Or.inl ne75))
 have f78 : Exa Z h70 jj3 kc0 := ((((f41.wr W42).wr W49).keep K65).wr W70)
 have ne79 : jj3 ≠ b20 := (Nat.ne_of_lt (Nat.lt_of_lt_of_le zz18.lt (Nat.le_trans (Nat.le_refl _) (Nat.le_of_eq g20.symm))))
 have f80 : Fld Z h70 jj3 kc0 "hash" "I" (.int (0 : Int32)) := (((((((zz24.ext E20).keep K28 nin0).other W33 (Or.inl ne79)).other W42 (Or.inl ne79)).other W49 (Or.inl ne79)).keep K65 nin0).other W70 (Or.inl ne79))
 have f81 : Fld Z h70 jj3 kc0 "hashIsZero" "Z" (.int (0 : Int32)) := (((((((zz25.ext E20).keep K28 nin0).other W33 (Or.inl ne79)).other W42 (Or.inl ne79)).other W49 (Or.inl ne79)).keep K65 nin0).other W70 (Or.inl ne79))
 have f82 : Fld Z h70 jj3 kc0 "coder" "B" (.int (0 : Int32)) := (((((((zz26.ext E20).keep K28 nin0).other W33 (Or.inl ne79)).other W42 (Or.inl ne79)).other W49 (Or.inl ne79)).keep K65 nin0).other W70 (Or.inl ne79))
 have f83 : Fld Z h70 jj3 kc0 "value" "[B" (.ref jj8) := (((((((zz27.ext E20).keep K28 nin0).other W33 (Or.inl ne79)).other W42 (Or.inl ne79)).other W49 (Or.inl ne79)).keep K65 nin0).other W70 (Or.inl ne79))
 have ne84 : jj8 ≠ b20 := (Nat.ne_of_lt (Nat.lt_of_lt_of_le zz28.lt (Nat.le_trans (Nat.le_refl _) (Nat.le_of_eq g20.symm))))
 have f85 : Arv Z h70 jj8 jj9 .byte jj10 (mI jj11) (.int (0 : Int32)) := (((((((zz28.ext E20).keep K28 nin0).other W33 ne84).other W42 ne84).other W49 ne84).keep K65 nin0).other W70 ne84)
 have f86 : EB Z h70 jj8 jj10 := (((((((zz29.ext E20).keep K28).wr W33).wr W42).wr W49).keep K65).wr W70)
 have f87 : Exa Z h70 r_65 kc2 := (g65_0.wr W70)
 have ne88 : r_65 ≠ b20 := ne_exa f87 f76 (by decide)
 have f89 : Fld Z h70 r_65 kc2 "value" "I" (.int (hB jj7)) := (g65_1.other W70 (Or.inl ne88))
 have f90 : Old Z n0 h70 := ((f64.keep K65 all0).wr W70 ge21)
 have le91 : h0.size ≤ T65.heap.size := (Nat.le_trans le61 K65.1)
 have le92 : h0.size ≤ h70.size := (Nat.le_trans le91 (Keep.of_wr W70).1)
 refine w_static X70 hx (y := yn_10) hown (mvT hZ (wd_67 hw)) (mvT hZ (wd_68 hw)) (mvT hZ (wd_35 hw)) (mvT hZ (wd_69 hw)) (by decide) (backOf (W := 0) (rm_m10_64 l Z aZ hw [] b20 k20 r_28 jj3 r_65 jj0 jj8 jj9 jj10 jj11 (hB jj7) jj12 h70 n0 (Nat.le_trans Z0 le92) V71 f74 f77 f78 f80 f81 f82 f83 f85 f86 f87 f89 zz30 f90 zz31 zz32 zz33) hZ (wd_69 hw) (wd_35 hw) (by decide) (by decide)) (by rw [hml]; rfl) [(.ref b20)] (lenOf pd_18 rfl) rfl (Nat.le_of_eq rfl) (d7_41 hby) (fun _ _ => ⟨rfl, e70, (by decide : 3 + 0 ≤ _), (by decide : 6 + 0 ≤ _)⟩) (pc' := 44) rfl ?_
 rintro _ _ ⟨T93, L93, k93, n93⟩ X93 ⟨Lc93, hQ93, l93, y93, z93⟩
 dsimp only [Pt.U, Pt.locs, Pt.cells, Pt.slots] at X93 l93 y93 z93 hQ93 ⊢
 subst l93 y93 z93
 obtain ⟨rfl, N93q, K93, g93_0, g93_1, g93_2, g93_3, g93_4⟩ := hQ93
 have N94 := Fr.app N73 N93q
 have K95 : Keep h0 T93.heap [jj3] := K72.trans K93 (allS (Or.inl (by simp)) (all0 (P := fun x => x ∈ [jj3] ∨ h0.size ≤ x)))
 show Runs _ _ _ _ (T93.setTop (mkF m 44 #[.val (.ref a0)] [(.int (((31 : Int32) * (((31 : Int32) * (((31 : Int32) * ((31 : Int32) + jj0)) + (hS jj11))) + (0 : Int32))) + (hB jj7)))]))
 exact w_done X93 hlk (v := some (.int (((31 : Int32) * (((31 : Int32) * (((31 : Int32) * ((31 : Int32) + jj0)) + (hS jj11))) + (0 : Int32))) + (hB jj7)))) rfl (fun h => by rw [hret] at h; cases h) (fun fs hr => retI X93 hx hret (d7_44 hby) hr) (by decide) (by decide) (⟨rfl, N94, K95, g93_0, g93_1, g93_2, g93_3, g93_4⟩)
theorem ef_m11_68 (m : MethodId) (a0 : Addr)  : entryFrame m #[(.ref a0)] 6 = mkF m 0 #[.val (.ref a0), .unset, .unset, .unset, .unset, .unset] [] := by first | (simp [entryFrame, mkF, argsToLocals, Value.category]; done) | rfl
def Q_m11_68 (Z : State) (a0 : Addr) (k_a0 : ClassId) (jj0 : Addr) (jj1 : Addr) (jj2 : Addr) (jj3 : Int32) (jj4 : Int32) (jj5 : Int32) (jj6 : Int32) (jj7 : Addr) (jj8 : ClassId) (jj9 : Int32) (jj10 : List Int32) (jj11 : Int32) (h0 : Heap) (n0 : Nat) (v : Option Value) (h : Heap) (L : List Loc) : Prop := v = some (.int (((31 : Int32) * (((31 : Int32) * (((31 : Int32) * ((31 : Int32) + jj3)) + (hS jj10))) + (0 : Int32))) + jj11)) ∧ Fr n0 L ∧ Keep h0 h [jj1] ∧ Exa Z h jj1 kc0 ∧ Fld Z h jj1 kc0 "hash" "I" (.int (hS jj10)) ∧ Fld Z h jj1 kc0 "hashIsZero" "Z" (.int (if (hS jj10) = (0 : Int32) then (1 : Int32) else (0 : Int32))) ∧ Fld Z h jj1 kc0 "coder" "B" (.int (0 : Int32)) ∧ Fld Z h jj1 kc0 "value" "[B" (.ref jj7)
theorem rm_m11_68 (l : Launch) (Z : State) (aZ : Array Value) (hw : ∀ d ∈ tables_1, d.before aZ Z = true) (ws : List Jvm.Cond) (a0 : Addr) (k_a0 : ClassId) (jj0 : Addr) (jj1 : Addr) (jj2 : Addr) (jj3 : Int32) (jj4 : Int32) (jj5 : Int32) (jj6 : Int32) (jj7 : Addr) (jj8 : ClassId) (jj9 : Int32) (jj10 : List Int32) (jj11 : Int32) (h0 : Heap) (n0 : Nat) (Z0 : n0 ≤ h0.size) (V_a0 : Arv Z h0 a0 k_a0 (.object kc3) (4 : Int32) [(.ref jj0), (.ref jj1), .null, (.ref jj2)] .null) (zz12 : Exa Z h0 jj0 kc2) (zz13 : Fld Z h0 jj0 kc2 "value" "I" (.int jj3)) (zz14 : Exa Z h0 jj1 kc0) (zz15 : Fld Z h0 jj1 kc0 "hash" "I" (.int jj4)) (zz16 : Fld Z h0 jj1 kc0 "hashIsZero" "Z" (.int jj5)) (zz17 : Sta Z Z.heap kc0 "COMPACT_STRINGS" "Z" (.int jj6)) (O0 : Old Z n0 h0) (zz18 : Fld Z h0 jj1 kc0 "coder" "B" (.int (0 : Int32))) (zz19 : Fld Z h0 jj1 kc0 "value" "[B" (.ref jj7)) (zz20 : Arv Z h0 jj7 jj8 .byte jj9 (mI jj10) (.int (0 : Int32))) (zz21 : EB Z h0 jj7 jj9) (zz22 : ¬ (jj6 = (0 : Int32))) (zz23 : TS jj9 jj10) (zz24 : n0 ≤ jj1) (zz25 : HOK jj4 jj5 (hS jj10)) (zz26 : Exa Z h0 jj2 kc2) (zz27 : Fld Z h0 jj2 kc2 "value" "I" (.int jj11)) :
    MetN l Z yn_11 jdk_65_method_157_code 6 (some .int) ws ({ frames := 4, cells := 0, slots := 0, locals := 59 } : Room) #[(.ref a0)] h0 (Q_m11_68 Z a0 k_a0 jj0 jj1 jj2 jj3 jj4 jj5 jj6 jj7 jj8 jj9 jj10 jj11 h0 n0) := by
 refine MetN.of (plainFor_of_name pn_8) ?_
 intro p e s m below meth c s₁ hret hx hby hml hown hnm hlk hZ X0 e0
 have N0 := Fr.nil n0
 rw [ef_m11_68 m a0]
 refine w_aloadN X0 hx (d11_0 hby) rfl rfl (pc' := 1) rfl ?_
 refine w_ifnonnullY X0 hx (d11_1 hby) (pc' := 6) (by decide) (by decide) ?_
 refine w_iconst X0 hx (d11_6 hby) (v := (1 : Int32)) rfl (pc' := 7) rfl ?_
 refine w_istoreN X0 hx (d11_7 hby) (L' := #[.val (.ref a0), .val (.int (1 : Int32)), .unset, .unset, .unset, .unset]) rfl (pc' := 8) rfl ?_
 refine w_aloadN X0 hx (d11_8 hby) rfl rfl (pc' := 9) rfl ?_
 refine w_astoreN X0 hx (d11_9 hby) rfl (L' := #[.val (.ref a0), .val (.int (1 : Int32)), .val (.ref a0), .unset, .unset, .unset]) rfl (pc' := 10) rfl ?_
 refine w_aloadN X0 hx (d11_10 hby) rfl rfl (pc' := 11) rfl ?_
 refine w_alen X0 hx hZ e0 V_a0 (d11_11 hby) (pc' := 12) rfl ?_
 refine w_istoreN X0 hx (d11_12 hby) (L' := #[.val (.ref a0), .val (.int (1 : Int32)), .val (.ref a0), .val (.int (4 : Int32)), .unset, .unset]) rfl (pc' := 13) rfl ?_
 refine w_iconst X0 hx (d11_13 hby) (v := (0 : Int32)) rfl (pc' := 14) rfl ?_
 refine w_istore X0 hx (d11_14 hby) (L' := #[.val (.ref a0), .val (.int (1 : Int32)), .val (.ref a0), .val (.int (4 : Int32)), .val (.int (0 : Int32)), .unset]) rfl (pc' := 16) rfl ?_
 refine w_iload X0 hx (d11_16 hby) rfl (pc' := 18) rfl ?_
 refine w_iloadN X0 hx (d11_18 hby) rfl (pc' := 19) rfl ?_
 refine w_icN X0 hx (d11_19 hby) (tlt (by decide : (0 : Int32) < (4 : Int32))).2.1 (pc' := 22) rfl ?_
 refine w_aloadN X0 hx (d11_22 hby) rfl rfl (pc' := 23) rfl ?_
 refine w_iload X0 hx (d11_23 hby) rfl (pc' := 25) rfl ?_
 obtain ⟨clu20, Aru20, qu20, Su20, Nu20, Hu20, Gu20⟩ := id V_a0
 have hinu20 := inb_of (j := (0 : Int32)) Su20 ⟨by decide, by decide⟩
 refine w_aaload X0 hx hZ e0 Aru20 rfl hinu20 (Hu20.at hinu20 rfl) (d11_25 hby) (pc' := 26) rfl ?_
 refine w_astore X0 hx (d11_26 hby) rfl (L' := #[.val (.ref a0), .val (.int (1 : Int32)), .val (.ref a0), .val (.int (4 : Int32)), .val (.int (0 : Int32)), .val (.ref jj0)]) rfl (pc' := 28) rfl ?_
 refine w_bipush X0 hx (d11_28 hby) (v := (31 : Int32)) rfl (pc' := 30) rfl ?_
 refine w_iloadN X0 hx (d11_30 hby) rfl (pc' := 31) rfl ?_
 refine w_imul X0 hx (d11_31 hby) (pc' := 32) rfl ?_
 rw [show ((31 : Int32) * (1 : Int32)) = (31 : Int32) from by decide]
 refine w_aload X0 hx (d11_32 hby) rfl rfl (pc' := 34) rfl ?_
 refine w_ifnonnullY X0 hx (d11_34 hby) (pc' := 41) (by decide) (by decide) ?_
 refine w_aload X0 hx (d11_41 hby) rfl rfl (pc' := 43) rfl ?_
 obtain ⟨cq21, kq21, q21a, q21b, q21c⟩ := isOf hZ e0 zz12
 refine w_virtual X0 hx (y := (⟨kc3, "hashCode", "()I"⟩ : MethodName)) (z := yn_12) hown (mvT hZ (wd_73 hw)) (mvT hZ (wd_74 hw)) (own_nfS (args := #[]) (mvT hZ (wd_43 hw)) rfl) (mvT hZ (wd_76 hw)) (mvT hZ (wd_77 hw)) (by decide) (backOf (W := 1) (rm_m12_38 l Z aZ hw [] jj0 jj3 h0 n0 Z0 zz13) hZ (wd_78 hw) (wd_57 hw) (by decide) (by decide)) q21a q21c (by rw [hml]; rfl) [] (lenOf pd_17 rfl) rfl (Nat.le_of_eq rfl) (d11_43 hby) (fun _ _ => ⟨rfl, e0, (by decide : 0 + 0 ≤ _), (by decide : 0 + 0 ≤ _)⟩) (pc' := 46) rfl ?_
 rintro _ _ ⟨T21, L21, k21, n21⟩ X21 ⟨Lc21, hQ21, l21, y21, z21⟩
 dsimp only [Pt.U, Pt.locs, Pt.cells, Pt.slots] at X21 l21 y21 z21 hQ21 ⊢
 subst l21 y21 z21
 obtain ⟨rfl, N21q, e21⟩ := hQ21
 have N22 := Fr.app N0 N21q
 show Runs _ _ _ _ (T21.setTop (mkF m 46 #[.val (.ref a0), .val (.int (1 : Int32)), .val (.ref a0), .val (.int (4 : Int32)), .val (.int (0 : Int32)), .val (.ref jj0)] [(.int jj3), (.int (31 : Int32))]))
 refine w_iadd X21 hx (d11_46 hby) (pc' := 47) rfl ?_
 refine w_istoreN X21 hx (d11_47 hby) (L' := #[.val (.ref a0), .val (.int ((31 : Int32) + jj3)), .val (.ref a0), .val (.int (4 : Int32)), .val (.int (0 : Int32)), .val (.ref jj0)]) rfl (pc' := 48) rfl ?_
 refine w_iinc X21 hx (d11_48 hby) (v := (1 : Int32)) rfl rfl (L' := #[.val (.ref a0), .val (.int ((31 : Int32) + jj3)), .val (.ref a0), .val (.int (4 : Int32)), .val (.int ((0 : Int32) + (1 : Int32))), .val (.ref jj0)]) rfl (pc' := 51) rfl ?_
 rw [show ((0 : Int32) + (1 : Int32)) = (1 : Int32) from by decide]
 refine w_goto X21 hx (d11_51 hby) (pc' := 16) (by decide) (by decide) ?_
 refine w_iload X21 hx (d11_16 hby) rfl (pc' := 18) rfl ?_
 refine w_iloadN X21 hx (d11_18 hby) rfl (pc' := 19) rfl ?_
 refine w_icN X21 hx (d11_19 hby) (tlt (by decide : (1 : Int32) < (4 : Int32))).2.1 (pc' := 22) rfl ?_
 refine w_aloadN X21 hx (d11_22 hby) rfl rfl (pc' := 23) rfl ?_
 refine w_iload X21 hx (d11_23 hby) rfl (pc' := 25) rfl ?_
 obtain ⟨clu23, Aru23, qu23, Su23, Nu23, Hu23, Gu23⟩ := id V_a0
 have hinu23 := inb_of (j := (1 : Int32)) Su23 ⟨by decide, by decide⟩
 refine w_aaload X21 hx hZ e21 Aru23 rfl hinu23 (Hu23.at hinu23 rfl) (d11_25 hby) (pc' := 26) rfl ?_
 refine w_astore X21 hx (d11_26 hby) rfl (L' := #[.val (.ref a0), .val (.int ((31 : Int32) + jj3)), .val (.ref a0), .val (.int (4 : Int32)), .val (.int (1 : Int32)), .val (.ref jj1)]) rfl (pc' := 28) rfl ?_
 refine w_bipush X21 hx (d11_28 hby) (v := (31 : Int32)) rfl (pc' := 30) rfl ?_
 refine w_iloadN X21 hx (d11_30 hby) rfl (pc' := 31) rfl ?_
 refine w_imul X21 hx (d11_31 hby) (pc' := 32) rfl ?_
 refine w_aload X21 hx (d11_32 hby) rfl rfl (pc' := 34) rfl ?_
 refine w_ifnonnullY X21 hx (d11_34 hby) (pc' := 41) (by decide) (by decide) ?_
 refine w_aload X21 hx (d11_41 hby) rfl rfl (pc' := 43) rfl ?_
 obtain ⟨cq24, kq24, q24a, q24b, q24c⟩ := isOf hZ e21 zz14
 refine w_virtual X21 hx (y := (⟨kc3, "hashCode", "()I"⟩ : MethodName)) (z := yn_23) hown (mvT hZ (wd_73 hw)) (mvT hZ (wd_74 hw)) (own_nfS (args := #[]) (mvT hZ (wd_43 hw)) rfl) (mvT hZ (wd_125 hw)) (mvT hZ (wd_126 hw)) (by decide) (backOf (W := 1) (rm_m23_58 l Z aZ hw [] jj1 jj4 jj5 jj6 jj7 jj8 jj9 jj10 h0 n0 Z0 zz15 zz16 zz14 zz17 O0 zz18 zz22 zz19 zz20 zz21 zz23 zz24 zz25) hZ (wd_127 hw) (wd_27 hw) (by decide) (by decide)) q24a q24c (by rw [hml]; rfl) [] (lenOf pd_17 rfl) rfl (Nat.le_of_eq rfl) (d11_43 hby) (fun _ _ => ⟨rfl, e21, (by decide : 0 + 0 ≤ _), (by decide : 0 + 0 ≤ _)⟩) (pc' := 46) rfl ?_
 rintro _ _ ⟨T24, L24, k24, n24⟩ X24 ⟨Lc24, hQ24, l24, y24, z24⟩
 dsimp only [Pt.U, Pt.locs, Pt.cells, Pt.slots] at X24 l24 y24 z24 hQ24 ⊢
 subst l24 y24 z24
 obtain ⟨rfl, N24q, K24, g24_0, g24_1, g24_2, g24_3, g24_4⟩ := hQ24
 have N25 := Fr.app N22 N24q
 have K26 : Keep h0 T24.heap [jj1] := (Keep.refl h0 [jj1]).trans K24 (allS (Or.inl (by simp)) (all0 (P := fun x => x ∈ [jj1] ∨ h0.size ≤ x)))
 show Runs _ _ _ _ (T24.setTop (mkF m 46 #[.val (.ref a0), .val (.int ((31 : Int32) + jj3)), .val (.ref a0), .val (.int (4 : Int32)), .val (.int (1 : Int32)), .val (.ref jj1)] [(.int (hS jj10)), (.int ((31 : Int32) * ((31 : Int32) + jj3)))]))
 refine w_iadd X24 hx (d11_46 hby) (pc' := 47) rfl ?_
 refine w_istoreN X24 hx (d11_47 hby) (L' := #[.val (.ref a0), .val (.int (((31 : Int32) * ((31 : Int32) + jj3)) + (hS jj10))), .val (.ref a0), .val (.int (4 : Int32)), .val (.int (1 : Int32)), .val (.ref jj1)]) rfl (pc' := 48) rfl ?_
 refine w_iinc X24 hx (d11_48 hby) (v := (1 : Int32)) rfl rfl (L' := #[.val (.ref a0), .val (.int (((31 : Int32) * ((31 : Int32) + jj3)) + (hS jj10))), .val (.ref a0), .val (.int (4 : Int32)), .val (.int ((1 : Int32) + (1 : Int32))), .val (.ref jj1)]) rfl (pc' := 51) rfl ?_
 rw [show ((1 : Int32) + (1 : Int32)) = (2 : Int32) from by decide]
 refine w_goto X24 hx (d11_51 hby) (pc' := 16) (by decide) (by decide) ?_
 refine w_iload X24 hx (d11_16 hby) rfl (pc' := 18) rfl ?_
 refine w_iloadN X24 hx (d11_18 hby) rfl (pc' := 19) rfl ?_
 refine w_icN X24 hx (d11_19 hby) (tlt (by decide : (2 : Int32) < (4 : Int32))).2.1 (pc' := 22) rfl ?_
 refine w_aloadN X24 hx (d11_22 hby) rfl rfl (pc' := 23) rfl ?_
 refine w_iload X24 hx (d11_23 hby) rfl (pc' := 25) rfl ?_
 have ne27 : jj1 ≠ a0 := Exa.neArv zz14 V_a0 (wd_28 hw)
 have f28 : Arv Z T24.heap a0 k_a0 (.object kc3) (4 : Int32) [(.ref jj0), (.ref jj1), .null, (.ref jj2)] .null := (V_a0.keep K24 (ninS (Ne.symm ne27) nin0))
 obtain ⟨clu29, Aru29, qu29, Su29, Nu29, Hu29, Gu29⟩ := id f28
 have hinu29 := inb_of (j := (2 : Int32)) Su29 ⟨by decide, by decide⟩
 refine w_aaload X24 hx hZ rfl Aru29 rfl hinu29 (Hu29.at hinu29 rfl) (d11_25 hby) (pc' := 26) rfl ?_
 refine w_astore X24 hx (d11_26 hby) rfl (L' := #[.val (.ref a0), .val (.int (((31 : Int32) * ((31 : Int32) + jj3)) + (hS jj10))), .val (.ref a0), .val (.int (4 : Int32)), .val (.int (2 : Int32)), .val .null]) rfl (pc' := 28) rfl ?_
 refine w_bipush X24 hx (d11_28 hby) (v := (31 : Int32)) rfl (pc' := 30) rfl ?_
 refine w_iloadN X24 hx (d11_30 hby) rfl (pc' := 31) rfl ?_
 refine w_imul X24 hx (d11_31 hby) (pc' := 32) rfl ?_
 refine w_aload X24 hx (d11_32 hby) rfl rfl (pc' := 34) rfl ?_
 refine w_ifnonnullN X24 hx (d11_34 hby) (pc' := 37) rfl ?_
 refine w_iconst X24 hx (d11_37 hby) (v := (0 : Int32)) rfl (pc' := 38) rfl ?_
 refine w_goto X24 hx (d11_38 hby) (pc' := 46) (by decide) (by decide) ?_
 refine w_iadd X24 hx (d11_46 hby) (pc' := 47) rfl ?_
 refine w_istoreN X24 hx (d11_47 hby) (L' := #[.val (.ref a0), .val (.int (((31 : Int32) * (((31 : Int32) * ((31 : Int32) + jj3)) + (hS jj10))) + (0 : Int32))), .val (.ref a0), .val (.int (4 : Int32)), .val (.int (2 : Int32)), .val .null]) rfl (pc' := 48) rfl ?_
 refine w_iinc X24 hx (d11_48 hby) (v := (1 : Int32)) rfl rfl (L' := #[.val (.ref a0), .val (.int (((31 : Int32) * (((31 : Int32) * ((31 : Int32) + jj3)) + (hS jj10))) + (0 : Int32))), .val (.ref a0), .val (.int (4 : Int32)), .val (.int ((2 : Int32) + (1 : Int32))), .val .null]) rfl (pc' := 51) rfl ?_
 rw [show ((2 : Int32) + (1 : Int32)) = (3 : Int32) from by decide]
 refine w_goto X24 hx (d11_51 hby) (pc' := 16) (by decide) (by decide) ?_
 refine w_iload X24 hx (d11_16 hby) rfl (pc' := 18) rfl ?_
 refine w_iloadN X24 hx (d11_18 hby) rfl (pc' := 19) rfl ?_
 refine w_icN X24 hx (d11_19 hby) (tlt (by decide : (3 : Int32) < (4 : Int32))).2.1 (pc' := 22) rfl ?_
 refine w_aloadN X24 hx (d11_22 hby) rfl rfl (pc' := 23) rfl ?_
 refine w_iload X24 hx (d11_23 hby) rfl (pc' := 25) rfl ?_
 obtain ⟨clu30, Aru30, qu30, Su30, Nu30, Hu30, Gu30⟩ := id f28
 have hinu30 := inb_of (j := (3 : Int32)) Su30 ⟨by decide, by decide⟩
 refine w_aaload X24 hx hZ rfl Aru30 rfl hinu30 (Hu30.at hinu30 rfl) (d11_25 hby) (pc' := 26) rfl ?_
 refine w_astore X24 hx (d11_26 hby) rfl (L' := #[.val (.ref a0), .val (.int (((31 : Int32) * (((31 : Int32) * ((31 : Int32) + jj3)) + (hS jj10))) + (0 : Int32))), .val (.ref a0), .val (.int (4 : Int32)), .val (.int (3 : Int32)), .val (.ref jj2)]) rfl (pc' := 28) rfl ?_
 refine w_bipush X24 hx (d11_28 hby) (v := (31 : Int32)) rfl (pc' := 30) rfl ?_
 refine w_iloadN X24 hx (d11_30 hby) rfl (pc' := 31) rfl ?_
 refine w_imul X24 hx (d11_31 hby) (pc' := 32) rfl ?_
 refine w_aload X24 hx (d11_32 hby) rfl rfl (pc' := 34) rfl ?_
 refine w_ifnonnullY X24 hx (d11_34 hby) (pc' := 41) (by decide) (by decide) ?_
 refine w_aload X24 hx (d11_41 hby) rfl rfl (pc' := 43) rfl ?_
 have f32 : Exa Z T24.heap jj2 kc2 := (zz26.keep K24)
 have ne31 : jj2 ≠ jj1 := ne_exa f32 g24_0 (by decide)
 have f33 : Fld Z T24.heap jj2 kc2 "value" "I" (.int jj11) := (zz27.keep K24 (ninS ne31 nin0))
 obtain ⟨cq34, kq34, q34a, q34b, q34c⟩ := isOf hZ rfl f32
 refine w_virtual X24 hx (y := (⟨kc3, "hashCode", "()I"⟩ : MethodName)) (z := yn_12) hown (mvT hZ (wd_73 hw)) (mvT hZ (wd_74 hw)) (own_nfS (args := #[]) (mvT hZ (wd_43 hw)) rfl) (mvT hZ (wd_76 hw)) (mvT hZ (wd_77 hw)) (by decide) (backOf (W := 1) (rm_m12_38 l Z aZ hw [] jj2 jj11 T24.heap n0 (Nat.le_trans Z0 K24.1) f33) hZ (wd_78 hw) (wd_57 hw) (by decide) (by decide)) q34a q34c (by rw [hml]; rfl) [] (lenOf pd_17 rfl) rfl (Nat.le_of_eq rfl) (d11_43 hby) (fun _ _ => ⟨rfl, rfl, (by decide : 0 + 0 ≤ _), (by decide : 0 + 0 ≤ _)⟩) (pc' := 46) rfl ?_
 rintro _ _ ⟨T34, L34, k34, n34⟩ X34 ⟨Lc34, hQ34, l34, y34, z34⟩
 dsimp only [Pt.U, Pt.locs, Pt.cells, Pt.slots] at X34 l34 y34 z34 hQ34 ⊢
 subst l34 y34 z34
 obtain ⟨rfl, N34q, e34⟩ := hQ34
 have N35 := Fr.app N25 N34q
 show Runs _ _ _ _ (T34.setTop (mkF m 46 #[.val (.ref a0), .val (.int (((31 : Int32) * (((31 : Int32) * ((31 : Int32) + jj3)) + (hS jj10))) + (0 : Int32))), .val (.ref a0), .val (.int (4 : Int32)), .val (.int (3 : Int32)), .val (.ref jj2)] [(.int jj11), (.int ((31 : Int32) * (((31 : Int32) * (((31 : Int32) * ((31 : Int32) + jj3)) + (hS jj10))) + (0 : Int32))))]))
 refine w_iadd X34 hx (d11_46 hby) (pc' := 47) rfl ?_
 refine w_istoreN X34 hx (d11_47 hby) (L' := #[.val (.ref a0), .val (.int (((31 : Int32) * (((31 : Int32) * (((31 : Int32) * ((31 : Int32) + jj3)) + (hS jj10))) + (0 : Int32))) + jj11)), .val (.ref a0), .val (.int (4 : Int32)), .val (.int (3 : Int32)), .val (.ref jj2)]) rfl (pc' := 48) rfl ?_
 refine w_iinc X34 hx (d11_48 hby) (v := (1 : Int32)) rfl rfl (L' := #[.val (.ref a0), .val (.int (((31 : Int32) * (((31 : Int32) * (((31 : Int32) * ((31 : Int32) + jj3)) + (hS jj10))) + (0 : Int32))) + jj11)), .val (.ref a0), .val (.int (4 : Int32)), .val (.int ((3 : Int32) + (1 : Int32))), .val (.ref jj2)]) rfl (pc' := 51) rfl ?_
 rw [show ((3 : Int32) + (1 : Int32)) = (4 : Int32) from by decide]
 refine w_goto X34 hx (d11_51 hby) (pc' := 16) (by decide) (by decide) ?_
 refine w_iload X34 hx (d11_16 hby) rfl (pc' := 18) rfl ?_
 refine w_iloadN X34 hx (d11_18 hby) rfl (pc' := 19) rfl ?_
 refine w_icY X34 hx (d11_19 hby) (flt (by decide : ¬ ((4 : Int32) < (4 : Int32)))).2.1 (pc' := 54) (by decide) (by decide) ?_
 refine w_iloadN X34 hx (d11_54 hby) rfl (pc' := 55) rfl ?_
 exact w_done X34 hlk (v := some (.int (((31 : Int32) * (((31 : Int32) * (((31 : Int32) * ((31 : Int32) + jj3)) + (hS jj10))) + (0 : Int32))) + jj11))) e34 (fun h => by rw [hret] at h; cases h) (fun fs hr => retI X34 hx hret (d11_55 hby) hr) (by decide) (by decide) (⟨rfl, N35, K26, g24_0, g24_3, g24_4, g24_1, g24_2⟩)
theorem ef_m10_67 (m : MethodId) (a0 : Addr)  : entryFrame m #[(.ref a0)] 1 = mkF m 0 #[.val (.ref a0)] [] := by first | (simp [entryFrame, mkF, argsToLocals, Value.category]; done) | rfl
def Q_m10_67 (Z : State) (a0 : Addr) (k_a0 : ClassId) (jj0 : Addr) (jj1 : Addr) (jj2 : Addr) (jj3 : Int32) (jj4 : Int32) (jj5 : Int32) (jj6 : Addr) (jj7 : ClassId) (jj8 : Int32) (jj9 : List Int32) (jj10 : Int32) (jj11 : Int32) (h0 : Heap) (n0 : Nat) (v : Option Value) (h : Heap) (L : List Loc) : Prop := v = some (.int (((31 : Int32) * (((31 : Int32) * (((31 : Int32) * ((31 : Int32) + jj3)) + (hS jj9))) + (0 : Int32))) + jj10)) ∧ Fr n0 L ∧ Keep h0 h [jj1] ∧ Exa Z h jj1 kc0 ∧ Fld Z h jj1 kc0 "hash" "I" (.int (hS jj9)) ∧ Fld Z h jj1 kc0 "hashIsZero" "Z" (.int (if (hS jj9) = (0 : Int32) then (1 : Int32) else (0 : Int32))) ∧ Fld Z h jj1 kc0 "coder" "B" (.int (0 : Int32)) ∧ Fld Z h jj1 kc0 "value" "[B" (.ref jj6)
theorem rm_m10_67 (l : Launch) (Z : State) (aZ : Array Value) (hw : ∀ d ∈ tables_1, d.before aZ Z = true) (ws : List Jvm.Cond) (a0 : Addr) (k_a0 : ClassId) (jj0 : Addr) (jj1 : Addr) (jj2 : Addr) (jj3 : Int32) (jj4 : Int32) (jj5 : Int32) (jj6 : Addr) (jj7 : ClassId) (jj8 : Int32) (jj9 : List Int32) (jj10 : Int32) (jj11 : Int32) (h0 : Heap) (n0 : Nat) (Z0 : n0 ≤ h0.size) (V_a0 : Arv Z h0 a0 k_a0 (.object kc3) (4 : Int32) [(.ref jj0), (.ref jj1), .null, (.ref jj2)] .null) (zz12 : Exa Z h0 jj0 kc2) (zz13 : Fld Z h0 jj0 kc2 "value" "I" (.int jj3)) (zz14 : Exa Z h0 jj1 kc0) (zz15 : Fld Z h0 jj1 kc0 "hash" "I" (.int jj4)) (zz16 : Fld Z h0 jj1 kc0 "hashIsZero" "Z" (.int jj5)) (zz17 : Fld Z h0 jj1 kc0 "coder" "B" (.int (0 : Int32))) (zz18 : Fld Z h0 jj1 kc0 "value" "[B" (.ref jj6)) (zz19 : Arv Z h0 jj6 jj7 .byte jj8 (mI jj9) (.int (0 : Int32))) (zz20 : EB Z h0 jj6 jj8) (zz21 : Exa Z h0 jj2 kc2) (zz22 : Fld Z h0 jj2 kc2 "value" "I" (.int jj10)) (zz23 : Sta Z Z.heap kc0 "COMPACT_STRINGS" "Z" (.int jj11)) (O0 : Old Z n0 h0) (zz24 : ¬ (jj11 = (0 : Int32))) (zz25 : TS jj8 jj9) (zz26 : n0 ≤ jj1) (zz27 : HOK jj4 jj5 (hS jj9)) :
    MetN l Z yn_10 jdk_31_method_5_code 1 (some .int) ws ({ frames := 5, cells := 0, slots := 0, locals := 76 } : Room) #[(.ref a0)] h0 (Q_m10_67 Z a0 k_a0 jj0 jj1 jj2 jj3 jj4 jj5 jj6 jj7 jj8 jj9 jj10 jj11 h0 n0) := by
 refine MetN.of (plainFor_of_name pn_3) ?_
 intro p e s m below meth c s₁ hret hx hby hml hown hnm hlk hZ X0 e0
 have N0 := Fr.nil n0
 rw [ef_m10_67 m a0]
 refine w_aloadN X0 hx (d10_0 hby) rfl rfl (pc' := 1) rfl ?_
 refine w_static X0 hx (y := yn_11) hown (mvT hZ (wd_70 hw)) (mvT hZ (wd_71 hw)) (mvT hZ (wd_65 hw)) (mvT hZ (wd_72 hw)) (by decide) (backOf (W := 0) (rm_m11_68 l Z aZ hw [] a0 k_a0 jj0 jj1 jj2 jj3 jj4 jj5 jj11 jj6 jj7 jj8 jj9 jj10 h0 n0 Z0 V_a0 zz12 zz13 zz14 zz15 zz16 zz23 O0 zz17 zz18 zz19 zz20 zz24 zz25 zz26 zz27 zz21 zz22) hZ (wd_72 hw) (wd_65 hw) (by decide) (by decide)) (by rw [hml]; rfl) [(.ref a0)] (lenOf pd_18 rfl) rfl (Nat.le_of_eq rfl) (d10_1 hby) (fun _ _ => ⟨rfl, e0, (by decide : 0 + 0 ≤ _), (by decide : 0 + 0 ≤ _)⟩) (pc' := 4) rfl ?_
 rintro _ _ ⟨T20, L20, k20, n20⟩ X20 ⟨Lc20, hQ20, l20, y20, z20⟩
 dsimp only [Pt.U, Pt.locs, Pt.cells, Pt.slots] at X20 l20 y20 z20 hQ20 ⊢
 subst l20 y20 z20
 obtain ⟨rfl, N20q, K20, g20_0, g20_1, g20_2, g20_3, g20_4⟩ := hQ20
 have N21 := Fr.app N0 N20q
 have K22 : Keep h0 T20.heap [jj1] := (Keep.refl h0 [jj1]).trans K20 (allS (Or.inl (by simp)) (all0 (P := fun x => x ∈ [jj1] ∨ h0.size ≤ x)))
 show Runs _ _ _ _ (T20.setTop (mkF m 4 #[.val (.ref a0)] [(.int (((31 : Int32) * (((31 : Int32) * (((31 : Int32) * ((31 : Int32) + jj3)) + (hS jj9))) + (0 : Int32))) + jj10))]))
 exact w_done X20 hlk (v := some (.int (((31 : Int32) * (((31 : Int32) * (((31 : Int32) * ((31 : Int32) + jj3)) + (hS jj9))) + (0 : Int32))) + jj10))) rfl (fun h => by rw [hret] at h; cases h) (fun fs hr => retI X20 hx hret (d10_4 hby) hr) (by decide) (by decide) (⟨rfl, N21, K22, g20_0, g20_1, g20_2, g20_3, g20_4⟩)
theorem ef_m7_66 (m : MethodId) (a0 : Addr)  : entryFrame m #[(.ref a0)] 1 = mkF m 0 #[.val (.ref a0)] [] := by first | (simp [entryFrame, mkF, argsToLocals, Value.category]; done) | rfl
def Q_m7_66 (Z : State) (a0 : Addr) (jj0 : Int32) (jj1 : Addr) (jj2 : Cell) (jj3 : Addr) (jj4 : Addr) (jj5 : ClassId) (jj6 : Int32) (jj7 : List Int32) (jj8 : Int32) (jj9 : Int32) (jj10 : Addr) (jj11 : ClassId) (jj12 : Int32) (jj13 : List Int32) (jj14 : Int32) (h0 : Heap) (n0 : Nat) (v : Option Value) (h : Heap) (L : List Loc) : Prop := v = some (.int (((31 : Int32) * (((31 : Int32) * (((31 : Int32) * ((31 : Int32) + jj0)) + (hS jj13))) + (0 : Int32))) + (hB jj7))) ∧ Fr n0 L ∧ Keep h0 h [jj3] ∧ Exa Z h jj3 kc0 ∧ Fld Z h jj3 kc0 "hash" "I" (.int (hS jj13)) ∧ Fld Z h jj3 kc0 "hashIsZero" "Z" (.int (if (hS jj13) = (0 : Int32) then (1 : Int32) else (0 : Int32))) ∧ Fld Z h jj3 kc0 "coder" "B" (.int (0 : Int32)) ∧ Fld Z h jj3 kc0 "value" "[B" (.ref jj10)
theorem rm_m7_66 (l : Launch) (Z : State) (aZ : Array Value) (hw : ∀ d ∈ tables_1, d.before aZ Z = true) (ws : List Jvm.Cond) (a0 : Addr) (jj0 : Int32) (jj1 : Addr) (jj2 : Cell) (jj3 : Addr) (jj4 : Addr) (jj5 : ClassId) (jj6 : Int32) (jj7 : List Int32) (jj8 : Int32) (jj9 : Int32) (jj10 : Addr) (jj11 : ClassId) (jj12 : Int32) (jj13 : List Int32) (jj14 : Int32) (h0 : Heap) (n0 : Nat) (Z0 : n0 ≤ h0.size) (zz15 : Fld Z h0 a0 kc1 "status" "I" (.int jj0)) (zz16 : Sta Z Z.heap kc4 "high" "I" (.int (127 : Int32))) (O0 : Old Z n0 h0) (zz17 : Sta Z Z.heap kc4 "cache" "[Ljava/lang/Integer;" (.ref jj1)) (zz18 : Bxs Z jj1 jj2 kc2 "I" (256 : Int32) (fun j => .int (j - 128))) (zz19 : Fld Z h0 a0 kc1 "contentType" "Ljava/lang/String;" (.ref jj3)) (zz20 : Exa Z h0 jj3 kc0) (zz21 : Fld Z h0 a0 kc1 "location" "Ljava/lang/String;" .null) (zz22 : Fld Z h0 a0 kc1 "body" "[B" (.ref jj4)) (zz23 : Arv Z h0 jj4 jj5 .byte jj6 (mI jj7) (.int (0 : Int32))) (zz24 : Exa Z h0 jj4 "[B") (zz25 : TB jj6 jj7) (zz26 : Fld Z h0 jj3 kc0 "hash" "I" (.int jj8)) (zz27 : Fld Z h0 jj3 kc0 "hashIsZero" "Z" (.int jj9)) (zz28 : Fld Z h0 jj3 kc0 "coder" "B" (.int (0 : Int32))) (zz29 : Fld Z h0 jj3 kc0 "value" "[B" (.ref jj10)) (zz30 : Arv Z h0 jj10 jj11 .byte jj12 (mI jj13) (.int (0 : Int32))) (zz31 : EB Z h0 jj10 jj12) (zz32 : Sta Z Z.heap kc0 "COMPACT_STRINGS" "Z" (.int jj14)) (zz33 : ¬ (jj14 = (0 : Int32))) (zz34 : TS jj12 jj13) (zz35 : n0 ≤ jj3) (zz36 : HOK jj8 jj9 (hS jj13)) :
    MetN l Z yn_7 prog_12_method_7_code 1 (some .int) ws ({ frames := 6, cells := 3, slots := 6, locals := 88 } : Room) #[(.ref a0)] h0 (Q_m7_66 Z a0 jj0 jj1 jj2 jj3 jj4 jj5 jj6 jj7 jj8 jj9 jj10 jj11 jj12 jj13 jj14 h0 n0) := by
 refine MetN.of (plainFor_of_name pn_4) ?_
 intro p e s m below meth c s₁ hret hx hby hml hown hnm hlk hZ X0 e0
 have N0 := Fr.nil n0
 rw [ef_m7_66 m a0]
 refine w_iconst X0 hx (d7_0 hby) (v := (4 : Int32)) rfl (pc' := 1) rfl ?_
 refine w_newR X0 hx 4 "[Ljava/lang/Object;" hZ hown (wd_53 hw) (wd_54 hw) e0 (d7_1 hby) (by decide) (by decide) (by decide) (by decide) (by decide) (by decide +kernel) (pc' := 4) rfl ?_
 intro T20 h20 k20 b20 X20 e20 E20 g20 A20 Q20 O20
 have ge21 : n0 ≤ b20 := Nat.le_trans Z0 (Nat.le_of_eq g20.symm)
 have sz22 : h0.size ≤ b20 := Nat.le_trans (Nat.le_refl _) (Nat.le_of_eq g20.symm)
 have K23 : Keep h0 h20 [jj3] := (Keep.refl h0 [jj3]).ext E20
 have V24 : Arv Z h20 b20 k20 (.object kc3) (4 : Int32) [.null, .null, .null, .null] .null := (Arv.new A20 (by decide)).pad (pad_rep [] .null 4)
 refine w_dup X20 hx (d7_4 hby) rfl (pc' := 5) rfl ?_
 refine w_iconst X20 hx (d7_5 hby) (v := (0 : Int32)) rfl (pc' := 6) rfl ?_
 refine w_aloadN X20 hx (d7_6 hby) rfl rfl (pc' := 7) rfl ?_
 have f25 : Fld Z h20 a0 kc1 "status" "I" (.int jj0) := (zz15.ext E20)
 refine w_getF X20 hx "" hZ hown (Or.inl (wd_20 hw)) Via.refl e20 f25 (d7_7 hby) (pc' := 10) rfl ?_
 intro T26 X26 e26
 have f27 : Old Z n0 h20 := (O0.ext E20)
 refine w_static X26 hx (y := yn_8) hown (mvT hZ (wd_55 hw)) (mvT hZ (wd_56 hw)) (mvT hZ (wd_57 hw)) (mvT hZ (wd_58 hw)) (by decide) (backOf (W := 3) (rm_m8_28 l Z aZ hw [] jj0 jj1 jj2 h20 n0 (Nat.le_trans Z0 E20.1) zz16 f27 zz17 zz18) hZ (wd_58 hw) (wd_57 hw) (by decide) (by decide)) (by rw [hml]; rfl) [(.int jj0)] (lenOf pd_12 rfl) rfl (Nat.le_of_eq rfl) (d7_10 hby) (fun _ _ => ⟨rfl, e26, (by decide : 1 + 1 ≤ _), (by decide : 4 + 1 ≤ _)⟩) (pc' := 13) rfl ?_
 rintro _ _ ⟨T28, L28, k28, n28⟩ X28 ⟨Lc28, hQ28, l28, y28, z28⟩
 dsimp only [Pt.U, Pt.locs, Pt.cells, Pt.slots] at X28 l28 y28 z28 hQ28 ⊢
 subst l28 y28 z28
 obtain ⟨r_28, rfl, N28q, K28, g28_0, g28_1⟩ := hQ28
 have N29 := Fr.app N0 N28q
 have K30 : Keep h0 T28.heap [jj3] := K23.trans K28 (all0 (P := fun x => x ∈ [jj3] ∨ h0.size ≤ x))
 show Runs _ _ _ _ (T28.setTop (mkF m 13 #[.val (.ref a0)] [(.ref r_28), (.int (0 : Int32)), (.ref b20), (.ref b20)]))
 have f31 : Arv Z T28.heap b20 k20 (.object kc3) (4 : Int32) [.null, .null, .null, .null] .null := (V24.keep K28 nin0)
 obtain ⟨clu32, Aru32, qu32, Su32, Nu32, Hu32, Gu32⟩ := id f31
 have hinu32 := inb_of (j := (0 : Int32)) Su32 ⟨by decide, by decide⟩
 refine w_stR X28 hx hZ rfl Aru32 hinu32 rfl (Sto.ofV Aru32 qu32 O20 (Ins.of_exa g28_0 (wd_62 hw))) (d7_13 hby) (pc' := 14) rfl ?_
 intro T33 h33 X33 e33 W33
 have V34 : Arv Z h33 b20 k20 (.object kc3) (4 : Int32) [(.ref r_28), .null, .null, .null] .null := Arv.set Aru32 qu32 Su32 Nu32 Hu32 Gu32 rfl W33 0 rfl (Nat.le_of_ble_eq_true rfl)
 have K35 : Keep h0 h33 [jj3] := K30.wr W33 (Or.inr sz22)
 have N36 := Fr.snoc X33 N29 ge21
 refine w_dup X33 hx (d7_14 hby) rfl (pc' := 15) rfl ?_
 refine w_iconst X33 hx (d7_15 hby) (v := (1 : Int32)) rfl (pc' := 16) rfl ?_
 refine w_aloadN X33 hx (d7_16 hby) rfl rfl (pc' := 17) rfl ?_
 have ne37 : a0 ≠ b20 := (Nat.ne_of_lt (Nat.lt_of_lt_of_le zz15.lt (Nat.le_trans (Nat.le_refl _) (Nat.le_of_eq g20.symm))))
 have f38 : Fld Z h33 a0 kc1 "contentType" "Ljava/lang/String;" (.ref jj3) := (((zz19.ext E20).keep K28 nin0).other W33 (Or.inl ne37))
 refine w_getF X33 hx "" hZ hown (Or.inl (wd_22 hw)) Via.refl e33 f38 (d7_17 hby) (pc' := 20) rfl ?_
 intro T39 X39 e39
 have f41 : Exa Z h33 jj3 kc0 := (((zz20.ext E20).keep K28).wr W33)
 obtain ⟨clu40, Aru40, qu40, Su40, Nu40, Hu40, Gu40⟩ := id V34
 have hinu40 := inb_of (j := (1 : Int32)) Su40 ⟨by decide, by decide⟩
 refine w_stR X39 hx hZ e39 Aru40 hinu40 rfl (Sto.ofV Aru40 qu40 O20 (Ins.of_exa f41 (wd_124 hw))) (d7_20 hby) (pc' := 21) rfl ?_
 intro T42 h42 X42 e42 W42
 have V43 : Arv Z h42 b20 k20 (.object kc3) (4 : Int32) [(.ref r_28), (.ref jj3), .null, .null] .null := Arv.set Aru40 qu40 Su40 Nu40 Hu40 Gu40 rfl W42 1 rfl (Nat.le_of_ble_eq_true rfl)
 have K44 : Keep h0 h42 [jj3] := K35.wr W42 (Or.inr sz22)
 have N45 := Fr.snoc X42 N36 ge21
 refine w_dup X42 hx (d7_21 hby) rfl (pc' := 22) rfl ?_
 refine w_iconst X42 hx (d7_22 hby) (v := (2 : Int32)) rfl (pc' := 23) rfl ?_
 refine w_aloadN X42 hx (d7_23 hby) rfl rfl (pc' := 24) rfl ?_
 have f46 : Fld Z h42 a0 kc1 "location" "Ljava/lang/String;" .null := ((((zz21.ext E20).keep K28 nin0).other W33 (Or.inl ne37)).other W42 (Or.inl ne37))
 refine w_getF X42 hx "" hZ hown (Or.inl (wd_24 hw)) Via.refl e42 f46 (d7_24 hby) (pc' := 27) rfl ?_
 intro T47 X47 e47
 obtain ⟨clu48, Aru48, qu48, Su48, Nu48, Hu48, Gu48⟩ := id V43
 have hinu48 := inb_of (j := (2 : Int32)) Su48 ⟨by decide, by decide⟩
 refine w_stR X47 hx hZ e47 Aru48 hinu48 rfl (Or.inl rfl) (d7_27 hby) (pc' := 28) rfl ?_
 intro T49 h49 X49 e49 W49
 have V50 : Arv Z h49 b20 k20 (.object kc3) (4 : Int32) [(.ref r_28), (.ref jj3), .null, .null] .null := Arv.set Aru48 qu48 Su48 Nu48 Hu48 Gu48 rfl W49 2 rfl (Nat.le_of_ble_eq_true rfl)
 have K51 : Keep h0 h49 [jj3] := K44.wr W49 (Or.inr sz22)
 have N52 := Fr.snoc X49 N45 ge21
 refine w_dup X49 hx (d7_28 hby) rfl (pc' := 29) rfl ?_
 refine w_iconst X49 hx (d7_29 hby) (v := (3 : Int32)) rfl (pc' := 30) rfl ?_
 refine w_aloadN X49 hx (d7_30 hby) rfl rfl (pc' := 31) rfl ?_
 have f53 : Fld Z h49 a0 kc1 "body" "[B" (.ref jj4) := (((((zz22.ext E20).keep K28 nin0).other W33 (Or.inl ne37)).other W42 (Or.inl ne37)).other W49 (Or.inl ne37))
 refine w_getF X49 hx "" hZ hown (Or.inl (wd_46 hw)) Via.refl e49 f53 (d7_31 hby) (pc' := 34) rfl ?_
 intro T54 X54 e54
 have ne55 : jj4 ≠ b20 := (Nat.ne_of_lt (Nat.lt_of_lt_of_le zz23.lt (Nat.le_trans (Nat.le_refl _) (Nat.le_of_eq g20.symm))))
 have f56 : Arv Z h49 jj4 jj5 .byte jj6 (mI jj7) (.int (0 : Int32)) := (((((zz23.ext E20).keep K28 nin0).other W33 ne55).other W42 ne55).other W49 ne55)
 have f57 : Exa Z h49 jj4 "[B" := (((((zz24.ext E20).keep K28).wr W33).wr W42).wr W49)
 have le58 : h0.size ≤ T28.heap.size := (Nat.le_trans E20.1 K28.1)
 have le59 : h0.size ≤ h33.size := (Nat.le_trans le58 (Keep.of_wr W33).1)
 have le60 : h0.size ≤ h42.size := (Nat.le_trans le59 (Keep.of_wr W42).1)
 have le61 : h0.size ≤ h49.size := (Nat.le_trans le60 (Keep.of_wr W49).1)
 refine w_static X54 hx (y := yn_9) hown (mvT hZ (wd_63 hw)) (mvT hZ (wd_64 hw)) (mvT hZ (wd_65 hw)) (mvT hZ (wd_66 hw)) (by decide) (backOf (W := 3) (rm_m9_31 l Z aZ hw [] jj4 jj5 jj6 jj7 h49 n0 (Nat.le_trans Z0 le61) f56 zz25 f57) hZ (wd_66 hw) (wd_65 hw) (by decide) (by decide)) (by rw [hml]; rfl) [(.ref jj4)] (lenOf pd_15 rfl) rfl (Nat.le_of_eq rfl) (d7_34 hby) (fun _ _ => ⟨rfl, e54, (by decide : 2 + 0 ≤ _), (by decide : 5 + 0 ≤ _)⟩) (pc' := 37) rfl ?_
 rintro _ _ ⟨T62, L62, k62, n62⟩ X62 ⟨Lc62, hQ62, l62, y62, z62⟩
 dsimp only [Pt.U, Pt.locs, Pt.cells, Pt.slots] at X62 l62 y62 z62 hQ62 ⊢
 subst l62 y62 z62
 obtain ⟨rfl, N62q, e62⟩ := hQ62
 have N63 := Fr.app N52 N62q
 show Runs _ _ _ _ (T62.setTop (mkF m 37 #[.val (.ref a0)] [(.int (hB jj7)), (.int (3 : Int32)), (.ref b20), (.ref b20)]))
 have f64 : Old Z n0 h49 := ((((f27.keep K28 all0).wr W33 ge21).wr W42 ge21).wr W49 ge21)
 refine w_static X62 hx (y := yn_8) hown (mvT hZ (wd_55 hw)) (mvT hZ (wd_56 hw)) (mvT hZ (wd_57 hw)) (mvT hZ (wd_58 hw)) (by decide) (backOf (W := 3) (rm_m8_28 l Z aZ hw [] (hB jj7) jj1 jj2 h49 n0 (Nat.le_trans Z0 le61) zz16 f64 zz17 zz18) hZ (wd_58 hw) (wd_57 hw) (by decide) (by decide)) (by rw [hml]; rfl) [(.int (hB jj7))] (lenOf pd_12 rfl) rfl (Nat.le_of_eq rfl) (d7_37 hby) (fun _ _ => ⟨rfl, e62, (by decide : 2 + 1 ≤ _), (by decide : 5 + 1 ≤ _)⟩) (pc' := 40) rfl ?_
 rintro _ _ ⟨T65, L65, k65, n65⟩ X65 ⟨Lc65, hQ65, l65, y65, z65⟩
 dsimp only [Pt.U, Pt.locs, Pt.cells, Pt.slots] at X65 l65 y65 z65 hQ65 ⊢
 subst l65 y65 z65
 obtain ⟨r_65, rfl, N65q, K65, g65_0, g65_1⟩ := hQ65
 have N66 := Fr.app N63 N65q
 have K67 : Keep h0 T65.heap [jj3] := K51.trans K65 (all0 (P := fun x => x ∈ [jj3] ∨ h0.size ≤ x))
 show Runs _ _ _ _ (T65.setTop (mkF m 40 #[.val (.ref a0)] [(.ref r_65), (.int (3 : Int32)), (.ref b20), (.ref b20)]))
 have f68 : Arv Z T65.heap b20 k20 (.object kc3) (4 : Int32) [(.ref r_28), (.ref jj3), .null, .null] .null := (V50.keep K65 nin0)
 obtain ⟨clu69, Aru69, qu69, Su69, Nu69, Hu69, Gu69⟩ := id f68
 have hinu69 := inb_of (j := (3 : Int32)) Su69 ⟨by decide, by decide⟩
 refine w_stR X65 hx hZ rfl Aru69 hinu69 rfl (Sto.ofV Aru69 qu69 O20 (Ins.of_exa g65_0 (wd_62 hw))) (d7_40 hby) (pc' := 41) rfl ?_
 intro T70 h70 X70 e70 W70
 have V71 : Arv Z h70 b20 k20 (.object kc3) (4 : Int32) [(.ref r_28), (.ref jj3), .null, (.ref r_65)] .null := Arv.set Aru69 qu69 Su69 Nu69 Hu69 Gu69 rfl W70 3 rfl (Nat.le_of_ble_eq_true rfl)
 have K72 : Keep h0 h70 [jj3] := K67.wr W70 (Or.inr sz22)
 have N73 := Fr.snoc X70 N66 ge21
 have f79 : Exa Z h70 r_28 kc2 := (((((g28_0.wr W33).wr W42).wr W49).keep K65).wr W70)
 have f81 : Exa Z h70 b20 "[Ljava/lang/Object;" := ((((((Q20.keep K28).wr W33).wr W42).wr W49).keep K65).wr W70)
 have ne80 : r_28 ≠ b20 := ne_exa f79 f81 (by decide)
 have f82 : Fld Z h70 r_28 kc2 "value" "I" (.int jj0) := (((((g28_1.other W33 (Or.inl ne80)).other W42 (Or.inl ne80)).other W49 (Or.inl ne80)).keep K65 nin0).other W70 (Or.inl ne80))
 have f83 : Exa Z h70 jj3 kc0 := ((((f41.wr W42).wr W49).keep K65).wr W70)
 have ne84 : jj3 ≠ b20 := (Nat.ne_of_lt (Nat.lt_of_lt_of_le zz20.lt (Nat.le_trans (Nat.le_refl _) (Nat.le_of_eq g20.symm))))
 have f85 : Fld Z h70 jj3 kc0 "hash" "I" (.int jj8) := (((((((zz26.ext E20).keep K28 nin0).other W33 (Or.inl ne84)).other W42 (Or.inl ne84)).other W49 (Or.inl ne84)).keep K65 nin0).other W70 (Or.inl ne84))
 have f86 : Fld Z h70 jj3 kc0 "hashIsZero" "Z" (.int jj9) := (((((((zz27.ext E20).keep K28 nin0).other W33 (Or.inl ne84)).other W42 (Or.inl ne84)).other W49 (Or.inl ne84)).keep K65 nin0).other W70 (Or.inl ne84))
 have f87 : Fld Z h70 jj3 kc0 "coder" "B" (.int (0 : Int32)) := (((((((zz28.ext E20).keep K28 nin0).other W33 (Or.inl ne84)).other W42 (Or.inl ne84)).other W49 (Or.inl ne84)).keep K65 nin0).other W70 (Or.inl ne84))
 have f88 : Fld Z h70 jj3 kc0 "value" "[B" (.ref jj10) := (((((((zz29.ext E20).keep K28 nin0).other W33 (Or.inl ne84)).other W42 (Or.inl ne84)).other W49 (Or.inl ne84)).keep K65 nin0).other W70 (Or.inl ne84))
 have ne89 : jj10 ≠ b20 := (Nat.ne_of_lt (Nat.lt_of_lt_of_le zz30.lt (Nat.le_trans (Nat.le_refl _) (Nat.le_of_eq g20.symm))))
 have f90 : Arv Z h70 jj10 jj11 .byte jj12 (mI jj13) (.int (0 : Int32)) := (((((((zz30.ext E20).keep K28 nin0).other W33 ne89).other W42 ne89).other W49 ne89).keep K65 nin0).other W70 ne89)
 have f91 : EB Z h70 jj10 jj12 := (((((((zz31.ext E20).keep K28).wr W33).wr W42).wr W49).keep K65).wr W70)
 have f92 : Exa Z h70 r_65 kc2 := (g65_0.wr W70)
 have ne93 : r_65 ≠ b20 := ne_exa f92 f81 (by decide)
 have f94 : Fld Z h70 r_65 kc2 "value" "I" (.int (hB jj7)) := (g65_1.other W70 (Or.inl ne93))
 have f95 : Old Z n0 h70 := ((f64.keep K65 all0).wr W70 ge21)
 have le96 : h0.size ≤ T65.heap.size := (Nat.le_trans le61 K65.1)
 have le97 : h0.size ≤ h70.size := (Nat.le_trans le96 (Keep.of_wr W70).1)
 refine w_static X70 hx (y := yn_10) hown (mvT hZ (wd_67 hw)) (mvT hZ (wd_68 hw)) (mvT hZ (wd_35 hw)) (mvT hZ (wd_69 hw)) (by decide) (backOf (W := 0) (rm_m10_67 l Z aZ hw [] b20 k20 r_28 jj3 r_65 jj0 jj8 jj9 jj10 jj11 jj12 jj13 (hB jj7) jj14 h70 n0 (Nat.le_trans Z0 le97) V71 f79 f82 f83 f85 f86 f87 f88 f90 f91 f92 f94 zz32 f95 zz33 zz34 zz35 zz36) hZ (wd_69 hw) (wd_35 hw) (by decide) (by decide)) (by rw [hml]; rfl) [(.ref b20)] (lenOf pd_18 rfl) rfl (Nat.le_of_eq rfl) (d7_41 hby) (fun _ _ => ⟨rfl, e70, (by decide : 3 + 0 ≤ _), (by decide : 6 + 0 ≤ _)⟩) (pc' := 44) rfl ?_
 rintro _ _ ⟨T98, L98, k98, n98⟩ X98 ⟨Lc98, hQ98, l98, y98, z98⟩
 dsimp only [Pt.U, Pt.locs, Pt.cells, Pt.slots] at X98 l98 y98 z98 hQ98 ⊢
 subst l98 y98 z98
 obtain ⟨rfl, N98q, K98, g98_0, g98_1, g98_2, g98_3, g98_4⟩ := hQ98
 have N99 := Fr.app N73 N98q
 have K100 : Keep h0 T98.heap [jj3] := K72.trans K98 (allS (Or.inl (by simp)) (all0 (P := fun x => x ∈ [jj3] ∨ h0.size ≤ x)))
 show Runs _ _ _ _ (T98.setTop (mkF m 44 #[.val (.ref a0)] [(.int (((31 : Int32) * (((31 : Int32) * (((31 : Int32) * ((31 : Int32) + jj0)) + (hS jj13))) + (0 : Int32))) + (hB jj7)))]))
 exact w_done X98 hlk (v := some (.int (((31 : Int32) * (((31 : Int32) * (((31 : Int32) * ((31 : Int32) + jj0)) + (hS jj13))) + (0 : Int32))) + (hB jj7)))) rfl (fun h => by rw [hret] at h; cases h) (fun fs hr => retI X98 hx hret (d7_44 hby) hr) (by decide) (by decide) (⟨rfl, N99, K100, g98_0, g98_1, g98_2, g98_3, g98_4⟩)
theorem ef_m14_69 (m : MethodId) (a0 : Addr) (a1 : Addr)  : entryFrame m #[(.ref a0), (.ref a1)] 3 = mkF m 0 #[.val (.ref a0), .val (.ref a1), .unset] [] := by first | (simp [entryFrame, mkF, argsToLocals, Value.category]; done) | rfl
def Q_m14_69 (Z : State) (a0 : Addr) (a1 : Addr) (jj0 : Int32) (jj1 : Addr) (jj2 : Addr) (jj3 : Addr) (jj4 : Addr) (jj5 : ClassId) (jj6 : Int32) (jj7 : List Int32) (jj8 : ClassId) (jj9 : Int32) (jj10 : Addr) (jj11 : Addr) (jj12 : ClassId) (jj13 : Int32) (jj14 : List Int32) (jj15 : ClassId) (h0 : Heap) (n0 : Nat) (v : Option Value) (h : Heap) (L : List Loc) : Prop := v = some (.int (1 : Int32)) ∧ Fr n0 L ∧ h = h0
theorem rm_m14_69 (l : Launch) (Z : State) (aZ : Array Value) (hw : ∀ d ∈ tables_1, d.before aZ Z = true) (ws : List Jvm.Cond) (a0 : Addr) (a1 : Addr) (jj0 : Int32) (jj1 : Addr) (jj2 : Addr) (jj3 : Addr) (jj4 : Addr) (jj5 : ClassId) (jj6 : Int32) (jj7 : List Int32) (jj8 : ClassId) (jj9 : Int32) (jj10 : Addr) (jj11 : Addr) (jj12 : ClassId) (jj13 : Int32) (jj14 : List Int32) (jj15 : ClassId) (h0 : Heap) (n0 : Nat) (Z0 : n0 ≤ h0.size) (E_a1 : Exa Z h0 a1 kc1) (zz16 : Fld Z h0 a0 kc1 "status" "I" (.int jj0)) (zz17 : Fld Z h0 a1 kc1 "status" "I" (.int jj0)) (zz18 : Fld Z h0 a0 kc1 "contentType" "Ljava/lang/String;" (.ref jj1)) (zz19 : Fld Z h0 a1 kc1 "contentType" "Ljava/lang/String;" (.ref jj2)) (zz20 : Exa Z h0 jj1 kc0) (zz21 : Exa Z h0 jj2 kc0) (zz22 : Fld Z h0 jj1 kc0 "coder" "B" (.int (0 : Int32))) (zz23 : Fld Z h0 jj2 kc0 "coder" "B" (.int (0 : Int32))) (zz24 : Fld Z h0 jj1 kc0 "value" "[B" (.ref jj3)) (zz25 : Fld Z h0 jj2 kc0 "value" "[B" (.ref jj4)) (zz26 : Arv Z h0 jj3 jj5 .byte jj6 (mI jj7) (.int (0 : Int32))) (zz27 : Arv Z h0 jj4 jj8 .byte jj6 (mI jj7) (.int (0 : Int32))) (zz28 : Sta Z Z.heap kc0 "COMPACT_STRINGS" "Z" (.int jj9)) (O0 : Old Z n0 h0) (zz29 : jj1 ≠ jj2) (zz30 : ¬ (jj9 = (0 : Int32))) (zz31 : TS jj6 jj7) (zz32 : Fld Z h0 a0 kc1 "location" "Ljava/lang/String;" .null) (zz33 : Fld Z h0 a1 kc1 "location" "Ljava/lang/String;" .null) (zz34 : Fld Z h0 a0 kc1 "body" "[B" (.ref jj10)) (zz35 : Fld Z h0 a1 kc1 "body" "[B" (.ref jj11)) (zz36 : Arv Z h0 jj10 jj12 .byte jj13 (mI jj14) (.int (0 : Int32))) (zz37 : Arv Z h0 jj11 jj15 .byte jj13 (mI jj14) (.int (0 : Int32))) (zz38 : TB jj13 jj14) (zz39 : jj10 ≠ jj11) :
    MetN l Z yn_14 prog_12_method_6_code 3 (some .boolean) ws ({ frames := 3, cells := 0, slots := 0, locals := 41 } : Room) #[(.ref a0), (.ref a1)] h0 (Q_m14_69 Z a0 a1 jj0 jj1 jj2 jj3 jj4 jj5 jj6 jj7 jj8 jj9 jj10 jj11 jj12 jj13 jj14 jj15 h0 n0) := by
 refine MetN.of (plainFor_of_name pn_4) ?_
 intro p e s m below meth c s₁ hret hx hby hml hown hnm hlk hZ X0 e0
 have N0 := Fr.nil n0
 rw [ef_m14_69 m a0 a1]
 refine w_aloadN X0 hx (d14_0 hby) rfl rfl (pc' := 1) rfl ?_
 refine w_instY X0 hx hZ hown (wd_89 hw) e0 (Ins.self E_a1) (d14_1 hby) (pc' := 4) rfl ?_
 intro T20 X20 e20
 refine w_ifN X20 hx (d14_4 hby) (feq (by decide : ¬ ((1 : Int32) = (0 : Int32)))).1 (pc' := 7) rfl ?_
 refine w_aloadN X20 hx (d14_7 hby) rfl rfl (pc' := 8) rfl ?_
 refine w_castY X20 hx hZ hown (wd_89 hw) e20 (Ins.self E_a1) (d14_8 hby) (pc' := 11) rfl ?_
 intro T21 X21 e21
 refine w_astoreN X21 hx (d14_11 hby) rfl (L' := #[.val (.ref a0), .val (.ref a1), .val (.ref a1)]) rfl (pc' := 12) rfl ?_
 refine w_aloadN X21 hx (d14_12 hby) rfl rfl (pc' := 13) rfl ?_
 refine w_getF X21 hx "" hZ hown (Or.inl (wd_20 hw)) Via.refl e21 zz16 (d14_13 hby) (pc' := 16) rfl ?_
 intro T22 X22 e22
 refine w_aloadN X22 hx (d14_16 hby) rfl rfl (pc' := 17) rfl ?_
 refine w_getF X22 hx "" hZ hown (Or.inl (wd_20 hw)) Via.refl e22 zz17 (d14_17 hby) (pc' := 20) rfl ?_
 intro T23 X23 e23
 refine w_icN X23 hx (d14_20 hby) (teq (rfl : jj0 = jj0)).2 (pc' := 23) rfl ?_
 refine w_aloadN X23 hx (d14_23 hby) rfl rfl (pc' := 24) rfl ?_
 refine w_getF X23 hx "" hZ hown (Or.inl (wd_22 hw)) Via.refl e23 zz18 (d14_24 hby) (pc' := 27) rfl ?_
 intro T24 X24 e24
 refine w_aloadN X24 hx (d14_27 hby) rfl rfl (pc' := 28) rfl ?_
 refine w_getF X24 hx "" hZ hown (Or.inl (wd_22 hw)) Via.refl e24 zz19 (d14_28 hby) (pc' := 31) rfl ?_
 intro T25 X25 e25
 refine w_static X25 hx (y := yn_15) hown (mvT hZ (wd_91 hw)) (mvT hZ (wd_92 hw)) (mvT hZ (wd_35 hw)) (mvT hZ (wd_93 hw)) (by decide) (backOf (W := 0) (rm_m15_60 l Z aZ hw [] jj1 jj2 jj3 jj4 jj5 jj6 jj7 jj8 jj9 h0 n0 Z0 zz29 zz20 zz21 zz30 zz22 zz23 zz24 zz25 zz26 zz27 zz28 O0 zz31) hZ (wd_93 hw) (wd_35 hw) (by decide) (by decide)) (by rw [hml]; rfl) [(.ref jj1), (.ref jj2)] (lenOf pd_19 rfl) rfl (Nat.le_of_eq rfl) (d14_31 hby) (fun _ _ => ⟨rfl, e25, (by decide : 0 + 0 ≤ _), (by decide : 0 + 0 ≤ _)⟩) (pc' := 34) rfl ?_
 rintro _ _ ⟨T26, L26, k26, n26⟩ X26 ⟨Lc26, hQ26, l26, y26, z26⟩
 dsimp only [Pt.U, Pt.locs, Pt.cells, Pt.slots] at X26 l26 y26 z26 hQ26 ⊢
 subst l26 y26 z26
 obtain ⟨rfl, N26q, e26⟩ := hQ26
 have N27 := Fr.app N0 N26q
 show Runs _ _ _ _ (T26.setTop (mkF m 34 #[.val (.ref a0), .val (.ref a1), .val (.ref a1)] [(.int (1 : Int32))]))
 refine w_ifN X26 hx (d14_34 hby) (feq (by decide : ¬ ((1 : Int32) = (0 : Int32)))).1 (pc' := 37) rfl ?_
 refine w_aloadN X26 hx (d14_37 hby) rfl rfl (pc' := 38) rfl ?_
 refine w_getF X26 hx "" hZ hown (Or.inl (wd_24 hw)) Via.refl e26 zz32 (d14_38 hby) (pc' := 41) rfl ?_
 intro T28 X28 e28
 refine w_aloadN X28 hx (d14_41 hby) rfl rfl (pc' := 42) rfl ?_
 refine w_getF X28 hx "" hZ hown (Or.inl (wd_24 hw)) Via.refl e28 zz33 (d14_42 hby) (pc' := 45) rfl ?_
 intro T29 X29 e29
 refine w_static X29 hx (y := yn_15) hown (mvT hZ (wd_91 hw)) (mvT hZ (wd_92 hw)) (mvT hZ (wd_35 hw)) (mvT hZ (wd_93 hw)) (by decide) (backOf (W := 0) (rm_m15_41 l Z aZ hw []  h0 n0 Z0 ) hZ (wd_93 hw) (wd_35 hw) (by decide) (by decide)) (by rw [hml]; rfl) [.null, .null] (lenOf pd_19 rfl) rfl (Nat.le_of_eq rfl) (d14_45 hby) (fun _ _ => ⟨rfl, e29, (by decide : 0 + 0 ≤ _), (by decide : 0 + 0 ≤ _)⟩) (pc' := 48) rfl ?_
 rintro _ _ ⟨T30, L30, k30, n30⟩ X30 ⟨Lc30, hQ30, l30, y30, z30⟩
 dsimp only [Pt.U, Pt.locs, Pt.cells, Pt.slots] at X30 l30 y30 z30 hQ30 ⊢
 subst l30 y30 z30
 obtain ⟨rfl, N30q, e30⟩ := hQ30
 have N31 := Fr.app N27 N30q
 show Runs _ _ _ _ (T30.setTop (mkF m 48 #[.val (.ref a0), .val (.ref a1), .val (.ref a1)] [(.int (1 : Int32))]))
 refine w_ifN X30 hx (d14_48 hby) (feq (by decide : ¬ ((1 : Int32) = (0 : Int32)))).1 (pc' := 51) rfl ?_
 refine w_aloadN X30 hx (d14_51 hby) rfl rfl (pc' := 52) rfl ?_
 refine w_getF X30 hx "" hZ hown (Or.inl (wd_46 hw)) Via.refl e30 zz34 (d14_52 hby) (pc' := 55) rfl ?_
 intro T32 X32 e32
 refine w_aloadN X32 hx (d14_55 hby) rfl rfl (pc' := 56) rfl ?_
 refine w_getF X32 hx "" hZ hown (Or.inl (wd_46 hw)) Via.refl e32 zz35 (d14_56 hby) (pc' := 59) rfl ?_
 intro T33 X33 e33
 refine w_static X33 hx (y := yn_16) hown (mvT hZ (wd_94 hw)) (mvT hZ (wd_95 hw)) (mvT hZ (wd_65 hw)) (mvT hZ (wd_96 hw)) (by decide) (backOf (W := 0) (rm_m16_42 l Z aZ hw [] jj10 jj11 jj12 jj13 jj14 jj15 h0 n0 Z0 zz36 zz37 zz38 zz39) hZ (wd_96 hw) (wd_65 hw) (by decide) (by decide)) (by rw [hml]; rfl) [(.ref jj10), (.ref jj11)] (lenOf pd_21 rfl) rfl (Nat.le_of_eq rfl) (d14_59 hby) (fun _ _ => ⟨rfl, e33, (by decide : 0 + 0 ≤ _), (by decide : 0 + 0 ≤ _)⟩) (pc' := 62) rfl ?_
 rintro _ _ ⟨T34, L34, k34, n34⟩ X34 ⟨Lc34, hQ34, l34, y34, z34⟩
 dsimp only [Pt.U, Pt.locs, Pt.cells, Pt.slots] at X34 l34 y34 z34 hQ34 ⊢
 subst l34 y34 z34
 obtain ⟨rfl, N34q, e34⟩ := hQ34
 have N35 := Fr.app N31 N34q
 show Runs _ _ _ _ (T34.setTop (mkF m 62 #[.val (.ref a0), .val (.ref a1), .val (.ref a1)] [(.int (1 : Int32))]))
 refine w_ifN X34 hx (d14_62 hby) (feq (by decide : ¬ ((1 : Int32) = (0 : Int32)))).1 (pc' := 65) rfl ?_
 refine w_iconst X34 hx (d14_65 hby) (v := (1 : Int32)) rfl (pc' := 66) rfl ?_
 refine w_goto X34 hx (d14_66 hby) (pc' := 70) (by decide) (by decide) ?_
 exact w_done X34 hlk (v := some (.int (1 : Int32))) e34 (fun h => by rw [hret] at h; cases h) (fun fs hr => retN X34 hx (t := .boolean) hret (by simp) (d14_70 hby) hr) (by decide) (by decide) (⟨rfl, N35, rfl⟩)
theorem ef_m11_72 (m : MethodId) (a0 : Addr)  : entryFrame m #[(.ref a0)] 6 = mkF m 0 #[.val (.ref a0), .unset, .unset, .unset, .unset, .unset] [] := by first | (simp [entryFrame, mkF, argsToLocals, Value.category]; done) | rfl
def Q_m11_72 (Z : State) (a0 : Addr) (k_a0 : ClassId) (jj0 : Addr) (jj1 : Addr) (jj2 : Addr) (jj3 : Addr) (jj4 : Int32) (jj5 : Int32) (jj6 : Addr) (jj7 : ClassId) (jj8 : Int32) (jj9 : List Int32) (jj10 : Addr) (jj11 : ClassId) (jj12 : Int32) (jj13 : List Int32) (jj14 : Int32) (h0 : Heap) (n0 : Nat) (v : Option Value) (h : Heap) (L : List Loc) : Prop := v = some (.int (((31 : Int32) * (((31 : Int32) * (((31 : Int32) * ((31 : Int32) + jj4)) + (hS jj9))) + (hS jj13))) + jj14)) ∧ Fr n0 L ∧ Keep h0 h [jj1, jj2] ∧ Exa Z h jj1 kc0 ∧ Fld Z h jj1 kc0 "hash" "I" (.int (hS jj9)) ∧ Fld Z h jj1 kc0 "hashIsZero" "Z" (.int (if (hS jj9) = (0 : Int32) then (1 : Int32) else (0 : Int32))) ∧ Fld Z h jj1 kc0 "coder" "B" (.int (0 : Int32)) ∧ Fld Z h jj1 kc0 "value" "[B" (.ref jj6) ∧ Exa Z h jj2 kc0 ∧ Fld Z h jj2 kc0 "hash" "I" (.int (hS jj13)) ∧ Fld Z h jj2 kc0 "hashIsZero" "Z" (.int (if (hS jj13) = (0 : Int32) then (1 : Int32) else (0 : Int32))) ∧ Fld Z h jj2 kc0 "coder" "B" (.int (0 : Int32)) ∧ Fld Z h jj2 kc0 "value" "[B" (.ref jj10)
theorem rm_m11_72 (l : Launch) (Z : State) (aZ : Array Value) (hw : ∀ d ∈ tables_1, d.before aZ Z = true) (ws : List Jvm.Cond) (a0 : Addr) (k_a0 : ClassId) (jj0 : Addr) (jj1 : Addr) (jj2 : Addr) (jj3 : Addr) (jj4 : Int32) (jj5 : Int32) (jj6 : Addr) (jj7 : ClassId) (jj8 : Int32) (jj9 : List Int32) (jj10 : Addr) (jj11 : ClassId) (jj12 : Int32) (jj13 : List Int32) (jj14 : Int32) (h0 : Heap) (n0 : Nat) (Z0 : n0 ≤ h0.size) (V_a0 : Arv Z h0 a0 k_a0 (.object kc3) (4 : Int32) [(.ref jj0), (.ref jj1), (.ref jj2), (.ref jj3)] .null) (zz15 : Exa Z h0 jj0 kc2) (zz16 : Fld Z h0 jj0 kc2 "value" "I" (.int jj4)) (zz17 : Exa Z h0 jj1 kc0) (zz18 : Fld Z h0 jj1 kc0 "hash" "I" (.int (0 : Int32))) (zz19 : Fld Z h0 jj1 kc0 "hashIsZero" "Z" (.int (0 : Int32))) (zz20 : Fld Z h0 jj1 kc0 "coder" "B" (.int (0 : Int32))) (zz21 : Sta Z Z.heap kc0 "COMPACT_STRINGS" "Z" (.int jj5)) (O0 : Old Z n0 h0) (zz22 : Fld Z h0 jj1 kc0 "value" "[B" (.ref jj6)) (zz23 : Arv Z h0 jj6 jj7 .byte jj8 (mI jj9) (.int (0 : Int32))) (zz24 : EB Z h0 jj6 jj8) (zz25 : ¬ (jj5 = (0 : Int32))) (zz26 : TS jj8 jj9) (zz27 : n0 ≤ jj1) (zz28 : Exa Z h0 jj2 kc0) (zz29 : Fld Z h0 jj2 kc0 "hash" "I" (.int (0 : Int32))) (zz30 : jj2 ≠ jj1) (zz31 : Fld Z h0 jj2 kc0 "hashIsZero" "Z" (.int (0 : Int32))) (zz32 : Fld Z h0 jj2 kc0 "coder" "B" (.int (0 : Int32))) (zz33 : Fld Z h0 jj2 kc0 "value" "[B" (.ref jj10)) (zz34 : Arv Z h0 jj10 jj11 .byte jj12 (mI jj13) (.int (0 : Int32))) (zz35 : EB Z h0 jj10 jj12) (zz36 : TS jj12 jj13) (zz37 : n0 ≤ jj2) (zz38 : Exa Z h0 jj3 kc2) (zz39 : Fld Z h0 jj3 kc2 "value" "I" (.int jj14)) :
    MetN l Z yn_11 jdk_65_method_157_code 6 (some .int) ws ({ frames := 4, cells := 0, slots := 0, locals := 59 } : Room) #[(.ref a0)] h0 (Q_m11_72 Z a0 k_a0 jj0 jj1 jj2 jj3 jj4 jj5 jj6 jj7 jj8 jj9 jj10 jj11 jj12 jj13 jj14 h0 n0) := by
 refine MetN.of (plainFor_of_name pn_8) ?_
 intro p e s m below meth c s₁ hret hx hby hml hown hnm hlk hZ X0 e0
 have N0 := Fr.nil n0
 rw [ef_m11_72 m a0]
 refine w_aloadN X0 hx (d11_0 hby) rfl rfl (pc' := 1) rfl ?_
 refine w_ifnonnullY X0 hx (d11_1 hby) (pc' := 6) (by decide) (by decide) ?_
 refine w_iconst X0 hx (d11_6 hby) (v := (1 : Int32)) rfl (pc' := 7) rfl ?_
 refine w_istoreN X0 hx (d11_7 hby) (L' := #[.val (.ref a0), .val (.int (1 : Int32)), .unset, .unset, .unset, .unset]) rfl (pc' := 8) rfl ?_
 refine w_aloadN X0 hx (d11_8 hby) rfl rfl (pc' := 9) rfl ?_
 refine w_astoreN X0 hx (d11_9 hby) rfl (L' := #[.val (.ref a0), .val (.int (1 : Int32)), .val (.ref a0), .unset, .unset, .unset]) rfl (pc' := 10) rfl ?_
 refine w_aloadN X0 hx (d11_10 hby) rfl rfl (pc' := 11) rfl ?_
 refine w_alen X0 hx hZ e0 V_a0 (d11_11 hby) (pc' := 12) rfl ?_
 refine w_istoreN X0 hx (d11_12 hby) (L' := #[.val (.ref a0), .val (.int (1 : Int32)), .val (.ref a0), .val (.int (4 : Int32)), .unset, .unset]) rfl (pc' := 13) rfl ?_
 refine w_iconst X0 hx (d11_13 hby) (v := (0 : Int32)) rfl (pc' := 14) rfl ?_
 refine w_istore X0 hx (d11_14 hby) (L' := #[.val (.ref a0), .val (.int (1 : Int32)), .val (.ref a0), .val (.int (4 : Int32)), .val (.int (0 : Int32)), .unset]) rfl (pc' := 16) rfl ?_
 refine w_iload X0 hx (d11_16 hby) rfl (pc' := 18) rfl ?_
 refine w_iloadN X0 hx (d11_18 hby) rfl (pc' := 19) rfl ?_
 refine w_icN X0 hx (d11_19 hby) (tlt (by decide : (0 : Int32) < (4 : Int32))).2.1 (pc' := 22) rfl ?_
 refine w_aloadN X0 hx (d11_22 hby) rfl rfl (pc' := 23) rfl ?_
 refine w_iload X0 hx (d11_23 hby) rfl (pc' := 25) rfl ?_
 obtain ⟨clu20, Aru20, qu20, Su20, Nu20, Hu20, Gu20⟩ := id V_a0
 have hinu20 := inb_of (j := (0 : Int32)) Su20 ⟨by decide, by decide⟩
 refine w_aaload X0 hx hZ e0 Aru20 rfl hinu20 (Hu20.at hinu20 rfl) (d11_25 hby) (pc' := 26) rfl ?_
 refine w_astore X0 hx (d11_26 hby) rfl (L' := #[.val (.ref a0), .val (.int (1 : Int32)), .val (.ref a0), .val (.int (4 : Int32)), .val (.int (0 : Int32)), .val (.ref jj0)]) rfl (pc' := 28) rfl ?_
 refine w_bipush X0 hx (d11_28 hby) (v := (31 : Int32)) rfl (pc' := 30) rfl ?_
 refine w_iloadN X0 hx (d11_30 hby) rfl (pc' := 31) rfl ?_
 refine w_imul X0 hx (d11_31 hby) (pc' := 32) rfl ?_
 rw [show ((31 : Int32) * (1 : Int32)) = (31 : Int32) from by decide]
 refine w_aload X0 hx (d11_32 hby) rfl rfl (pc' := 34) rfl ?_
 refine w_ifnonnullY X0 hx (d11_34 hby) (pc' := 41) (by decide) (by decide) ?_
 refine w_aload X0 hx (d11_41 hby) rfl rfl (pc' := 43) rfl ?_
 obtain ⟨cq21, kq21, q21a, q21b, q21c⟩ := isOf hZ e0 zz15
 refine w_virtual X0 hx (y := (⟨kc3, "hashCode", "()I"⟩ : MethodName)) (z := yn_12) hown (mvT hZ (wd_73 hw)) (mvT hZ (wd_74 hw)) (own_nfS (args := #[]) (mvT hZ (wd_43 hw)) rfl) (mvT hZ (wd_76 hw)) (mvT hZ (wd_77 hw)) (by decide) (backOf (W := 1) (rm_m12_38 l Z aZ hw [] jj0 jj4 h0 n0 Z0 zz16) hZ (wd_78 hw) (wd_57 hw) (by decide) (by decide)) q21a q21c (by rw [hml]; rfl) [] (lenOf pd_17 rfl) rfl (Nat.le_of_eq rfl) (d11_43 hby) (fun _ _ => ⟨rfl, e0, (by decide : 0 + 0 ≤ _), (by decide : 0 + 0 ≤ _)⟩) (pc' := 46) rfl ?_
 rintro _ _ ⟨T21, L21, k21, n21⟩ X21 ⟨Lc21, hQ21, l21, y21, z21⟩
 dsimp only [Pt.U, Pt.locs, Pt.cells, Pt.slots] at X21 l21 y21 z21 hQ21 ⊢
 subst l21 y21 z21
 obtain ⟨rfl, N21q, e21⟩ := hQ21
 have N22 := Fr.app N0 N21q
 show Runs _ _ _ _ (T21.setTop (mkF m 46 #[.val (.ref a0), .val (.int (1 : Int32)), .val (.ref a0), .val (.int (4 : Int32)), .val (.int (0 : Int32)), .val (.ref jj0)] [(.int jj4), (.int (31 : Int32))]))
 refine w_iadd X21 hx (d11_46 hby) (pc' := 47) rfl ?_
 refine w_istoreN X21 hx (d11_47 hby) (L' := #[.val (.ref a0), .val (.int ((31 : Int32) + jj4)), .val (.ref a0), .val (.int (4 : Int32)), .val (.int (0 : Int32)), .val (.ref jj0)]) rfl (pc' := 48) rfl ?_
 refine w_iinc X21 hx (d11_48 hby) (v := (1 : Int32)) rfl rfl (L' := #[.val (.ref a0), .val (.int ((31 : Int32) + jj4)), .val (.ref a0), .val (.int (4 : Int32)), .val (.int ((0 : Int32) + (1 : Int32))), .val (.ref jj0)]) rfl (pc' := 51) rfl ?_
 rw [show ((0 : Int32) + (1 : Int32)) = (1 : Int32) from by decide]
 refine w_goto X21 hx (d11_51 hby) (pc' := 16) (by decide) (by decide) ?_
 refine w_iload X21 hx (d11_16 hby) rfl (pc' := 18) rfl ?_
 refine w_iloadN X21 hx (d11_18 hby) rfl (pc' := 19) rfl ?_
 refine w_icN X21 hx (d11_19 hby) (tlt (by decide : (1 : Int32) < (4 : Int32))).2.1 (pc' := 22) rfl ?_
 refine w_aloadN X21 hx (d11_22 hby) rfl rfl (pc' := 23) rfl ?_
 refine w_iload X21 hx (d11_23 hby) rfl (pc' := 25) rfl ?_
 obtain ⟨clu23, Aru23, qu23, Su23, Nu23, Hu23, Gu23⟩ := id V_a0
 have hinu23 := inb_of (j := (1 : Int32)) Su23 ⟨by decide, by decide⟩
 refine w_aaload X21 hx hZ e21 Aru23 rfl hinu23 (Hu23.at hinu23 rfl) (d11_25 hby) (pc' := 26) rfl ?_
 refine w_astore X21 hx (d11_26 hby) rfl (L' := #[.val (.ref a0), .val (.int ((31 : Int32) + jj4)), .val (.ref a0), .val (.int (4 : Int32)), .val (.int (1 : Int32)), .val (.ref jj1)]) rfl (pc' := 28) rfl ?_
 refine w_bipush X21 hx (d11_28 hby) (v := (31 : Int32)) rfl (pc' := 30) rfl ?_
 refine w_iloadN X21 hx (d11_30 hby) rfl (pc' := 31) rfl ?_
 refine w_imul X21 hx (d11_31 hby) (pc' := 32) rfl ?_
 refine w_aload X21 hx (d11_32 hby) rfl rfl (pc' := 34) rfl ?_
 refine w_ifnonnullY X21 hx (d11_34 hby) (pc' := 41) (by decide) (by decide) ?_
 refine w_aload X21 hx (d11_41 hby) rfl rfl (pc' := 43) rfl ?_
 obtain ⟨cq24, kq24, q24a, q24b, q24c⟩ := isOf hZ e21 zz17
 refine w_virtual X21 hx (y := (⟨kc3, "hashCode", "()I"⟩ : MethodName)) (z := yn_23) hown (mvT hZ (wd_73 hw)) (mvT hZ (wd_74 hw)) (own_nfS (args := #[]) (mvT hZ (wd_43 hw)) rfl) (mvT hZ (wd_125 hw)) (mvT hZ (wd_126 hw)) (by decide) (backOf (W := 1) (rm_m23_50 l Z aZ hw [] jj1 jj5 jj6 jj7 jj8 jj9 h0 n0 Z0 zz18 zz19 zz17 zz25 zz20 zz21 O0 zz22 zz23 zz24 zz26 zz27) hZ (wd_127 hw) (wd_27 hw) (by decide) (by decide)) q24a q24c (by rw [hml]; rfl) [] (lenOf pd_17 rfl) rfl (Nat.le_of_eq rfl) (d11_43 hby) (fun _ _ => ⟨rfl, e21, (by decide : 0 + 0 ≤ _), (by decide : 0 + 0 ≤ _)⟩) (pc' := 46) rfl ?_
 rintro _ _ ⟨T24, L24, k24, n24⟩ X24 ⟨Lc24, hQ24, l24, y24, z24⟩
 dsimp only [Pt.U, Pt.locs, Pt.cells, Pt.slots] at X24 l24 y24 z24 hQ24 ⊢
 subst l24 y24 z24
 obtain ⟨rfl, N24q, K24, g24_0, g24_1, g24_2, g24_3, g24_4⟩ := hQ24
 have N25 := Fr.app N22 N24q
 have K26 : Keep h0 T24.heap [jj1, jj2] := (Keep.refl h0 [jj1, jj2]).trans K24 (allS (Or.inl (by simp)) (all0 (P := fun x => x ∈ [jj1, jj2] ∨ h0.size ≤ x)))
 show Runs _ _ _ _ (T24.setTop (mkF m 46 #[.val (.ref a0), .val (.int ((31 : Int32) + jj4)), .val (.ref a0), .val (.int (4 : Int32)), .val (.int (1 : Int32)), .val (.ref jj1)] [(.int (hS jj9)), (.int ((31 : Int32) * ((31 : Int32) + jj4)))]))
 refine w_iadd X24 hx (d11_46 hby) (pc' := 47) rfl ?_
 refine w_istoreN X24 hx (d11_47 hby) (L' := #[.val (.ref a0), .val (.int (((31 : Int32) * ((31 : Int32) + jj4)) + (hS jj9))), .val (.ref a0), .val (.int (4 : Int32)), .val (.int (1 : Int32)), .val (.ref jj1)]) rfl (pc' := 48) rfl ?_
 refine w_iinc X24 hx (d11_48 hby) (v := (1 : Int32)) rfl rfl (L' := #[.val (.ref a0), .val (.int (((31 : Int32) * ((31 : Int32) + jj4)) + (hS jj9))), .val (.ref a0), .val (.int (4 : Int32)), .val (.int ((1 : Int32) + (1 : Int32))), .val (.ref jj1)]) rfl (pc' := 51) rfl ?_
 rw [show ((1 : Int32) + (1 : Int32)) = (2 : Int32) from by decide]
 refine w_goto X24 hx (d11_51 hby) (pc' := 16) (by decide) (by decide) ?_
 refine w_iload X24 hx (d11_16 hby) rfl (pc' := 18) rfl ?_
 refine w_iloadN X24 hx (d11_18 hby) rfl (pc' := 19) rfl ?_
 refine w_icN X24 hx (d11_19 hby) (tlt (by decide : (2 : Int32) < (4 : Int32))).2.1 (pc' := 22) rfl ?_
 refine w_aloadN X24 hx (d11_22 hby) rfl rfl (pc' := 23) rfl ?_
 refine w_iload X24 hx (d11_23 hby) rfl (pc' := 25) rfl ?_
 have ne27 : jj1 ≠ a0 := Exa.neArv zz17 V_a0 (wd_28 hw)
 have f28 : Arv Z T24.heap a0 k_a0 (.object kc3) (4 : Int32) [(.ref jj0), (.ref jj1), (.ref jj2), (.ref jj3)] .null := (V_a0.keep K24 (ninS (Ne.symm ne27) nin0))
 obtain ⟨clu29, Aru29, qu29, Su29, Nu29, Hu29, Gu29⟩ := id f28
 have hinu29 := inb_of (j := (2 : Int32)) Su29 ⟨by decide, by decide⟩
 refine w_aaload X24 hx hZ rfl Aru29 rfl hinu29 (Hu29.at hinu29 rfl) (d11_25 hby) (pc' := 26) rfl ?_
 refine w_astore X24 hx (d11_26 hby) rfl (L' := #[.val (.ref a0), .val (.int (((31 : Int32) * ((31 : Int32) + jj4)) + (hS jj9))), .val (.ref a0), .val (.int (4 : Int32)), .val (.int (2 : Int32)), .val (.ref jj2)]) rfl (pc' := 28) rfl ?_
 refine w_bipush X24 hx (d11_28 hby) (v := (31 : Int32)) rfl (pc' := 30) rfl ?_
 refine w_iloadN X24 hx (d11_30 hby) rfl (pc' := 31) rfl ?_
 refine w_imul X24 hx (d11_31 hby) (pc' := 32) rfl ?_
 refine w_aload X24 hx (d11_32 hby) rfl rfl (pc' := 34) rfl ?_
 refine w_ifnonnullY X24 hx (d11_34 hby) (pc' := 41) (by decide) (by decide) ?_
 refine w_aload X24 hx (d11_41 hby) rfl rfl (pc' := 43) rfl ?_
 have f30 : Fld Z T24.heap jj2 kc0 "hash" "I" (.int (0 : Int32)) := (zz29.keep K24 (ninS zz30 nin0))
 have f31 : Fld Z T24.heap jj2 kc0 "hashIsZero" "Z" (.int (0 : Int32)) := (zz31.keep K24 (ninS zz30 nin0))
 have f32 : Exa Z T24.heap jj2 kc0 := (zz28.keep K24)
 have f33 : Fld Z T24.heap jj2 kc0 "coder" "B" (.int (0 : Int32)) := (zz32.keep K24 (ninS zz30 nin0))
 have f34 : Old Z n0 T24.heap := (O0.keep K24 (allS zz27 all0))
 have f35 : Fld Z T24.heap jj2 kc0 "value" "[B" (.ref jj10) := (zz33.keep K24 (ninS zz30 nin0))
 have ne36 : jj1 ≠ jj10 := Exa.neArv zz17 zz34 (wd_28 hw)
 have f37 : Arv Z T24.heap jj10 jj11 .byte jj12 (mI jj13) (.int (0 : Int32)) := (zz34.keep K24 (ninS (Ne.symm ne36) nin0))
 have f38 : EB Z T24.heap jj10 jj12 := (zz35.keep K24)
 obtain ⟨cq39, kq39, q39a, q39b, q39c⟩ := isOf hZ rfl f32
 refine w_virtual X24 hx (y := (⟨kc3, "hashCode", "()I"⟩ : MethodName)) (z := yn_23) hown (mvT hZ (wd_73 hw)) (mvT hZ (wd_74 hw)) (own_nfS (args := #[]) (mvT hZ (wd_43 hw)) rfl) (mvT hZ (wd_125 hw)) (mvT hZ (wd_126 hw)) (by decide) (backOf (W := 1) (rm_m23_50 l Z aZ hw [] jj2 jj5 jj10 jj11 jj12 jj13 T24.heap n0 (Nat.le_trans Z0 K24.1) f30 f31 f32 zz25 f33 zz21 f34 f35 f37 f38 zz36 zz37) hZ (wd_127 hw) (wd_27 hw) (by decide) (by decide)) q39a q39c (by rw [hml]; rfl) [] (lenOf pd_17 rfl) rfl (Nat.le_of_eq rfl) (d11_43 hby) (fun _ _ => ⟨rfl, rfl, (by decide : 0 + 0 ≤ _), (by decide : 0 + 0 ≤ _)⟩) (pc' := 46) rfl ?_
 rintro _ _ ⟨T39, L39, k39, n39⟩ X39 ⟨Lc39, hQ39, l39, y39, z39⟩
 dsimp only [Pt.U, Pt.locs, Pt.cells, Pt.slots] at X39 l39 y39 z39 hQ39 ⊢
 subst l39 y39 z39
 obtain ⟨rfl, N39q, K39, g39_0, g39_1, g39_2, g39_3, g39_4⟩ := hQ39
 have N40 := Fr.app N25 N39q
 have K41 : Keep h0 T39.heap [jj1, jj2] := K26.trans K39 (allS (Or.inl (by simp)) (all0 (P := fun x => x ∈ [jj1, jj2] ∨ h0.size ≤ x)))
 show Runs _ _ _ _ (T39.setTop (mkF m 46 #[.val (.ref a0), .val (.int (((31 : Int32) * ((31 : Int32) + jj4)) + (hS jj9))), .val (.ref a0), .val (.int (4 : Int32)), .val (.int (2 : Int32)), .val (.ref jj2)] [(.int (hS jj13)), (.int ((31 : Int32) * (((31 : Int32) * ((31 : Int32) + jj4)) + (hS jj9))))]))
 refine w_iadd X39 hx (d11_46 hby) (pc' := 47) rfl ?_
 refine w_istoreN X39 hx (d11_47 hby) (L' := #[.val (.ref a0), .val (.int (((31 : Int32) * (((31 : Int32) * ((31 : Int32) + jj4)) + (hS jj9))) + (hS jj13))), .val (.ref a0), .val (.int (4 : Int32)), .val (.int (2 : Int32)), .val (.ref jj2)]) rfl (pc' := 48) rfl ?_
 refine w_iinc X39 hx (d11_48 hby) (v := (1 : Int32)) rfl rfl (L' := #[.val (.ref a0), .val (.int (((31 : Int32) * (((31 : Int32) * ((31 : Int32) + jj4)) + (hS jj9))) + (hS jj13))), .val (.ref a0), .val (.int (4 : Int32)), .val (.int ((2 : Int32) + (1 : Int32))), .val (.ref jj2)]) rfl (pc' := 51) rfl ?_
 rw [show ((2 : Int32) + (1 : Int32)) = (3 : Int32) from by decide]
 refine w_goto X39 hx (d11_51 hby) (pc' := 16) (by decide) (by decide) ?_
 refine w_iload X39 hx (d11_16 hby) rfl (pc' := 18) rfl ?_
 refine w_iloadN X39 hx (d11_18 hby) rfl (pc' := 19) rfl ?_
 refine w_icN X39 hx (d11_19 hby) (tlt (by decide : (3 : Int32) < (4 : Int32))).2.1 (pc' := 22) rfl ?_
 refine w_aloadN X39 hx (d11_22 hby) rfl rfl (pc' := 23) rfl ?_
 refine w_iload X39 hx (d11_23 hby) rfl (pc' := 25) rfl ?_
 have ne42 : jj2 ≠ a0 := Exa.neArv (zz28.keep K24) f28 (wd_28 hw)
 have f43 : Arv Z T39.heap a0 k_a0 (.object kc3) (4 : Int32) [(.ref jj0), (.ref jj1), (.ref jj2), (.ref jj3)] .null := (f28.keep K39 (ninS (Ne.symm ne42) nin0))
 obtain ⟨clu44, Aru44, qu44, Su44, Nu44, Hu44, Gu44⟩ := id f43
 have hinu44 := inb_of (j := (3 : Int32)) Su44 ⟨by decide, by decide⟩
 refine w_aaload X39 hx hZ rfl Aru44 rfl hinu44 (Hu44.at hinu44 rfl) (d11_25 hby) (pc' := 26) rfl ?_
 refine w_astore X39 hx (d11_26 hby) rfl (L' := #[.val (.ref a0), .val (.int (((31 : Int32) * (((31 : Int32) * ((31 : Int32) + jj4)) + (hS jj9))) + (hS jj13))), .val (.ref a0), .val (.int (4 : Int32)), .val (.int (3 : Int32)), .val (.ref jj3)]) rfl (pc' := 28) rfl ?_
 refine w_bipush X39 hx (d11_28 hby) (v := (31 : Int32)) rfl (pc' := 30) rfl ?_
 refine w_iloadN X39 hx (d11_30 hby) rfl (pc' := 31) rfl ?_
 refine w_imul X39 hx (d11_31 hby) (pc' := 32) rfl ?_
 refine w_aload X39 hx (d11_32 hby) rfl rfl (pc' := 34) rfl ?_
 refine w_ifnonnullY X39 hx (d11_34 hby) (pc' := 41) (by decide) (by decide) ?_
 refine w_aload X39 hx (d11_41 hby) rfl rfl (pc' := 43) rfl ?_
 have f46 : Exa Z T39.heap jj3 kc2 := ((zz38.keep K24).keep K39)
 have f47 : Exa Z T39.heap jj1 kc0 := (g24_0.keep K39)
 have ne45 : jj3 ≠ jj1 := ne_exa f46 f47 (by decide)
 have ne48 : jj3 ≠ jj2 := ne_exa f46 g39_0 (by decide)
 have f49 : Fld Z T39.heap jj3 kc2 "value" "I" (.int jj14) := ((zz39.keep K24 (ninS ne45 nin0)).keep K39 (ninS ne48 nin0))
 have le50 : h0.size ≤ T39.heap.size := (Nat.le_trans K24.1 K39.1)
 obtain ⟨cq51, kq51, q51a, q51b, q51c⟩ := isOf hZ rfl f46
 refine w_virtual X39 hx (y := (⟨kc3, "hashCode", "()I"⟩ : MethodName)) (z := yn_12) hown (mvT hZ (wd_73 hw)) (mvT hZ (wd_74 hw)) (own_nfS (args := #[]) (mvT hZ (wd_43 hw)) rfl) (mvT hZ (wd_76 hw)) (mvT hZ (wd_77 hw)) (by decide) (backOf (W := 1) (rm_m12_38 l Z aZ hw [] jj3 jj14 T39.heap n0 (Nat.le_trans Z0 le50) f49) hZ (wd_78 hw) (wd_57 hw) (by decide) (by decide)) q51a q51c (by rw [hml]; rfl) [] (lenOf pd_17 rfl) rfl (Nat.le_of_eq rfl) (d11_43 hby) (fun _ _ => ⟨rfl, rfl, (by decide : 0 + 0 ≤ _), (by decide : 0 + 0 ≤ _)⟩) (pc' := 46) rfl ?_
 rintro _ _ ⟨T51, L51, k51, n51⟩ X51 ⟨Lc51, hQ51, l51, y51, z51⟩
 dsimp only [Pt.U, Pt.locs, Pt.cells, Pt.slots] at X51 l51 y51 z51 hQ51 ⊢
 subst l51 y51 z51
 obtain ⟨rfl, N51q, e51⟩ := hQ51
 have N52 := Fr.app N40 N51q
 show Runs _ _ _ _ (T51.setTop (mkF m 46 #[.val (.ref a0), .val (.int (((31 : Int32) * (((31 : Int32) * ((31 : Int32) + jj4)) + (hS jj9))) + (hS jj13))), .val (.ref a0), .val (.int (4 : Int32)), .val (.int (3 : Int32)), .val (.ref jj3)] [(.int jj14), (.int ((31 : Int32) * (((31 : Int32) * (((31 : Int32) * ((31 : Int32) + jj4)) + (hS jj9))) + (hS jj13))))]))
 refine w_iadd X51 hx (d11_46 hby) (pc' := 47) rfl ?_
 refine w_istoreN X51 hx (d11_47 hby) (L' := #[.val (.ref a0), .val (.int (((31 : Int32) * (((31 : Int32) * (((31 : Int32) * ((31 : Int32) + jj4)) + (hS jj9))) + (hS jj13))) + jj14)), .val (.ref a0), .val (.int (4 : Int32)), .val (.int (3 : Int32)), .val (.ref jj3)]) rfl (pc' := 48) rfl ?_
 refine w_iinc X51 hx (d11_48 hby) (v := (1 : Int32)) rfl rfl (L' := #[.val (.ref a0), .val (.int (((31 : Int32) * (((31 : Int32) * (((31 : Int32) * ((31 : Int32) + jj4)) + (hS jj9))) + (hS jj13))) + jj14)), .val (.ref a0), .val (.int (4 : Int32)), .val (.int ((3 : Int32) + (1 : Int32))), .val (.ref jj3)]) rfl (pc' := 51) rfl ?_
 rw [show ((3 : Int32) + (1 : Int32)) = (4 : Int32) from by decide]
 refine w_goto X51 hx (d11_51 hby) (pc' := 16) (by decide) (by decide) ?_
 refine w_iload X51 hx (d11_16 hby) rfl (pc' := 18) rfl ?_
 refine w_iloadN X51 hx (d11_18 hby) rfl (pc' := 19) rfl ?_
 refine w_icY X51 hx (d11_19 hby) (flt (by decide : ¬ ((4 : Int32) < (4 : Int32)))).2.1 (pc' := 54) (by decide) (by decide) ?_
 refine w_iloadN X51 hx (d11_54 hby) rfl (pc' := 55) rfl ?_
 have f53 : Fld Z T39.heap jj1 kc0 "hash" "I" (.int (hS jj9)) := (g24_3.keep K39 (ninS (Ne.symm zz30) nin0))
 have f54 : Fld Z T39.heap jj1 kc0 "hashIsZero" "Z" (.int (if (hS jj9) = (0 : Int32) then (1 : Int32) else (0 : Int32))) := (g24_4.keep K39 (ninS (Ne.symm zz30) nin0))
 have f55 : Fld Z T39.heap jj1 kc0 "coder" "B" (.int (0 : Int32)) := (g24_1.keep K39 (ninS (Ne.symm zz30) nin0))
 have f56 : Fld Z T39.heap jj1 kc0 "value" "[B" (.ref jj6) := (g24_2.keep K39 (ninS (Ne.symm zz30) nin0))
 exact w_done X51 hlk (v := some (.int (((31 : Int32) * (((31 : Int32) * (((31 : Int32) * ((31 : Int32) + jj4)) + (hS jj9))) + (hS jj13))) + jj14))) e51 (fun h => by rw [hret] at h; cases h) (fun fs hr => retI X51 hx hret (d11_55 hby) hr) (by decide) (by decide) (⟨rfl, N52, K41, f47, f53, f54, f55, f56, g39_0, g39_3, g39_4, g39_1, g39_2⟩)
theorem ef_m10_71 (m : MethodId) (a0 : Addr)  : entryFrame m #[(.ref a0)] 1 = mkF m 0 #[.val (.ref a0)] [] := by first | (simp [entryFrame, mkF, argsToLocals, Value.category]; done) | rfl
def Q_m10_71 (Z : State) (a0 : Addr) (k_a0 : ClassId) (jj0 : Addr) (jj1 : Addr) (jj2 : Addr) (jj3 : Addr) (jj4 : Int32) (jj5 : Addr) (jj6 : ClassId) (jj7 : Int32) (jj8 : List Int32) (jj9 : Addr) (jj10 : ClassId) (jj11 : Int32) (jj12 : List Int32) (jj13 : Int32) (jj14 : Int32) (h0 : Heap) (n0 : Nat) (v : Option Value) (h : Heap) (L : List Loc) : Prop := v = some (.int (((31 : Int32) * (((31 : Int32) * (((31 : Int32) * ((31 : Int32) + jj4)) + (hS jj8))) + (hS jj12))) + jj13)) ∧ Fr n0 L ∧ Keep h0 h [jj1, jj2] ∧ Exa Z h jj1 kc0 ∧ Fld Z h jj1 kc0 "hash" "I" (.int (hS jj8)) ∧ Fld Z h jj1 kc0 "hashIsZero" "Z" (.int (if (hS jj8) = (0 : Int32) then (1 : Int32) else (0 : Int32))) ∧ Fld Z h jj1 kc0 "coder" "B" (.int (0 : Int32)) ∧ Fld Z h jj1 kc0 "value" "[B" (.ref jj5) ∧ Exa Z h jj2 kc0 ∧ Fld Z h jj2 kc0 "hash" "I" (.int (hS jj12)) ∧ Fld Z h jj2 kc0 "hashIsZero" "Z" (.int (if (hS jj12) = (0 : Int32) then (1 : Int32) else (0 : Int32))) ∧ Fld Z h jj2 kc0 "coder" "B" (.int (0 : Int32)) ∧ Fld Z h jj2 kc0 "value" "[B" (.ref jj9)
theorem rm_m10_71 (l : Launch) (Z : State) (aZ : Array Value) (hw : ∀ d ∈ tables_1, d.before aZ Z = true) (ws : List Jvm.Cond) (a0 : Addr) (k_a0 : ClassId) (jj0 : Addr) (jj1 : Addr) (jj2 : Addr) (jj3 : Addr) (jj4 : Int32) (jj5 : Addr) (jj6 : ClassId) (jj7 : Int32) (jj8 : List Int32) (jj9 : Addr) (jj10 : ClassId) (jj11 : Int32) (jj12 : List Int32) (jj13 : Int32) (jj14 : Int32) (h0 : Heap) (n0 : Nat) (Z0 : n0 ≤ h0.size) (V_a0 : Arv Z h0 a0 k_a0 (.object kc3) (4 : Int32) [(.ref jj0), (.ref jj1), (.ref jj2), (.ref jj3)] .null) (zz15 : Exa Z h0 jj0 kc2) (zz16 : Fld Z h0 jj0 kc2 "value" "I" (.int jj4)) (zz17 : Exa Z h0 jj1 kc0) (zz18 : Fld Z h0 jj1 kc0 "hash" "I" (.int (0 : Int32))) (zz19 : Fld Z h0 jj1 kc0 "hashIsZero" "Z" (.int (0 : Int32))) (zz20 : Fld Z h0 jj1 kc0 "coder" "B" (.int (0 : Int32))) (zz21 : Fld Z h0 jj1 kc0 "value" "[B" (.ref jj5)) (zz22 : Arv Z h0 jj5 jj6 .byte jj7 (mI jj8) (.int (0 : Int32))) (zz23 : EB Z h0 jj5 jj7) (zz24 : Exa Z h0 jj2 kc0) (zz25 : Fld Z h0 jj2 kc0 "hash" "I" (.int (0 : Int32))) (zz26 : Fld Z h0 jj2 kc0 "hashIsZero" "Z" (.int (0 : Int32))) (zz27 : Fld Z h0 jj2 kc0 "coder" "B" (.int (0 : Int32))) (zz28 : Fld Z h0 jj2 kc0 "value" "[B" (.ref jj9)) (zz29 : Arv Z h0 jj9 jj10 .byte jj11 (mI jj12) (.int (0 : Int32))) (zz30 : EB Z h0 jj9 jj11) (zz31 : Exa Z h0 jj3 kc2) (zz32 : Fld Z h0 jj3 kc2 "value" "I" (.int jj13)) (zz33 : Sta Z Z.heap kc0 "COMPACT_STRINGS" "Z" (.int jj14)) (O0 : Old Z n0 h0) (zz34 : ¬ (jj14 = (0 : Int32))) (zz35 : TS jj7 jj8) (zz36 : n0 ≤ jj1) (zz37 : jj2 ≠ jj1) (zz38 : TS jj11 jj12) (zz39 : n0 ≤ jj2) :
    MetN l Z yn_10 jdk_31_method_5_code 1 (some .int) ws ({ frames := 5, cells := 0, slots := 0, locals := 76 } : Room) #[(.ref a0)] h0 (Q_m10_71 Z a0 k_a0 jj0 jj1 jj2 jj3 jj4 jj5 jj6 jj7 jj8 jj9 jj10 jj11 jj12 jj13 jj14 h0 n0) := by
 refine MetN.of (plainFor_of_name pn_3) ?_
 intro p e s m below meth c s₁ hret hx hby hml hown hnm hlk hZ X0 e0
 have N0 := Fr.nil n0
 rw [ef_m10_71 m a0]
 refine w_aloadN X0 hx (d10_0 hby) rfl rfl (pc' := 1) rfl ?_
 refine w_static X0 hx (y := yn_11) hown (mvT hZ (wd_70 hw)) (mvT hZ (wd_71 hw)) (mvT hZ (wd_65 hw)) (mvT hZ (wd_72 hw)) (by decide) (backOf (W := 0) (rm_m11_72 l Z aZ hw [] a0 k_a0 jj0 jj1 jj2 jj3 jj4 jj14 jj5 jj6 jj7 jj8 jj9 jj10 jj11 jj12 jj13 h0 n0 Z0 V_a0 zz15 zz16 zz17 zz18 zz19 zz20 zz33 O0 zz21 zz22 zz23 zz34 zz35 zz36 zz24 zz25 zz37 zz26 zz27 zz28 zz29 zz30 zz38 zz39 zz31 zz32) hZ (wd_72 hw) (wd_65 hw) (by decide) (by decide)) (by rw [hml]; rfl) [(.ref a0)] (lenOf pd_18 rfl) rfl (Nat.le_of_eq rfl) (d10_1 hby) (fun _ _ => ⟨rfl, e0, (by decide : 0 + 0 ≤ _), (by decide : 0 + 0 ≤ _)⟩) (pc' := 4) rfl ?_
 rintro _ _ ⟨T20, L20, k20, n20⟩ X20 ⟨Lc20, hQ20, l20, y20, z20⟩
 dsimp only [Pt.U, Pt.locs, Pt.cells, Pt.slots] at X20 l20 y20 z20 hQ20 ⊢
 subst l20 y20 z20
 obtain ⟨rfl, N20q, K20, g20_0, g20_1, g20_2, g20_3, g20_4, g20_5, g20_6, g20_7, g20_8, g20_9⟩ := hQ20
 have N21 := Fr.app N0 N20q
 have K22 : Keep h0 T20.heap [jj1, jj2] := (Keep.refl h0 [jj1, jj2]).trans K20 (allS (Or.inl (by simp)) (allS (Or.inl (by simp)) (all0 (P := fun x => x ∈ [jj1, jj2] ∨ h0.size ≤ x))))
 show Runs _ _ _ _ (T20.setTop (mkF m 4 #[.val (.ref a0)] [(.int (((31 : Int32) * (((31 : Int32) * (((31 : Int32) * ((31 : Int32) + jj4)) + (hS jj8))) + (hS jj12))) + jj13))]))
 exact w_done X20 hlk (v := some (.int (((31 : Int32) * (((31 : Int32) * (((31 : Int32) * ((31 : Int32) + jj4)) + (hS jj8))) + (hS jj12))) + jj13))) rfl (fun h => by rw [hret] at h; cases h) (fun fs hr => retI X20 hx hret (d10_4 hby) hr) (by decide) (by decide) (⟨rfl, N21, K22, g20_0, g20_1, g20_2, g20_3, g20_4, g20_5, g20_6, g20_7, g20_8, g20_9⟩)
theorem ef_m7_70 (m : MethodId) (a0 : Addr)  : entryFrame m #[(.ref a0)] 1 = mkF m 0 #[.val (.ref a0)] [] := by first | (simp [entryFrame, mkF, argsToLocals, Value.category]; done) | rfl
def Q_m7_70 (Z : State) (a0 : Addr) (jj0 : Int32) (jj1 : Addr) (jj2 : Cell) (jj3 : Addr) (jj4 : Addr) (jj5 : Addr) (jj6 : ClassId) (jj7 : Int32) (jj8 : List Int32) (jj9 : Addr) (jj10 : ClassId) (jj11 : Int32) (jj12 : List Int32) (jj13 : Addr) (jj14 : ClassId) (jj15 : Int32) (jj16 : List Int32) (jj17 : Int32) (h0 : Heap) (n0 : Nat) (v : Option Value) (h : Heap) (L : List Loc) : Prop := v = some (.int (((31 : Int32) * (((31 : Int32) * (((31 : Int32) * ((31 : Int32) + jj0)) + (hS jj12))) + (hS jj16))) + (hB jj8))) ∧ Fr n0 L ∧ Keep h0 h [jj3, jj4] ∧ Exa Z h jj3 kc0 ∧ Fld Z h jj3 kc0 "hash" "I" (.int (hS jj12)) ∧ Fld Z h jj3 kc0 "hashIsZero" "Z" (.int (if (hS jj12) = (0 : Int32) then (1 : Int32) else (0 : Int32))) ∧ Fld Z h jj3 kc0 "coder" "B" (.int (0 : Int32)) ∧ Fld Z h jj3 kc0 "value" "[B" (.ref jj9) ∧ Exa Z h jj4 kc0 ∧ Fld Z h jj4 kc0 "hash" "I" (.int (hS jj16)) ∧ Fld Z h jj4 kc0 "hashIsZero" "Z" (.int (if (hS jj16) = (0 : Int32) then (1 : Int32) else (0 : Int32))) ∧ Fld Z h jj4 kc0 "coder" "B" (.int (0 : Int32)) ∧ Fld Z h jj4 kc0 "value" "[B" (.ref jj13)
theorem rm_m7_70 (l : Launch) (Z : State) (aZ : Array Value) (hw : ∀ d ∈ tables_1, d.before aZ Z = true) (ws : List Jvm.Cond) (a0 : Addr) (jj0 : Int32) (jj1 : Addr) (jj2 : Cell) (jj3 : Addr) (jj4 : Addr) (jj5 : Addr) (jj6 : ClassId) (jj7 : Int32) (jj8 : List Int32) (jj9 : Addr) (jj10 : ClassId) (jj11 : Int32) (jj12 : List Int32) (jj13 : Addr) (jj14 : ClassId) (jj15 : Int32) (jj16 : List Int32) (jj17 : Int32) (h0 : Heap) (n0 : Nat) (Z0 : n0 ≤ h0.size) (zz18 : Fld Z h0 a0 kc1 "status" "I" (.int jj0)) (zz19 : Sta Z Z.heap kc4 "high" "I" (.int (127 : Int32))) (O0 : Old Z n0 h0) (zz20 : Sta Z Z.heap kc4 "cache" "[Ljava/lang/Integer;" (.ref jj1)) (zz21 : Bxs Z jj1 jj2 kc2 "I" (256 : Int32) (fun j => .int (j - 128))) (zz22 : Fld Z h0 a0 kc1 "contentType" "Ljava/lang/String;" (.ref jj3)) (zz23 : Exa Z h0 jj3 kc0) (zz24 : Fld Z h0 a0 kc1 "location" "Ljava/lang/String;" (.ref jj4)) (zz25 : Exa Z h0 jj4 kc0) (zz26 : Fld Z h0 a0 kc1 "body" "[B" (.ref jj5)) (zz27 : Arv Z h0 jj5 jj6 .byte jj7 (mI jj8) (.int (0 : Int32))) (zz28 : Exa Z h0 jj5 "[B") (zz29 : TB jj7 jj8) (zz30 : Fld Z h0 jj3 kc0 "hash" "I" (.int (0 : Int32))) (zz31 : Fld Z h0 jj3 kc0 "hashIsZero" "Z" (.int (0 : Int32))) (zz32 : Fld Z h0 jj3 kc0 "coder" "B" (.int (0 : Int32))) (zz33 : Fld Z h0 jj3 kc0 "value" "[B" (.ref jj9)) (zz34 : Arv Z h0 jj9 jj10 .byte jj11 (mI jj12) (.int (0 : Int32))) (zz35 : EB Z h0 jj9 jj11) (zz36 : Fld Z h0 jj4 kc0 "hash" "I" (.int (0 : Int32))) (zz37 : Fld Z h0 jj4 kc0 "hashIsZero" "Z" (.int (0 : Int32))) (zz38 : Fld Z h0 jj4 kc0 "coder" "B" (.int (0 : Int32))) (zz39 : Fld Z h0 jj4 kc0 "value" "[B" (.ref jj13)) (zz40 : Arv Z h0 jj13 jj14 .byte jj15 (mI jj16) (.int (0 : Int32))) (zz41 : EB Z h0 jj13 jj15) (zz42 : Sta Z Z.heap kc0 "COMPACT_STRINGS" "Z" (.int jj17)) (zz43 : ¬ (jj17 = (0 : Int32))) (zz44 : TS jj11 jj12) (zz45 : n0 ≤ jj3) (zz46 : jj4 ≠ jj3) (zz47 : TS jj15 jj16) (zz48 : n0 ≤ jj4) :
    MetN l Z yn_7 prog_12_method_7_code 1 (some .int) ws ({ frames := 6, cells := 3, slots := 6, locals := 88 } : Room) #[(.ref a0)] h0 (Q_m7_70 Z a0 jj0 jj1 jj2 jj3 jj4 jj5 jj6 jj7 jj8 jj9 jj10 jj11 jj12 jj13 jj14 jj15 jj16 jj17 h0 n0) := by
 refine MetN.of (plainFor_of_name pn_4) ?_
 intro p e s m below meth c s₁ hret hx hby hml hown hnm hlk hZ X0 e0
 have N0 := Fr.nil n0
 rw [ef_m7_70 m a0]
 refine w_iconst X0 hx (d7_0 hby) (v := (4 : Int32)) rfl (pc' := 1) rfl ?_
 refine w_newR X0 hx 4 "[Ljava/lang/Object;" hZ hown (wd_53 hw) (wd_54 hw) e0 (d7_1 hby) (by decide) (by decide) (by decide) (by decide) (by decide) (by decide +kernel) (pc' := 4) rfl ?_
 intro T20 h20 k20 b20 X20 e20 E20 g20 A20 Q20 O20
 have ge21 : n0 ≤ b20 := Nat.le_trans Z0 (Nat.le_of_eq g20.symm)
 have sz22 : h0.size ≤ b20 := Nat.le_trans (Nat.le_refl _) (Nat.le_of_eq g20.symm)
 have K23 : Keep h0 h20 [jj3, jj4] := (Keep.refl h0 [jj3, jj4]).ext E20
 have V24 : Arv Z h20 b20 k20 (.object kc3) (4 : Int32) [.null, .null, .null, .null] .null := (Arv.new A20 (by decide)).pad (pad_rep [] .null 4)
 refine w_dup X20 hx (d7_4 hby) rfl (pc' := 5) rfl ?_
 refine w_iconst X20 hx (d7_5 hby) (v := (0 : Int32)) rfl (pc' := 6) rfl ?_
 refine w_aloadN X20 hx (d7_6 hby) rfl rfl (pc' := 7) rfl ?_
 have f25 : Fld Z h20 a0 kc1 "status" "I" (.int jj0) := (zz18.ext E20)
 refine w_getF X20 hx "" hZ hown (Or.inl (wd_20 hw)) Via.refl e20 f25 (d7_7 hby) (pc' := 10) rfl ?_
 intro T26 X26 e26
 have f27 : Old Z n0 h20 := (O0.ext E20)
 refine w_static X26 hx (y := yn_8) hown (mvT hZ (wd_55 hw)) (mvT hZ (wd_56 hw)) (mvT hZ (wd_57 hw)) (mvT hZ (wd_58 hw)) (by decide) (backOf (W := 3) (rm_m8_28 l Z aZ hw [] jj0 jj1 jj2 h20 n0 (Nat.le_trans Z0 E20.1) zz19 f27 zz20 zz21) hZ (wd_58 hw) (wd_57 hw) (by decide) (by decide)) (by rw [hml]; rfl) [(.int jj0)] (lenOf pd_12 rfl) rfl (Nat.le_of_eq rfl) (d7_10 hby) (fun _ _ => ⟨rfl, e26, (by decide : 1 + 1 ≤ _), (by decide : 4 + 1 ≤ _)⟩) (pc' := 13) rfl ?_
 rintro _ _ ⟨T28, L28, k28, n28⟩ X28 ⟨Lc28, hQ28, l28, y28, z28⟩
 dsimp only [Pt.U, Pt.locs, Pt.cells, Pt.slots] at X28 l28 y28 z28 hQ28 ⊢
 subst l28 y28 z28
 obtain ⟨r_28, rfl, N28q, K28, g28_0, g28_1⟩ := hQ28
 have N29 := Fr.app N0 N28q
 have K30 : Keep h0 T28.heap [jj3, jj4] := K23.trans K28 (all0 (P := fun x => x ∈ [jj3, jj4] ∨ h0.size ≤ x))
 show Runs _ _ _ _ (T28.setTop (mkF m 13 #[.val (.ref a0)] [(.ref r_28), (.int (0 : Int32)), (.ref b20), (.ref b20)]))
 have f31 : Arv Z T28.heap b20 k20 (.object kc3) (4 : Int32) [.null, .null, .null, .null] .null := (V24.keep K28 nin0)
 obtain ⟨clu32, Aru32, qu32, Su32, Nu32, Hu32, Gu32⟩ := id f31
 have hinu32 := inb_of (j := (0 : Int32)) Su32 ⟨by decide, by decide⟩
 refine w_stR X28 hx hZ rfl Aru32 hinu32 rfl (Sto.ofV Aru32 qu32 O20 (Ins.of_exa g28_0 (wd_62 hw))) (d7_13 hby) (pc' := 14) rfl ?_
 intro T33 h33 X33 e33 W33
 have V34 : Arv Z h33 b20 k20 (.object kc3) (4 : Int32) [(.ref r_28), .null, .null, .null] .null := Arv.set Aru32 qu32 Su32 Nu32 Hu32 Gu32 rfl W33 0 rfl (Nat.le_of_ble_eq_true rfl)
 have K35 : Keep h0 h33 [jj3, jj4] := K30.wr W33 (Or.inr sz22)
 have N36 := Fr.snoc X33 N29 ge21
 refine w_dup X33 hx (d7_14 hby) rfl (pc' := 15) rfl ?_
 refine w_iconst X33 hx (d7_15 hby) (v := (1 : Int32)) rfl (pc' := 16) rfl ?_
 refine w_aloadN X33 hx (d7_16 hby) rfl rfl (pc' := 17) rfl ?_
 have ne37 : a0 ≠ b20 := (Nat.ne_of_lt (Nat.lt_of_lt_of_le zz18.lt (Nat.le_trans (Nat.le_refl _) (Nat.le_of_eq g20.symm))))
 have f38 : Fld Z h33 a0 kc1 "contentType" "Ljava/lang/String;" (.ref jj3) := (((zz22.ext E20).keep K28 nin0).other W33 (Or.inl ne37))
 refine w_getF X33 hx "" hZ hown (Or.inl (wd_22 hw)) Via.refl e33 f38 (d7_17 hby) (pc' := 20) rfl ?_
 intro T39 X39 e39
 have f41 : Exa Z h33 jj3 kc0 := (((zz23.ext E20).keep K28).wr W33)
 obtain ⟨clu40, Aru40, qu40, Su40, Nu40, Hu40, Gu40⟩ := id V34
 have hinu40 := inb_of (j := (1 : Int32)) Su40 ⟨by decide, by decide⟩
 refine w_stR X39 hx hZ e39 Aru40 hinu40 rfl (Sto.ofV Aru40 qu40 O20 (Ins.of_exa f41 (wd_124 hw))) (d7_20 hby) (pc' := 21) rfl ?_
 intro T42 h42 X42 e42 W42
 have V43 : Arv Z h42 b20 k20 (.object kc3) (4 : Int32) [(.ref r_28), (.ref jj3), .null, .null] .null := Arv.set Aru40 qu40 Su40 Nu40 Hu40 Gu40 rfl W42 1 rfl (Nat.le_of_ble_eq_true rfl)
 have K44 : Keep h0 h42 [jj3, jj4] := K35.wr W42 (Or.inr sz22)
 have N45 := Fr.snoc X42 N36 ge21
 refine w_dup X42 hx (d7_21 hby) rfl (pc' := 22) rfl ?_
 refine w_iconst X42 hx (d7_22 hby) (v := (2 : Int32)) rfl (pc' := 23) rfl ?_
 refine w_aloadN X42 hx (d7_23 hby) rfl rfl (pc' := 24) rfl ?_
 have f46 : Fld Z h42 a0 kc1 "location" "Ljava/lang/String;" (.ref jj4) := ((((zz24.ext E20).keep K28 nin0).other W33 (Or.inl ne37)).other W42 (Or.inl ne37))
 refine w_getF X42 hx "" hZ hown (Or.inl (wd_24 hw)) Via.refl e42 f46 (d7_24 hby) (pc' := 27) rfl ?_
 intro T47 X47 e47
 have f49 : Exa Z h42 jj4 kc0 := ((((zz25.ext E20).keep K28).wr W33).wr W42)
 obtain ⟨clu48, Aru48, qu48, Su48, Nu48, Hu48, Gu48⟩ := id V43
 have hinu48 := inb_of (j := (2 : Int32)) Su48 ⟨by decide, by decide⟩
 refine w_stR X47 hx hZ e47 Aru48 hinu48 rfl (Sto.ofV Aru48 qu48 O20 (Ins.of_exa f49 (wd_124 hw))) (d7_27 hby) (pc' := 28) rfl ?_
 intro T50 h50 X50 e50 W50
 have V51 : Arv Z h50 b20 k20 (.object kc3) (4 : Int32) [(.ref r_28), (.ref jj3), (.ref jj4), .null] .null := Arv.set Aru48 qu48 Su48 Nu48 Hu48 Gu48 rfl W50 2 rfl (Nat.le_of_ble_eq_true rfl)
 have K52 : Keep h0 h50 [jj3, jj4] := K44.wr W50 (Or.inr sz22)
 have N53 := Fr.snoc X50 N45 ge21
 refine w_dup X50 hx (d7_28 hby) rfl (pc' := 29) rfl ?_
 refine w_iconst X50 hx (d7_29 hby) (v := (3 : Int32)) rfl (pc' := 30) rfl ?_
 refine w_aloadN X50 hx (d7_30 hby) rfl rfl (pc' := 31) rfl ?_
 have f54 : Fld Z h50 a0 kc1 "body" "[B" (.ref jj5) := (((((zz26.ext E20).keep K28 nin0).other W33 (Or.inl ne37)).other W42 (Or.inl ne37)).other W50 (Or.inl ne37))
 refine w_getF X50 hx "" hZ hown (Or.inl (wd_46 hw)) Via.refl e50 f54 (d7_31 hby) (pc' := 34) rfl ?_
 intro T55 X55 e55
 have ne56 : jj5 ≠ b20 := (Nat.ne_of_lt (Nat.lt_of_lt_of_le zz27.lt (Nat.le_trans (Nat.le_refl _) (Nat.le_of_eq g20.symm))))
 have f57 : Arv Z h50 jj5 jj6 .byte jj7 (mI jj8) (.int (0 : Int32)) := (((((zz27.ext E20).keep K28 nin0).other W33 ne56).other W42 ne56).other W50 ne56)
 have f58 : Exa Z h50 jj5 "[B" := (((((zz28.ext E20).keep K28).wr W33).wr W42).wr W50)
 have le59 : h0.size ≤ T28.heap.size := (Nat.le_trans E20.1 K28.1)
 have le60 : h0.size ≤ h33.size := (Nat.le_trans le59 (Keep.of_wr W33).1)
 have le61 : h0.size ≤ h42.size := (Nat.le_trans le60 (Keep.of_wr W42).1)
 have le62 : h0.size ≤ h50.size := (Nat.le_trans le61 (Keep.of_wr W50).1)
 refine w_static X55 hx (y := yn_9) hown (mvT hZ (wd_63 hw)) (mvT hZ (wd_64 hw)) (mvT hZ (wd_65 hw)) (mvT hZ (wd_66 hw)) (by decide) (backOf (W := 3) (rm_m9_31 l Z aZ hw [] jj5 jj6 jj7 jj8 h50 n0 (Nat.le_trans Z0 le62) f57 zz29 f58) hZ (wd_66 hw) (wd_65 hw) (by decide) (by decide)) (by rw [hml]; rfl) [(.ref jj5)] (lenOf pd_15 rfl) rfl (Nat.le_of_eq rfl) (d7_34 hby) (fun _ _ => ⟨rfl, e55, (by decide : 2 + 0 ≤ _), (by decide : 5 + 0 ≤ _)⟩) (pc' := 37) rfl ?_
 rintro _ _ ⟨T63, L63, k63, n63⟩ X63 ⟨Lc63, hQ63, l63, y63, z63⟩
 dsimp only [Pt.U, Pt.locs, Pt.cells, Pt.slots] at X63 l63 y63 z63 hQ63 ⊢
 subst l63 y63 z63
 obtain ⟨rfl, N63q, e63⟩ := hQ63
 have N64 := Fr.app N53 N63q
 show Runs _ _ _ _ (T63.setTop (mkF m 37 #[.val (.ref a0)] [(.int (hB jj8)), (.int (3 : Int32)), (.ref b20), (.ref b20)]))
 have f65 : Old Z n0 h50 := ((((f27.keep K28 all0).wr W33 ge21).wr W42 ge21).wr W50 ge21)
 refine w_static X63 hx (y := yn_8) hown (mvT hZ (wd_55 hw)) (mvT hZ (wd_56 hw)) (mvT hZ (wd_57 hw)) (mvT hZ (wd_58 hw)) (by decide) (backOf (W := 3) (rm_m8_28 l Z aZ hw [] (hB jj8) jj1 jj2 h50 n0 (Nat.le_trans Z0 le62) zz19 f65 zz20 zz21) hZ (wd_58 hw) (wd_57 hw) (by decide) (by decide)) (by rw [hml]; rfl) [(.int (hB jj8))] (lenOf pd_12 rfl) rfl (Nat.le_of_eq rfl) (d7_37 hby) (fun _ _ => ⟨rfl, e63, (by decide : 2 + 1 ≤ _), (by decide : 5 + 1 ≤ _)⟩) (pc' := 40) rfl ?_
 rintro _ _ ⟨T66, L66, k66, n66⟩ X66 ⟨Lc66, hQ66, l66, y66, z66⟩
 dsimp only [Pt.U, Pt.locs, Pt.cells, Pt.slots] at X66 l66 y66 z66 hQ66 ⊢
 subst l66 y66 z66
 obtain ⟨r_66, rfl, N66q, K66, g66_0, g66_1⟩ := hQ66
 have N67 := Fr.app N64 N66q
 have K68 : Keep h0 T66.heap [jj3, jj4] := K52.trans K66 (all0 (P := fun x => x ∈ [jj3, jj4] ∨ h0.size ≤ x))
 show Runs _ _ _ _ (T66.setTop (mkF m 40 #[.val (.ref a0)] [(.ref r_66), (.int (3 : Int32)), (.ref b20), (.ref b20)]))
 have f69 : Arv Z T66.heap b20 k20 (.object kc3) (4 : Int32) [(.ref r_28), (.ref jj3), (.ref jj4), .null] .null := (V51.keep K66 nin0)
 obtain ⟨clu70, Aru70, qu70, Su70, Nu70, Hu70, Gu70⟩ := id f69
 have hinu70 := inb_of (j := (3 : Int32)) Su70 ⟨by decide, by decide⟩
 refine w_stR X66 hx hZ rfl Aru70 hinu70 rfl (Sto.ofV Aru70 qu70 O20 (Ins.of_exa g66_0 (wd_62 hw))) (d7_40 hby) (pc' := 41) rfl ?_
 intro T71 h71 X71 e71 W71
 have V72 : Arv Z h71 b20 k20 (.object kc3) (4 : Int32) [(.ref r_28), (.ref jj3), (.ref jj4), (.ref r_66)] .null := Arv.set Aru70 qu70 Su70 Nu70 Hu70 Gu70 rfl W71 3 rfl (Nat.le_of_ble_eq_true rfl)
 have K73 : Keep h0 h71 [jj3, jj4] := K68.wr W71 (Or.inr sz22)
 have N74 := Fr.snoc X71 N67 ge21
 have f75 : Exa Z h71 r_28 kc2 := (((((g28_0.wr W33).wr W42).wr W50).keep K66).wr W71)
 have f77 : Exa Z h71 b20 "[Ljava/lang/Object;" := ((((((Q20.keep K28).wr W33).wr W42).wr W50).keep K66).wr W71)
 have ne76 : r_28 ≠ b20 := ne_exa f75 f77 (by decide)
 have f78 : Fld Z h71 r_28 kc2 "value" "I" (.int jj0) := (((((g28_1.other W33 (Or.inl ne76)).other W42 (Or.inl ne76)).other W50 (Or.inl ne76)).keep K66 nin0).other W71 (Or.inl ne76))
 have f79 : Exa Z h71 jj3 kc0 := ((((f41.wr W42).wr W50).keep K66).wr W71)
 have ne80 : jj3 ≠ b20 := (Nat.ne_of_lt (Nat.lt_of_lt_of_le zz23.lt (Nat.le_trans (Nat.le_refl _) (Nat.le_of_eq g20.symm))))
 have f81 : Fld Z h71 jj3 kc0 "hash" "I" (.int (0 : Int32)) := (((((((zz30.ext E20).keep K28 nin0).other W33 (Or.inl ne80)).other W42 (Or.inl ne80)).other W50 (Or.inl ne80)).keep K66 nin0).other W71 (Or.inl ne80))
 have f82 : Fld Z h71 jj3 kc0 "hashIsZero" "Z" (.int (0 : Int32)) := (((((((zz31.ext E20).keep K28 nin0).other W33 (Or.inl ne80)).other W42 (Or.inl ne80)).other W50 (Or.inl ne80)).keep K66 nin0).other W71 (Or.inl ne80))
 have f83 : Fld Z h71 jj3 kc0 "coder" "B" (.int (0 : Int32)) := (((((((zz32.ext E20).keep K28 nin0).other W33 (Or.inl ne80)).other W42 (Or.inl ne80)).other W50 (Or.inl ne80)).keep K66 nin0).other W71 (Or.inl ne80))
 have f84 : Fld Z h71 jj3 kc0 "value" "[B" (.ref jj9) := (((((((zz33.ext E20).keep K28 nin0).other W33 (Or.inl ne80)).other W42 (Or.inl ne80)).other W50 (Or.inl ne80)).keep K66 nin0).other W71 (Or.inl ne80))
 have ne85 : jj9 ≠ b20 := (Nat.ne_of_lt (Nat.lt_of_lt_of_le zz34.lt (Nat.le_trans (Nat.le_refl _) (Nat.le_of_eq g20.symm))))
 have f86 : Arv Z h71 jj9 jj10 .byte jj11 (mI jj12) (.int (0 : Int32)) := (((((((zz34.ext E20).keep K28 nin0).other W33 ne85).other W42 ne85).other W50 ne85).keep K66 nin0).other W71 ne85)
 have f87 : EB Z h71 jj9 jj11 := (((((((zz35.ext E20).keep K28).wr W33).wr W42).wr W50).keep K66).wr W71)
 have f88 : Exa Z h71 jj4 kc0 := (((f49.wr W50).keep K66).wr W71)
 have ne89 : jj4 ≠ b20 := (Nat.ne_of_lt (Nat.lt_of_lt_of_le zz25.lt (Nat.le_trans (Nat.le_refl _) (Nat.le_of_eq g20.symm))))
 have f90 : Fld Z h71 jj4 kc0 "hash" "I" (.int (0 : Int32)) := (((((((zz36.ext E20).keep K28 nin0).other W33 (Or.inl ne89)).other W42 (Or.inl ne89)).other W50 (Or.inl ne89)).keep K66 nin0).other W71 (Or.inl ne89))
 have f91 : Fld Z h71 jj4 kc0 "hashIsZero" "Z" (.int (0 : Int32)) := (((((((zz37.ext E20).keep K28 nin0).other W33 (Or.inl ne89)).other W42 (Or.inl ne89)).other W50 (Or.inl ne89)).keep K66 nin0).other W71 (Or.inl ne89))
 have f92 : Fld Z h71 jj4 kc0 "coder" "B" (.int (0 : Int32)) := (((((((zz38.ext E20).keep K28 nin0).other W33 (Or.inl ne89)).other W42 (Or.inl ne89)).other W50 (Or.inl ne89)).keep K66 nin0).other W71 (Or.inl ne89))
 have f93 : Fld Z h71 jj4 kc0 "value" "[B" (.ref jj13) := (((((((zz39.ext E20).keep K28 nin0).other W33 (Or.inl ne89)).other W42 (Or.inl ne89)).other W50 (Or.inl ne89)).keep K66 nin0).other W71 (Or.inl ne89))
 have ne94 : jj13 ≠ b20 := (Nat.ne_of_lt (Nat.lt_of_lt_of_le zz40.lt (Nat.le_trans (Nat.le_refl _) (Nat.le_of_eq g20.symm))))
 have f95 : Arv Z h71 jj13 jj14 .byte jj15 (mI jj16) (.int (0 : Int32)) := (((((((zz40.ext E20).keep K28 nin0).other W33 ne94).other W42 ne94).other W50 ne94).keep K66 nin0).other W71 ne94)
 have f96 : EB Z h71 jj13 jj15 := (((((((zz41.ext E20).keep K28).wr W33).wr W42).wr W50).keep K66).wr W71)
 have f97 : Exa Z h71 r_66 kc2 := (g66_0.wr W71)
 have ne98 : r_66 ≠ b20 := ne_exa f97 f77 (by decide)
 have f99 : Fld Z h71 r_66 kc2 "value" "I" (.int (hB jj8)) := (g66_1.other W71 (Or.inl ne98))
 have f100 : Old Z n0 h71 := ((f65.keep K66 all0).wr W71 ge21)
 have le101 : h0.size ≤ T66.heap.size := (Nat.le_trans le62 K66.1)
 have le102 : h0.size ≤ h71.size := (Nat.le_trans le101 (Keep.of_wr W71).1)
 refine w_static X71 hx (y := yn_10) hown (mvT hZ (wd_67 hw)) (mvT hZ (wd_68 hw)) (mvT hZ (wd_35 hw)) (mvT hZ (wd_69 hw)) (by decide) (backOf (W := 0) (rm_m10_71 l Z aZ hw [] b20 k20 r_28 jj3 jj4 r_66 jj0 jj9 jj10 jj11 jj12 jj13 jj14 jj15 jj16 (hB jj8) jj17 h71 n0 (Nat.le_trans Z0 le102) V72 f75 f78 f79 f81 f82 f83 f84 f86 f87 f88 f90 f91 f92 f93 f95 f96 f97 f99 zz42 f100 zz43 zz44 zz45 zz46 zz47 zz48) hZ (wd_69 hw) (wd_35 hw) (by decide) (by decide)) (by rw [hml]; rfl) [(.ref b20)] (lenOf pd_18 rfl) rfl (Nat.le_of_eq rfl) (d7_41 hby) (fun _ _ => ⟨rfl, e71, (by decide : 3 + 0 ≤ _), (by decide : 6 + 0 ≤ _)⟩) (pc' := 44) rfl ?_
 rintro _ _ ⟨T103, L103, k103, n103⟩ X103 ⟨Lc103, hQ103, l103, y103, z103⟩
 dsimp only [Pt.U, Pt.locs, Pt.cells, Pt.slots] at X103 l103 y103 z103 hQ103 ⊢
 subst l103 y103 z103
 obtain ⟨rfl, N103q, K103, g103_0, g103_1, g103_2, g103_3, g103_4, g103_5, g103_6, g103_7, g103_8, g103_9⟩ := hQ103
 have N104 := Fr.app N74 N103q
 have K105 : Keep h0 T103.heap [jj3, jj4] := K73.trans K103 (allS (Or.inl (by simp)) (allS (Or.inl (by simp)) (all0 (P := fun x => x ∈ [jj3, jj4] ∨ h0.size ≤ x))))
 show Runs _ _ _ _ (T103.setTop (mkF m 44 #[.val (.ref a0)] [(.int (((31 : Int32) * (((31 : Int32) * (((31 : Int32) * ((31 : Int32) + jj0)) + (hS jj12))) + (hS jj16))) + (hB jj8)))]))
 exact w_done X103 hlk (v := some (.int (((31 : Int32) * (((31 : Int32) * (((31 : Int32) * ((31 : Int32) + jj0)) + (hS jj12))) + (hS jj16))) + (hB jj8)))) rfl (fun h => by rw [hret] at h; cases h) (fun fs hr => retI X103 hx hret (d7_44 hby) hr) (by decide) (by decide) (⟨rfl, N104, K105, g103_0, g103_1, g103_2, g103_3, g103_4, g103_5, g103_6, g103_7, g103_8, g103_9⟩)
theorem ef_m11_75 (m : MethodId) (a0 : Addr)  : entryFrame m #[(.ref a0)] 6 = mkF m 0 #[.val (.ref a0), .unset, .unset, .unset, .unset, .unset] [] := by first | (simp [entryFrame, mkF, argsToLocals, Value.category]; done) | rfl
def Q_m11_75 (Z : State) (a0 : Addr) (k_a0 : ClassId) (jj0 : Addr) (jj1 : Addr) (jj2 : Addr) (jj3 : Addr) (jj4 : Int32) (jj5 : Int32) (jj6 : Int32) (jj7 : Int32) (jj8 : Addr) (jj9 : ClassId) (jj10 : Int32) (jj11 : List Int32) (jj12 : Int32) (jj13 : Int32) (jj14 : Addr) (jj15 : ClassId) (jj16 : Int32) (jj17 : List Int32) (jj18 : Int32) (h0 : Heap) (n0 : Nat) (v : Option Value) (h : Heap) (L : List Loc) : Prop := v = some (.int (((31 : Int32) * (((31 : Int32) * (((31 : Int32) * ((31 : Int32) + jj4)) + (hS jj11))) + (hS jj17))) + jj18)) ∧ Fr n0 L ∧ Keep h0 h [jj1, jj2] ∧ Exa Z h jj1 kc0 ∧ Fld Z h jj1 kc0 "hash" "I" (.int (hS jj11)) ∧ Fld Z h jj1 kc0 "hashIsZero" "Z" (.int (if (hS jj11) = (0 : Int32) then (1 : Int32) else (0 : Int32))) ∧ Fld Z h jj1 kc0 "coder" "B" (.int (0 : Int32)) ∧ Fld Z h jj1 kc0 "value" "[B" (.ref jj8) ∧ Exa Z h jj2 kc0 ∧ Fld Z h jj2 kc0 "hash" "I" (.int (hS jj17)) ∧ Fld Z h jj2 kc0 "hashIsZero" "Z" (.int (if (hS jj17) = (0 : Int32) then (1 : Int32) else (0 : Int32))) ∧ Fld Z h jj2 kc0 "coder" "B" (.int (0 : Int32)) ∧ Fld Z h jj2 kc0 "value" "[B" (.ref jj14)
theorem rm_m11_75 (l : Launch) (Z : State) (aZ : Array Value) (hw : ∀ d ∈ tables_1, d.before aZ Z = true) (ws : List Jvm.Cond) (a0 : Addr) (k_a0 : ClassId) (jj0 : Addr) (jj1 : Addr) (jj2 : Addr) (jj3 : Addr) (jj4 : Int32) (jj5 : Int32) (jj6 : Int32) (jj7 : Int32) (jj8 : Addr) (jj9 : ClassId) (jj10 : Int32) (jj11 : List Int32) (jj12 : Int32) (jj13 : Int32) (jj14 : Addr) (jj15 : ClassId) (jj16 : Int32) (jj17 : List Int32) (jj18 : Int32) (h0 : Heap) (n0 : Nat) (Z0 : n0 ≤ h0.size) (V_a0 : Arv Z h0 a0 k_a0 (.object kc3) (4 : Int32) [(.ref jj0), (.ref jj1), (.ref jj2), (.ref jj3)] .null) (zz19 : Exa Z h0 jj0 kc2) (zz20 : Fld Z h0 jj0 kc2 "value" "I" (.int jj4)) (zz21 : Exa Z h0 jj1 kc0) (zz22 : Fld Z h0 jj1 kc0 "hash" "I" (.int jj5)) (zz23 : Fld Z h0 jj1 kc0 "hashIsZero" "Z" (.int jj6)) (zz24 : Sta Z Z.heap kc0 "COMPACT_STRINGS" "Z" (.int jj7)) (O0 : Old Z n0 h0) (zz25 : Fld Z h0 jj1 kc0 "coder" "B" (.int (0 : Int32))) (zz26 : Fld Z h0 jj1 kc0 "value" "[B" (.ref jj8)) (zz27 : Arv Z h0 jj8 jj9 .byte jj10 (mI jj11) (.int (0 : Int32))) (zz28 : EB Z h0 jj8 jj10) (zz29 : ¬ (jj7 = (0 : Int32))) (zz30 : TS jj10 jj11) (zz31 : n0 ≤ jj1) (zz32 : HOK jj5 jj6 (hS jj11)) (zz33 : Exa Z h0 jj2 kc0) (zz34 : Fld Z h0 jj2 kc0 "hash" "I" (.int jj12)) (zz35 : jj2 ≠ jj1) (zz36 : Fld Z h0 jj2 kc0 "hashIsZero" "Z" (.int jj13)) (zz37 : Fld Z h0 jj2 kc0 "coder" "B" (.int (0 : Int32))) (zz38 : Fld Z h0 jj2 kc0 "value" "[B" (.ref jj14)) (zz39 : Arv Z h0 jj14 jj15 .byte jj16 (mI jj17) (.int (0 : Int32))) (zz40 : EB Z h0 jj14 jj16) (zz41 : TS jj16 jj17) (zz42 : n0 ≤ jj2) (zz43 : HOK jj12 jj13 (hS jj17)) (zz44 : Exa Z h0 jj3 kc2) (zz45 : Fld Z h0 jj3 kc2 "value" "I" (.int jj18)) :
    MetN l Z yn_11 jdk_65_method_157_code 6 (some .int) ws ({ frames := 4, cells := 0, slots := 0, locals := 59 } : Room) #[(.ref a0)] h0 (Q_m11_75 Z a0 k_a0 jj0 jj1 jj2 jj3 jj4 jj5 jj6 jj7 jj8 jj9 jj10 jj11 jj12 jj13 jj14 jj15 jj16 jj17 jj18 h0 n0) := by
 refine MetN.of (plainFor_of_name pn_8) ?_
 intro p e s m below meth c s₁ hret hx hby hml hown hnm hlk hZ X0 e0
 have N0 := Fr.nil n0
 rw [ef_m11_75 m a0]
 refine w_aloadN X0 hx (d11_0 hby) rfl rfl (pc' := 1) rfl ?_
 refine w_ifnonnullY X0 hx (d11_1 hby) (pc' := 6) (by decide) (by decide) ?_
 refine w_iconst X0 hx (d11_6 hby) (v := (1 : Int32)) rfl (pc' := 7) rfl ?_
 refine w_istoreN X0 hx (d11_7 hby) (L' := #[.val (.ref a0), .val (.int (1 : Int32)), .unset, .unset, .unset, .unset]) rfl (pc' := 8) rfl ?_
 refine w_aloadN X0 hx (d11_8 hby) rfl rfl (pc' := 9) rfl ?_
 refine w_astoreN X0 hx (d11_9 hby) rfl (L' := #[.val (.ref a0), .val (.int (1 : Int32)), .val (.ref a0), .unset, .unset, .unset]) rfl (pc' := 10) rfl ?_
 refine w_aloadN X0 hx (d11_10 hby) rfl rfl (pc' := 11) rfl ?_
 refine w_alen X0 hx hZ e0 V_a0 (d11_11 hby) (pc' := 12) rfl ?_
 refine w_istoreN X0 hx (d11_12 hby) (L' := #[.val (.ref a0), .val (.int (1 : Int32)), .val (.ref a0), .val (.int (4 : Int32)), .unset, .unset]) rfl (pc' := 13) rfl ?_
 refine w_iconst X0 hx (d11_13 hby) (v := (0 : Int32)) rfl (pc' := 14) rfl ?_
 refine w_istore X0 hx (d11_14 hby) (L' := #[.val (.ref a0), .val (.int (1 : Int32)), .val (.ref a0), .val (.int (4 : Int32)), .val (.int (0 : Int32)), .unset]) rfl (pc' := 16) rfl ?_
 refine w_iload X0 hx (d11_16 hby) rfl (pc' := 18) rfl ?_
 refine w_iloadN X0 hx (d11_18 hby) rfl (pc' := 19) rfl ?_
 refine w_icN X0 hx (d11_19 hby) (tlt (by decide : (0 : Int32) < (4 : Int32))).2.1 (pc' := 22) rfl ?_
 refine w_aloadN X0 hx (d11_22 hby) rfl rfl (pc' := 23) rfl ?_
 refine w_iload X0 hx (d11_23 hby) rfl (pc' := 25) rfl ?_
 obtain ⟨clu20, Aru20, qu20, Su20, Nu20, Hu20, Gu20⟩ := id V_a0
 have hinu20 := inb_of (j := (0 : Int32)) Su20 ⟨by decide, by decide⟩
 refine w_aaload X0 hx hZ e0 Aru20 rfl hinu20 (Hu20.at hinu20 rfl) (d11_25 hby) (pc' := 26) rfl ?_
 refine w_astore X0 hx (d11_26 hby) rfl (L' := #[.val (.ref a0), .val (.int (1 : Int32)), .val (.ref a0), .val (.int (4 : Int32)), .val (.int (0 : Int32)), .val (.ref jj0)]) rfl (pc' := 28) rfl ?_
 refine w_bipush X0 hx (d11_28 hby) (v := (31 : Int32)) rfl (pc' := 30) rfl ?_
 refine w_iloadN X0 hx (d11_30 hby) rfl (pc' := 31) rfl ?_
 refine w_imul X0 hx (d11_31 hby) (pc' := 32) rfl ?_
 rw [show ((31 : Int32) * (1 : Int32)) = (31 : Int32) from by decide]
 refine w_aload X0 hx (d11_32 hby) rfl rfl (pc' := 34) rfl ?_
 refine w_ifnonnullY X0 hx (d11_34 hby) (pc' := 41) (by decide) (by decide) ?_
 refine w_aload X0 hx (d11_41 hby) rfl rfl (pc' := 43) rfl ?_
 obtain ⟨cq21, kq21, q21a, q21b, q21c⟩ := isOf hZ e0 zz19
 refine w_virtual X0 hx (y := (⟨kc3, "hashCode", "()I"⟩ : MethodName)) (z := yn_12) hown (mvT hZ (wd_73 hw)) (mvT hZ (wd_74 hw)) (own_nfS (args := #[]) (mvT hZ (wd_43 hw)) rfl) (mvT hZ (wd_76 hw)) (mvT hZ (wd_77 hw)) (by decide) (backOf (W := 1) (rm_m12_38 l Z aZ hw [] jj0 jj4 h0 n0 Z0 zz20) hZ (wd_78 hw) (wd_57 hw) (by decide) (by decide)) q21a q21c (by rw [hml]; rfl) [] (lenOf pd_17 rfl) rfl (Nat.le_of_eq rfl) (d11_43 hby) (fun _ _ => ⟨rfl, e0, (by decide : 0 + 0 ≤ _), (by decide : 0 + 0 ≤ _)⟩) (pc' := 46) rfl ?_
 rintro _ _ ⟨T21, L21, k21, n21⟩ X21 ⟨Lc21, hQ21, l21, y21, z21⟩
 dsimp only [Pt.U, Pt.locs, Pt.cells, Pt.slots] at X21 l21 y21 z21 hQ21 ⊢
 subst l21 y21 z21
 obtain ⟨rfl, N21q, e21⟩ := hQ21
 have N22 := Fr.app N0 N21q
 show Runs _ _ _ _ (T21.setTop (mkF m 46 #[.val (.ref a0), .val (.int (1 : Int32)), .val (.ref a0), .val (.int (4 : Int32)), .val (.int (0 : Int32)), .val (.ref jj0)] [(.int jj4), (.int (31 : Int32))]))
 refine w_iadd X21 hx (d11_46 hby) (pc' := 47) rfl ?_
 refine w_istoreN X21 hx (d11_47 hby) (L' := #[.val (.ref a0), .val (.int ((31 : Int32) + jj4)), .val (.ref a0), .val (.int (4 : Int32)), .val (.int (0 : Int32)), .val (.ref jj0)]) rfl (pc' := 48) rfl ?_
 refine w_iinc X21 hx (d11_48 hby) (v := (1 : Int32)) rfl rfl (L' := #[.val (.ref a0), .val (.int ((31 : Int32) + jj4)), .val (.ref a0), .val (.int (4 : Int32)), .val (.int ((0 : Int32) + (1 : Int32))), .val (.ref jj0)]) rfl (pc' := 51) rfl ?_
 rw [show ((0 : Int32) + (1 : Int32)) = (1 : Int32) from by decide]
 refine w_goto X21 hx (d11_51 hby) (pc' := 16) (by decide) (by decide) ?_
 refine w_iload X21 hx (d11_16 hby) rfl (pc' := 18) rfl ?_
 refine w_iloadN X21 hx (d11_18 hby) rfl (pc' := 19) rfl ?_
 refine w_icN X21 hx (d11_19 hby) (tlt (by decide : (1 : Int32) < (4 : Int32))).2.1 (pc' := 22) rfl ?_
 refine w_aloadN X21 hx (d11_22 hby) rfl rfl (pc' := 23) rfl ?_
 refine w_iload X21 hx (d11_23 hby) rfl (pc' := 25) rfl ?_
 obtain ⟨clu23, Aru23, qu23, Su23, Nu23, Hu23, Gu23⟩ := id V_a0
 have hinu23 := inb_of (j := (1 : Int32)) Su23 ⟨by decide, by decide⟩
 refine w_aaload X21 hx hZ e21 Aru23 rfl hinu23 (Hu23.at hinu23 rfl) (d11_25 hby) (pc' := 26) rfl ?_
 refine w_astore X21 hx (d11_26 hby) rfl (L' := #[.val (.ref a0), .val (.int ((31 : Int32) + jj4)), .val (.ref a0), .val (.int (4 : Int32)), .val (.int (1 : Int32)), .val (.ref jj1)]) rfl (pc' := 28) rfl ?_
 refine w_bipush X21 hx (d11_28 hby) (v := (31 : Int32)) rfl (pc' := 30) rfl ?_
 refine w_iloadN X21 hx (d11_30 hby) rfl (pc' := 31) rfl ?_
 refine w_imul X21 hx (d11_31 hby) (pc' := 32) rfl ?_
 refine w_aload X21 hx (d11_32 hby) rfl rfl (pc' := 34) rfl ?_
 refine w_ifnonnullY X21 hx (d11_34 hby) (pc' := 41) (by decide) (by decide) ?_
 refine w_aload X21 hx (d11_41 hby) rfl rfl (pc' := 43) rfl ?_
 obtain ⟨cq24, kq24, q24a, q24b, q24c⟩ := isOf hZ e21 zz21
 refine w_virtual X21 hx (y := (⟨kc3, "hashCode", "()I"⟩ : MethodName)) (z := yn_23) hown (mvT hZ (wd_73 hw)) (mvT hZ (wd_74 hw)) (own_nfS (args := #[]) (mvT hZ (wd_43 hw)) rfl) (mvT hZ (wd_125 hw)) (mvT hZ (wd_126 hw)) (by decide) (backOf (W := 1) (rm_m23_58 l Z aZ hw [] jj1 jj5 jj6 jj7 jj8 jj9 jj10 jj11 h0 n0 Z0 zz22 zz23 zz21 zz24 O0 zz25 zz29 zz26 zz27 zz28 zz30 zz31 zz32) hZ (wd_127 hw) (wd_27 hw) (by decide) (by decide)) q24a q24c (by rw [hml]; rfl) [] (lenOf pd_17 rfl) rfl (Nat.le_of_eq rfl) (d11_43 hby) (fun _ _ => ⟨rfl, e21, (by decide : 0 + 0 ≤ _), (by decide : 0 + 0 ≤ _)⟩) (pc' := 46) rfl ?_
 rintro _ _ ⟨T24, L24, k24, n24⟩ X24 ⟨Lc24, hQ24, l24, y24, z24⟩
 dsimp only [Pt.U, Pt.locs, Pt.cells, Pt.slots] at X24 l24 y24 z24 hQ24 ⊢
 subst l24 y24 z24
 obtain ⟨rfl, N24q, K24, g24_0, g24_1, g24_2, g24_3, g24_4⟩ := hQ24
 have N25 := Fr.app N22 N24q
 have K26 : Keep h0 T24.heap [jj1, jj2] := (Keep.refl h0 [jj1, jj2]).trans K24 (allS (Or.inl (by simp)) (all0 (P := fun x => x ∈ [jj1, jj2] ∨ h0.size ≤ x)))
 show Runs _ _ _ _ (T24.setTop (mkF m 46 #[.val (.ref a0), .val (.int ((31 : Int32) + jj4)), .val (.ref a0), .val (.int (4 : Int32)), .val (.int (1 : Int32)), .val (.ref jj1)] [(.int (hS jj11)), (.int ((31 : Int32) * ((31 : Int32) + jj4)))]))
 refine w_iadd X24 hx (d11_46 hby) (pc' := 47) rfl ?_
 refine w_istoreN X24 hx (d11_47 hby) (L' := #[.val (.ref a0), .val (.int (((31 : Int32) * ((31 : Int32) + jj4)) + (hS jj11))), .val (.ref a0), .val (.int (4 : Int32)), .val (.int (1 : Int32)), .val (.ref jj1)]) rfl (pc' := 48) rfl ?_
 refine w_iinc X24 hx (d11_48 hby) (v := (1 : Int32)) rfl rfl (L' := #[.val (.ref a0), .val (.int (((31 : Int32) * ((31 : Int32) + jj4)) + (hS jj11))), .val (.ref a0), .val (.int (4 : Int32)), .val (.int ((1 : Int32) + (1 : Int32))), .val (.ref jj1)]) rfl (pc' := 51) rfl ?_
 rw [show ((1 : Int32) + (1 : Int32)) = (2 : Int32) from by decide]
 refine w_goto X24 hx (d11_51 hby) (pc' := 16) (by decide) (by decide) ?_
 refine w_iload X24 hx (d11_16 hby) rfl (pc' := 18) rfl ?_
 refine w_iloadN X24 hx (d11_18 hby) rfl (pc' := 19) rfl ?_
 refine w_icN X24 hx (d11_19 hby) (tlt (by decide : (2 : Int32) < (4 : Int32))).2.1 (pc' := 22) rfl ?_
 refine w_aloadN X24 hx (d11_22 hby) rfl rfl (pc' := 23) rfl ?_
 refine w_iload X24 hx (d11_23 hby) rfl (pc' := 25) rfl ?_
 have ne27 : jj1 ≠ a0 := Exa.neArv zz21 V_a0 (wd_28 hw)
 have f28 : Arv Z T24.heap a0 k_a0 (.object kc3) (4 : Int32) [(.ref jj0), (.ref jj1), (.ref jj2), (.ref jj3)] .null := (V_a0.keep K24 (ninS (Ne.symm ne27) nin0))
 obtain ⟨clu29, Aru29, qu29, Su29, Nu29, Hu29, Gu29⟩ := id f28
 have hinu29 := inb_of (j := (2 : Int32)) Su29 ⟨by decide, by decide⟩
 refine w_aaload X24 hx hZ rfl Aru29 rfl hinu29 (Hu29.at hinu29 rfl) (d11_25 hby) (pc' := 26) rfl ?_
 refine w_astore X24 hx (d11_26 hby) rfl (L' := #[.val (.ref a0), .val (.int (((31 : Int32) * ((31 : Int32) + jj4)) + (hS jj11))), .val (.ref a0), .val (.int (4 : Int32)), .val (.int (2 : Int32)), .val (.ref jj2)]) rfl (pc' := 28) rfl ?_
 refine w_bipush X24 hx (d11_28 hby) (v := (31 : Int32)) rfl (pc' := 30) rfl ?_
 refine w_iloadN X24 hx (d11_30 hby) rfl (pc' := 31) rfl ?_
 refine w_imul X24 hx (d11_31 hby) (pc' := 32) rfl ?_
 refine w_aload X24 hx (d11_32 hby) rfl rfl (pc' := 34) rfl ?_
 refine w_ifnonnullY X24 hx (d11_34 hby) (pc' := 41) (by decide) (by decide) ?_
 refine w_aload X24 hx (d11_41 hby) rfl rfl (pc' := 43) rfl ?_
 have f30 : Fld Z T24.heap jj2 kc0 "hash" "I" (.int jj12) := (zz34.keep K24 (ninS zz35 nin0))
 have f31 : Fld Z T24.heap jj2 kc0 "hashIsZero" "Z" (.int jj13) := (zz36.keep K24 (ninS zz35 nin0))
 have f32 : Exa Z T24.heap jj2 kc0 := (zz33.keep K24)
 have f33 : Old Z n0 T24.heap := (O0.keep K24 (allS zz31 all0))
 have f34 : Fld Z T24.heap jj2 kc0 "coder" "B" (.int (0 : Int32)) := (zz37.keep K24 (ninS zz35 nin0))
 have f35 : Fld Z T24.heap jj2 kc0 "value" "[B" (.ref jj14) := (zz38.keep K24 (ninS zz35 nin0))
 have ne36 : jj1 ≠ jj14 := Exa.neArv zz21 zz39 (wd_28 hw)
 have f37 : Arv Z T24.heap jj14 jj15 .byte jj16 (mI jj17) (.int (0 : Int32)) := (zz39.keep K24 (ninS (Ne.symm ne36) nin0))
 have f38 : EB Z T24.heap jj14 jj16 := (zz40.keep K24)
 obtain ⟨cq39, kq39, q39a, q39b, q39c⟩ := isOf hZ rfl f32
 refine w_virtual X24 hx (y := (⟨kc3, "hashCode", "()I"⟩ : MethodName)) (z := yn_23) hown (mvT hZ (wd_73 hw)) (mvT hZ (wd_74 hw)) (own_nfS (args := #[]) (mvT hZ (wd_43 hw)) rfl) (mvT hZ (wd_125 hw)) (mvT hZ (wd_126 hw)) (by decide) (backOf (W := 1) (rm_m23_58 l Z aZ hw [] jj2 jj12 jj13 jj7 jj14 jj15 jj16 jj17 T24.heap n0 (Nat.le_trans Z0 K24.1) f30 f31 f32 zz24 f33 f34 zz29 f35 f37 f38 zz41 zz42 zz43) hZ (wd_127 hw) (wd_27 hw) (by decide) (by decide)) q39a q39c (by rw [hml]; rfl) [] (lenOf pd_17 rfl) rfl (Nat.le_of_eq rfl) (d11_43 hby) (fun _ _ => ⟨rfl, rfl, (by decide : 0 + 0 ≤ _), (by decide : 0 + 0 ≤ _)⟩) (pc' := 46) rfl ?_
 rintro _ _ ⟨T39, L39, k39, n39⟩ X39 ⟨Lc39, hQ39, l39, y39, z39⟩
 dsimp only [Pt.U, Pt.locs, Pt.cells, Pt.slots] at X39 l39 y39 z39 hQ39 ⊢
 subst l39 y39 z39
 obtain ⟨rfl, N39q, K39, g39_0, g39_1, g39_2, g39_3, g39_4⟩ := hQ39
 have N40 := Fr.app N25 N39q
 have K41 : Keep h0 T39.heap [jj1, jj2] := K26.trans K39 (allS (Or.inl (by simp)) (all0 (P := fun x => x ∈ [jj1, jj2] ∨ h0.size ≤ x)))
 show Runs _ _ _ _ (T39.setTop (mkF m 46 #[.val (.ref a0), .val (.int (((31 : Int32) * ((31 : Int32) + jj4)) + (hS jj11))), .val (.ref a0), .val (.int (4 : Int32)), .val (.int (2 : Int32)), .val (.ref jj2)] [(.int (hS jj17)), (.int ((31 : Int32) * (((31 : Int32) * ((31 : Int32) + jj4)) + (hS jj11))))]))
 refine w_iadd X39 hx (d11_46 hby) (pc' := 47) rfl ?_
 refine w_istoreN X39 hx (d11_47 hby) (L' := #[.val (.ref a0), .val (.int (((31 : Int32) * (((31 : Int32) * ((31 : Int32) + jj4)) + (hS jj11))) + (hS jj17))), .val (.ref a0), .val (.int (4 : Int32)), .val (.int (2 : Int32)), .val (.ref jj2)]) rfl (pc' := 48) rfl ?_
 refine w_iinc X39 hx (d11_48 hby) (v := (1 : Int32)) rfl rfl (L' := #[.val (.ref a0), .val (.int (((31 : Int32) * (((31 : Int32) * ((31 : Int32) + jj4)) + (hS jj11))) + (hS jj17))), .val (.ref a0), .val (.int (4 : Int32)), .val (.int ((2 : Int32) + (1 : Int32))), .val (.ref jj2)]) rfl (pc' := 51) rfl ?_
 rw [show ((2 : Int32) + (1 : Int32)) = (3 : Int32) from by decide]
 refine w_goto X39 hx (d11_51 hby) (pc' := 16) (by decide) (by decide) ?_
 refine w_iload X39 hx (d11_16 hby) rfl (pc' := 18) rfl ?_
 refine w_iloadN X39 hx (d11_18 hby) rfl (pc' := 19) rfl ?_
 refine w_icN X39 hx (d11_19 hby) (tlt (by decide : (3 : Int32) < (4 : Int32))).2.1 (pc' := 22) rfl ?_
 refine w_aloadN X39 hx (d11_22 hby) rfl rfl (pc' := 23) rfl ?_
 refine w_iload X39 hx (d11_23 hby) rfl (pc' := 25) rfl ?_
 have ne42 : jj2 ≠ a0 := Exa.neArv (zz33.keep K24) f28 (wd_28 hw)
 have f43 : Arv Z T39.heap a0 k_a0 (.object kc3) (4 : Int32) [(.ref jj0), (.ref jj1), (.ref jj2), (.ref jj3)] .null := (f28.keep K39 (ninS (Ne.symm ne42) nin0))
 obtain ⟨clu44, Aru44, qu44, Su44, Nu44, Hu44, Gu44⟩ := id f43
 have hinu44 := inb_of (j := (3 : Int32)) Su44 ⟨by decide, by decide⟩
 refine w_aaload X39 hx hZ rfl Aru44 rfl hinu44 (Hu44.at hinu44 rfl) (d11_25 hby) (pc' := 26) rfl ?_
 refine w_astore X39 hx (d11_26 hby) rfl (L' := #[.val (.ref a0), .val (.int (((31 : Int32) * (((31 : Int32) * ((31 : Int32) + jj4)) + (hS jj11))) + (hS jj17))), .val (.ref a0), .val (.int (4 : Int32)), .val (.int (3 : Int32)), .val (.ref jj3)]) rfl (pc' := 28) rfl ?_
 refine w_bipush X39 hx (d11_28 hby) (v := (31 : Int32)) rfl (pc' := 30) rfl ?_
 refine w_iloadN X39 hx (d11_30 hby) rfl (pc' := 31) rfl ?_
 refine w_imul X39 hx (d11_31 hby) (pc' := 32) rfl ?_
 refine w_aload X39 hx (d11_32 hby) rfl rfl (pc' := 34) rfl ?_
 refine w_ifnonnullY X39 hx (d11_34 hby) (pc' := 41) (by decide) (by decide) ?_
 refine w_aload X39 hx (d11_41 hby) rfl rfl (pc' := 43) rfl ?_
 have f46 : Exa Z T39.heap jj3 kc2 := ((zz44.keep K24).keep K39)
 have f47 : Exa Z T39.heap jj1 kc0 := (g24_0.keep K39)
 have ne45 : jj3 ≠ jj1 := ne_exa f46 f47 (by decide)
 have ne48 : jj3 ≠ jj2 := ne_exa f46 g39_0 (by decide)
 have f49 : Fld Z T39.heap jj3 kc2 "value" "I" (.int jj18) := ((zz45.keep K24 (ninS ne45 nin0)).keep K39 (ninS ne48 nin0))
 have le50 : h0.size ≤ T39.heap.size := (Nat.le_trans K24.1 K39.1)
 obtain ⟨cq51, kq51, q51a, q51b, q51c⟩ := isOf hZ rfl f46
 refine w_virtual X39 hx (y := (⟨kc3, "hashCode", "()I"⟩ : MethodName)) (z := yn_12) hown (mvT hZ (wd_73 hw)) (mvT hZ (wd_74 hw)) (own_nfS (args := #[]) (mvT hZ (wd_43 hw)) rfl) (mvT hZ (wd_76 hw)) (mvT hZ (wd_77 hw)) (by decide) (backOf (W := 1) (rm_m12_38 l Z aZ hw [] jj3 jj18 T39.heap n0 (Nat.le_trans Z0 le50) f49) hZ (wd_78 hw) (wd_57 hw) (by decide) (by decide)) q51a q51c (by rw [hml]; rfl) [] (lenOf pd_17 rfl) rfl (Nat.le_of_eq rfl) (d11_43 hby) (fun _ _ => ⟨rfl, rfl, (by decide : 0 + 0 ≤ _), (by decide : 0 + 0 ≤ _)⟩) (pc' := 46) rfl ?_
 rintro _ _ ⟨T51, L51, k51, n51⟩ X51 ⟨Lc51, hQ51, l51, y51, z51⟩
 dsimp only [Pt.U, Pt.locs, Pt.cells, Pt.slots] at X51 l51 y51 z51 hQ51 ⊢
 subst l51 y51 z51
 obtain ⟨rfl, N51q, e51⟩ := hQ51
 have N52 := Fr.app N40 N51q
 show Runs _ _ _ _ (T51.setTop (mkF m 46 #[.val (.ref a0), .val (.int (((31 : Int32) * (((31 : Int32) * ((31 : Int32) + jj4)) + (hS jj11))) + (hS jj17))), .val (.ref a0), .val (.int (4 : Int32)), .val (.int (3 : Int32)), .val (.ref jj3)] [(.int jj18), (.int ((31 : Int32) * (((31 : Int32) * (((31 : Int32) * ((31 : Int32) + jj4)) + (hS jj11))) + (hS jj17))))]))
 refine w_iadd X51 hx (d11_46 hby) (pc' := 47) rfl ?_
 refine w_istoreN X51 hx (d11_47 hby) (L' := #[.val (.ref a0), .val (.int (((31 : Int32) * (((31 : Int32) * (((31 : Int32) * ((31 : Int32) + jj4)) + (hS jj11))) + (hS jj17))) + jj18)), .val (.ref a0), .val (.int (4 : Int32)), .val (.int (3 : Int32)), .val (.ref jj3)]) rfl (pc' := 48) rfl ?_
 refine w_iinc X51 hx (d11_48 hby) (v := (1 : Int32)) rfl rfl (L' := #[.val (.ref a0), .val (.int (((31 : Int32) * (((31 : Int32) * (((31 : Int32) * ((31 : Int32) + jj4)) + (hS jj11))) + (hS jj17))) + jj18)), .val (.ref a0), .val (.int (4 : Int32)), .val (.int ((3 : Int32) + (1 : Int32))), .val (.ref jj3)]) rfl (pc' := 51) rfl ?_
 rw [show ((3 : Int32) + (1 : Int32)) = (4 : Int32) from by decide]
 refine w_goto X51 hx (d11_51 hby) (pc' := 16) (by decide) (by decide) ?_
 refine w_iload X51 hx (d11_16 hby) rfl (pc' := 18) rfl ?_
 refine w_iloadN X51 hx (d11_18 hby) rfl (pc' := 19) rfl ?_
 refine w_icY X51 hx (d11_19 hby) (flt (by decide : ¬ ((4 : Int32) < (4 : Int32)))).2.1 (pc' := 54) (by decide) (by decide) ?_
 refine w_iloadN X51 hx (d11_54 hby) rfl (pc' := 55) rfl ?_
 have f53 : Fld Z T39.heap jj1 kc0 "hash" "I" (.int (hS jj11)) := (g24_3.keep K39 (ninS (Ne.symm zz35) nin0))
 have f54 : Fld Z T39.heap jj1 kc0 "hashIsZero" "Z" (.int (if (hS jj11) = (0 : Int32) then (1 : Int32) else (0 : Int32))) := (g24_4.keep K39 (ninS (Ne.symm zz35) nin0))
 have f55 : Fld Z T39.heap jj1 kc0 "coder" "B" (.int (0 : Int32)) := (g24_1.keep K39 (ninS (Ne.symm zz35) nin0))
 have f56 : Fld Z T39.heap jj1 kc0 "value" "[B" (.ref jj8) := (g24_2.keep K39 (ninS (Ne.symm zz35) nin0))
 exact w_done X51 hlk (v := some (.int (((31 : Int32) * (((31 : Int32) * (((31 : Int32) * ((31 : Int32) + jj4)) + (hS jj11))) + (hS jj17))) + jj18))) e51 (fun h => by rw [hret] at h; cases h) (fun fs hr => retI X51 hx hret (d11_55 hby) hr) (by decide) (by decide) (⟨rfl, N52, K41, f47, f53, f54, f55, f56, g39_0, g39_3, g39_4, g39_1, g39_2⟩)
theorem ef_m10_74 (m : MethodId) (a0 : Addr)  : entryFrame m #[(.ref a0)] 1 = mkF m 0 #[.val (.ref a0)] [] := by first | (simp [entryFrame, mkF, argsToLocals, Value.category]; done) | rfl
def Q_m10_74 (Z : State) (a0 : Addr) (k_a0 : ClassId) (jj0 : Addr) (jj1 : Addr) (jj2 : Addr) (jj3 : Addr) (jj4 : Int32) (jj5 : Int32) (jj6 : Int32) (jj7 : Addr) (jj8 : ClassId) (jj9 : Int32) (jj10 : List Int32) (jj11 : Int32) (jj12 : Int32) (jj13 : Addr) (jj14 : ClassId) (jj15 : Int32) (jj16 : List Int32) (jj17 : Int32) (jj18 : Int32) (h0 : Heap) (n0 : Nat) (v : Option Value) (h : Heap) (L : List Loc) : Prop := v = some (.int (((31 : Int32) * (((31 : Int32) * (((31 : Int32) * ((31 : Int32) + jj4)) + (hS jj10))) + (hS jj16))) + jj17)) ∧ Fr n0 L ∧ Keep h0 h [jj1, jj2] ∧ Exa Z h jj1 kc0 ∧ Fld Z h jj1 kc0 "hash" "I" (.int (hS jj10)) ∧ Fld Z h jj1 kc0 "hashIsZero" "Z" (.int (if (hS jj10) = (0 : Int32) then (1 : Int32) else (0 : Int32))) ∧ Fld Z h jj1 kc0 "coder" "B" (.int (0 : Int32)) ∧ Fld Z h jj1 kc0 "value" "[B" (.ref jj7) ∧ Exa Z h jj2 kc0 ∧ Fld Z h jj2 kc0 "hash" "I" (.int (hS jj16)) ∧ Fld Z h jj2 kc0 "hashIsZero" "Z" (.int (if (hS jj16) = (0 : Int32) then (1 : Int32) else (0 : Int32))) ∧ Fld Z h jj2 kc0 "coder" "B" (.int (0 : Int32)) ∧ Fld Z h jj2 kc0 "value" "[B" (.ref jj13)
theorem rm_m10_74 (l : Launch) (Z : State) (aZ : Array Value) (hw : ∀ d ∈ tables_1, d.before aZ Z = true) (ws : List Jvm.Cond) (a0 : Addr) (k_a0 : ClassId) (jj0 : Addr) (jj1 : Addr) (jj2 : Addr) (jj3 : Addr) (jj4 : Int32) (jj5 : Int32) (jj6 : Int32) (jj7 : Addr) (jj8 : ClassId) (jj9 : Int32) (jj10 : List Int32) (jj11 : Int32) (jj12 : Int32) (jj13 : Addr) (jj14 : ClassId) (jj15 : Int32) (jj16 : List Int32) (jj17 : Int32) (jj18 : Int32) (h0 : Heap) (n0 : Nat) (Z0 : n0 ≤ h0.size) (V_a0 : Arv Z h0 a0 k_a0 (.object kc3) (4 : Int32) [(.ref jj0), (.ref jj1), (.ref jj2), (.ref jj3)] .null) (zz19 : Exa Z h0 jj0 kc2) (zz20 : Fld Z h0 jj0 kc2 "value" "I" (.int jj4)) (zz21 : Exa Z h0 jj1 kc0) (zz22 : Fld Z h0 jj1 kc0 "hash" "I" (.int jj5)) (zz23 : Fld Z h0 jj1 kc0 "hashIsZero" "Z" (.int jj6)) (zz24 : Fld Z h0 jj1 kc0 "coder" "B" (.int (0 : Int32))) (zz25 : Fld Z h0 jj1 kc0 "value" "[B" (.ref jj7)) (zz26 : Arv Z h0 jj7 jj8 .byte jj9 (mI jj10) (.int (0 : Int32))) (zz27 : EB Z h0 jj7 jj9) (zz28 : Exa Z h0 jj2 kc0) (zz29 : Fld Z h0 jj2 kc0 "hash" "I" (.int jj11)) (zz30 : Fld Z h0 jj2 kc0 "hashIsZero" "Z" (.int jj12)) (zz31 : Fld Z h0 jj2 kc0 "coder" "B" (.int (0 : Int32))) (zz32 : Fld Z h0 jj2 kc0 "value" "[B" (.ref jj13)) (zz33 : Arv Z h0 jj13 jj14 .byte jj15 (mI jj16) (.int (0 : Int32))) (zz34 : EB Z h0 jj13 jj15) (zz35 : Exa Z h0 jj3 kc2) (zz36 : Fld Z h0 jj3 kc2 "value" "I" (.int jj17)) (zz37 : Sta Z Z.heap kc0 "COMPACT_STRINGS" "Z" (.int jj18)) (O0 : Old Z n0 h0) (zz38 : ¬ (jj18 = (0 : Int32))) (zz39 : TS jj9 jj10) (zz40 : n0 ≤ jj1) (zz41 : HOK jj5 jj6 (hS jj10)) (zz42 : jj2 ≠ jj1) (zz43 : TS jj15 jj16) (zz44 : n0 ≤ jj2) (zz45 : HOK jj11 jj12 (hS jj16)) :
    MetN l Z yn_10 jdk_31_method_5_code 1 (some .int) ws ({ frames := 5, cells := 0, slots := 0, locals := 76 } : Room) #[(.ref a0)] h0 (Q_m10_74 Z a0 k_a0 jj0 jj1 jj2 jj3 jj4 jj5 jj6 jj7 jj8 jj9 jj10 jj11 jj12 jj13 jj14 jj15 jj16 jj17 jj18 h0 n0) := by
 refine MetN.of (plainFor_of_name pn_3) ?_
 intro p e s m below meth c s₁ hret hx hby hml hown hnm hlk hZ X0 e0
 have N0 := Fr.nil n0
 rw [ef_m10_74 m a0]
 refine w_aloadN X0 hx (d10_0 hby) rfl rfl (pc' := 1) rfl ?_
 refine w_static X0 hx (y := yn_11) hown (mvT hZ (wd_70 hw)) (mvT hZ (wd_71 hw)) (mvT hZ (wd_65 hw)) (mvT hZ (wd_72 hw)) (by decide) (backOf (W := 0) (rm_m11_75 l Z aZ hw [] a0 k_a0 jj0 jj1 jj2 jj3 jj4 jj5 jj6 jj18 jj7 jj8 jj9 jj10 jj11 jj12 jj13 jj14 jj15 jj16 jj17 h0 n0 Z0 V_a0 zz19 zz20 zz21 zz22 zz23 zz37 O0 zz24 zz25 zz26 zz27 zz38 zz39 zz40 zz41 zz28 zz29 zz42 zz30 zz31 zz32 zz33 zz34 zz43 zz44 zz45 zz35 zz36) hZ (wd_72 hw) (wd_65 hw) (by decide) (by decide)) (by rw [hml]; rfl) [(.ref a0)] (lenOf pd_18 rfl) rfl (Nat.le_of_eq rfl) (d10_1 hby) (fun _ _ => ⟨rfl, e0, (by decide : 0 + 0 ≤ _), (by decide : 0 + 0 ≤ _)⟩) (pc' := 4) rfl ?_
 rintro _ _ ⟨T20, L20, k20, n20⟩ X20 ⟨Lc20, hQ20, l20, y20, z20⟩
 dsimp only [Pt.U, Pt.locs, Pt.cells, Pt.slots] at X20 l20 y20 z20 hQ20 ⊢
 subst l20 y20 z20
 obtain ⟨rfl, N20q, K20, g20_0, g20_1, g20_2, g20_3, g20_4, g20_5, g20_6, g20_7, g20_8, g20_9⟩ := hQ20
 have N21 := Fr.app N0 N20q
 have K22 : Keep h0 T20.heap [jj1, jj2] := (Keep.refl h0 [jj1, jj2]).trans K20 (allS (Or.inl (by simp)) (allS (Or.inl (by simp)) (all0 (P := fun x => x ∈ [jj1, jj2] ∨ h0.size ≤ x))))
 show Runs _ _ _ _ (T20.setTop (mkF m 4 #[.val (.ref a0)] [(.int (((31 : Int32) * (((31 : Int32) * (((31 : Int32) * ((31 : Int32) + jj4)) + (hS jj10))) + (hS jj16))) + jj17))]))
 exact w_done X20 hlk (v := some (.int (((31 : Int32) * (((31 : Int32) * (((31 : Int32) * ((31 : Int32) + jj4)) + (hS jj10))) + (hS jj16))) + jj17))) rfl (fun h => by rw [hret] at h; cases h) (fun fs hr => retI X20 hx hret (d10_4 hby) hr) (by decide) (by decide) (⟨rfl, N21, K22, g20_0, g20_1, g20_2, g20_3, g20_4, g20_5, g20_6, g20_7, g20_8, g20_9⟩)
theorem ef_m7_73 (m : MethodId) (a0 : Addr)  : entryFrame m #[(.ref a0)] 1 = mkF m 0 #[.val (.ref a0)] [] := by first | (simp [entryFrame, mkF, argsToLocals, Value.category]; done) | rfl
def Q_m7_73 (Z : State) (a0 : Addr) (jj0 : Int32) (jj1 : Addr) (jj2 : Cell) (jj3 : Addr) (jj4 : Addr) (jj5 : Addr) (jj6 : ClassId) (jj7 : Int32) (jj8 : List Int32) (jj9 : Int32) (jj10 : Int32) (jj11 : Addr) (jj12 : ClassId) (jj13 : Int32) (jj14 : List Int32) (jj15 : Int32) (jj16 : Int32) (jj17 : Addr) (jj18 : ClassId) (jj19 : Int32) (jj20 : List Int32) (jj21 : Int32) (h0 : Heap) (n0 : Nat) (v : Option Value) (h : Heap) (L : List Loc) : Prop := v = some (.int (((31 : Int32) * (((31 : Int32) * (((31 : Int32) * ((31 : Int32) + jj0)) + (hS jj14))) + (hS jj20))) + (hB jj8))) ∧ Fr n0 L ∧ Keep h0 h [jj3, jj4] ∧ Exa Z h jj3 kc0 ∧ Fld Z h jj3 kc0 "hash" "I" (.int (hS jj14)) ∧ Fld Z h jj3 kc0 "hashIsZero" "Z" (.int (if (hS jj14) = (0 : Int32) then (1 : Int32) else (0 : Int32))) ∧ Fld Z h jj3 kc0 "coder" "B" (.int (0 : Int32)) ∧ Fld Z h jj3 kc0 "value" "[B" (.ref jj11) ∧ Exa Z h jj4 kc0 ∧ Fld Z h jj4 kc0 "hash" "I" (.int (hS jj20)) ∧ Fld Z h jj4 kc0 "hashIsZero" "Z" (.int (if (hS jj20) = (0 : Int32) then (1 : Int32) else (0 : Int32))) ∧ Fld Z h jj4 kc0 "coder" "B" (.int (0 : Int32)) ∧ Fld Z h jj4 kc0 "value" "[B" (.ref jj17)
theorem rm_m7_73 (l : Launch) (Z : State) (aZ : Array Value) (hw : ∀ d ∈ tables_1, d.before aZ Z = true) (ws : List Jvm.Cond) (a0 : Addr) (jj0 : Int32) (jj1 : Addr) (jj2 : Cell) (jj3 : Addr) (jj4 : Addr) (jj5 : Addr) (jj6 : ClassId) (jj7 : Int32) (jj8 : List Int32) (jj9 : Int32) (jj10 : Int32) (jj11 : Addr) (jj12 : ClassId) (jj13 : Int32) (jj14 : List Int32) (jj15 : Int32) (jj16 : Int32) (jj17 : Addr) (jj18 : ClassId) (jj19 : Int32) (jj20 : List Int32) (jj21 : Int32) (h0 : Heap) (n0 : Nat) (Z0 : n0 ≤ h0.size) (zz22 : Fld Z h0 a0 kc1 "status" "I" (.int jj0)) (zz23 : Sta Z Z.heap kc4 "high" "I" (.int (127 : Int32))) (O0 : Old Z n0 h0) (zz24 : Sta Z Z.heap kc4 "cache" "[Ljava/lang/Integer;" (.ref jj1)) (zz25 : Bxs Z jj1 jj2 kc2 "I" (256 : Int32) (fun j => .int (j - 128))) (zz26 : Fld Z h0 a0 kc1 "contentType" "Ljava/lang/String;" (.ref jj3)) (zz27 : Exa Z h0 jj3 kc0) (zz28 : Fld Z h0 a0 kc1 "location" "Ljava/lang/String;" (.ref jj4)) (zz29 : Exa Z h0 jj4 kc0) (zz30 : Fld Z h0 a0 kc1 "body" "[B" (.ref jj5)) (zz31 : Arv Z h0 jj5 jj6 .byte jj7 (mI jj8) (.int (0 : Int32))) (zz32 : Exa Z h0 jj5 "[B") (zz33 : TB jj7 jj8) (zz34 : Fld Z h0 jj3 kc0 "hash" "I" (.int jj9)) (zz35 : Fld Z h0 jj3 kc0 "hashIsZero" "Z" (.int jj10)) (zz36 : Fld Z h0 jj3 kc0 "coder" "B" (.int (0 : Int32))) (zz37 : Fld Z h0 jj3 kc0 "value" "[B" (.ref jj11)) (zz38 : Arv Z h0 jj11 jj12 .byte jj13 (mI jj14) (.int (0 : Int32))) (zz39 : EB Z h0 jj11 jj13) (zz40 : Fld Z h0 jj4 kc0 "hash" "I" (.int jj15)) (zz41 : Fld Z h0 jj4 kc0 "hashIsZero" "Z" (.int jj16)) (zz42 : Fld Z h0 jj4 kc0 "coder" "B" (.int (0 : Int32))) (zz43 : Fld Z h0 jj4 kc0 "value" "[B" (.ref jj17)) (zz44 : Arv Z h0 jj17 jj18 .byte jj19 (mI jj20) (.int (0 : Int32))) (zz45 : EB Z h0 jj17 jj19) (zz46 : Sta Z Z.heap kc0 "COMPACT_STRINGS" "Z" (.int jj21)) (zz47 : ¬ (jj21 = (0 : Int32))) (zz48 : TS jj13 jj14) (zz49 : n0 ≤ jj3) (zz50 : HOK jj9 jj10 (hS jj14)) (zz51 : jj4 ≠ jj3) (zz52 : TS jj19 jj20) (zz53 : n0 ≤ jj4) (zz54 : HOK jj15 jj16 (hS jj20)) :
    MetN l Z yn_7 prog_12_method_7_code 1 (some .int) ws ({ frames := 6, cells := 3, slots := 6, locals := 88 } : Room) #[(.ref a0)] h0 (Q_m7_73 Z a0 jj0 jj1 jj2 jj3 jj4 jj5 jj6 jj7 jj8 jj9 jj10 jj11 jj12 jj13 jj14 jj15 jj16 jj17 jj18 jj19 jj20 jj21 h0 n0) := by
 refine MetN.of (plainFor_of_name pn_4) ?_
 intro p e s m below meth c s₁ hret hx hby hml hown hnm hlk hZ X0 e0
 have N0 := Fr.nil n0
 rw [ef_m7_73 m a0]
 refine w_iconst X0 hx (d7_0 hby) (v := (4 : Int32)) rfl (pc' := 1) rfl ?_
 refine w_newR X0 hx 4 "[Ljava/lang/Object;" hZ hown (wd_53 hw) (wd_54 hw) e0 (d7_1 hby) (by decide) (by decide) (by decide) (by decide) (by decide) (by decide +kernel) (pc' := 4) rfl ?_
 intro T20 h20 k20 b20 X20 e20 E20 g20 A20 Q20 O20
 have ge21 : n0 ≤ b20 := Nat.le_trans Z0 (Nat.le_of_eq g20.symm)
 have sz22 : h0.size ≤ b20 := Nat.le_trans (Nat.le_refl _) (Nat.le_of_eq g20.symm)
 have K23 : Keep h0 h20 [jj3, jj4] := (Keep.refl h0 [jj3, jj4]).ext E20
 have V24 : Arv Z h20 b20 k20 (.object kc3) (4 : Int32) [.null, .null, .null, .null] .null := (Arv.new A20 (by decide)).pad (pad_rep [] .null 4)
 refine w_dup X20 hx (d7_4 hby) rfl (pc' := 5) rfl ?_
 refine w_iconst X20 hx (d7_5 hby) (v := (0 : Int32)) rfl (pc' := 6) rfl ?_
 refine w_aloadN X20 hx (d7_6 hby) rfl rfl (pc' := 7) rfl ?_
 have f25 : Fld Z h20 a0 kc1 "status" "I" (.int jj0) := (zz22.ext E20)
 refine w_getF X20 hx "" hZ hown (Or.inl (wd_20 hw)) Via.refl e20 f25 (d7_7 hby) (pc' := 10) rfl ?_
 intro T26 X26 e26
 have f27 : Old Z n0 h20 := (O0.ext E20)
 refine w_static X26 hx (y := yn_8) hown (mvT hZ (wd_55 hw)) (mvT hZ (wd_56 hw)) (mvT hZ (wd_57 hw)) (mvT hZ (wd_58 hw)) (by decide) (backOf (W := 3) (rm_m8_28 l Z aZ hw [] jj0 jj1 jj2 h20 n0 (Nat.le_trans Z0 E20.1) zz23 f27 zz24 zz25) hZ (wd_58 hw) (wd_57 hw) (by decide) (by decide)) (by rw [hml]; rfl) [(.int jj0)] (lenOf pd_12 rfl) rfl (Nat.le_of_eq rfl) (d7_10 hby) (fun _ _ => ⟨rfl, e26, (by decide : 1 + 1 ≤ _), (by decide : 4 + 1 ≤ _)⟩) (pc' := 13) rfl ?_
 rintro _ _ ⟨T28, L28, k28, n28⟩ X28 ⟨Lc28, hQ28, l28, y28, z28⟩
 dsimp only [Pt.U, Pt.locs, Pt.cells, Pt.slots] at X28 l28 y28 z28 hQ28 ⊢
 subst l28 y28 z28
 obtain ⟨r_28, rfl, N28q, K28, g28_0, g28_1⟩ := hQ28
 have N29 := Fr.app N0 N28q
 have K30 : Keep h0 T28.heap [jj3, jj4] := K23.trans K28 (all0 (P := fun x => x ∈ [jj3, jj4] ∨ h0.size ≤ x))
 show Runs _ _ _ _ (T28.setTop (mkF m 13 #[.val (.ref a0)] [(.ref r_28), (.int (0 : Int32)), (.ref b20), (.ref b20)]))
 have f31 : Arv Z T28.heap b20 k20 (.object kc3) (4 : Int32) [.null, .null, .null, .null] .null := (V24.keep K28 nin0)
 obtain ⟨clu32, Aru32, qu32, Su32, Nu32, Hu32, Gu32⟩ := id f31
 have hinu32 := inb_of (j := (0 : Int32)) Su32 ⟨by decide, by decide⟩
 refine w_stR X28 hx hZ rfl Aru32 hinu32 rfl (Sto.ofV Aru32 qu32 O20 (Ins.of_exa g28_0 (wd_62 hw))) (d7_13 hby) (pc' := 14) rfl ?_
 intro T33 h33 X33 e33 W33
 have V34 : Arv Z h33 b20 k20 (.object kc3) (4 : Int32) [(.ref r_28), .null, .null, .null] .null := Arv.set Aru32 qu32 Su32 Nu32 Hu32 Gu32 rfl W33 0 rfl (Nat.le_of_ble_eq_true rfl)
 have K35 : Keep h0 h33 [jj3, jj4] := K30.wr W33 (Or.inr sz22)
 have N36 := Fr.snoc X33 N29 ge21
 refine w_dup X33 hx (d7_14 hby) rfl (pc' := 15) rfl ?_
 refine w_iconst X33 hx (d7_15 hby) (v := (1 : Int32)) rfl (pc' := 16) rfl ?_
 refine w_aloadN X33 hx (d7_16 hby) rfl rfl (pc' := 17) rfl ?_
 have ne37 : a0 ≠ b20 := (Nat.ne_of_lt (Nat.lt_of_lt_of_le zz22.lt (Nat.le_trans (Nat.le_refl _) (Nat.le_of_eq g20.symm))))
 have f38 : Fld Z h33 a0 kc1 "contentType" "Ljava/lang/String;" (.ref jj3) := (((zz26.ext E20).keep K28 nin0).other W33 (Or.inl ne37))
 refine w_getF X33 hx "" hZ hown (Or.inl (wd_22 hw)) Via.refl e33 f38 (d7_17 hby) (pc' := 20) rfl ?_
 intro T39 X39 e39
 have f41 : Exa Z h33 jj3 kc0 := (((zz27.ext E20).keep K28).wr W33)
 obtain ⟨clu40, Aru40, qu40, Su40, Nu40, Hu40, Gu40⟩ := id V34
 have hinu40 := inb_of (j := (1 : Int32)) Su40 ⟨by decide, by decide⟩
 refine w_stR X39 hx hZ e39 Aru40 hinu40 rfl (Sto.ofV Aru40 qu40 O20 (Ins.of_exa f41 (wd_124 hw))) (d7_20 hby) (pc' := 21) rfl ?_
 intro T42 h42 X42 e42 W42
 have V43 : Arv Z h42 b20 k20 (.object kc3) (4 : Int32) [(.ref r_28), (.ref jj3), .null, .null] .null := Arv.set Aru40 qu40 Su40 Nu40 Hu40 Gu40 rfl W42 1 rfl (Nat.le_of_ble_eq_true rfl)
 have K44 : Keep h0 h42 [jj3, jj4] := K35.wr W42 (Or.inr sz22)
 have N45 := Fr.snoc X42 N36 ge21
 refine w_dup X42 hx (d7_21 hby) rfl (pc' := 22) rfl ?_
 refine w_iconst X42 hx (d7_22 hby) (v := (2 : Int32)) rfl (pc' := 23) rfl ?_
 refine w_aloadN X42 hx (d7_23 hby) rfl rfl (pc' := 24) rfl ?_
 have f46 : Fld Z h42 a0 kc1 "location" "Ljava/lang/String;" (.ref jj4) := ((((zz28.ext E20).keep K28 nin0).other W33 (Or.inl ne37)).other W42 (Or.inl ne37))
 refine w_getF X42 hx "" hZ hown (Or.inl (wd_24 hw)) Via.refl e42 f46 (d7_24 hby) (pc' := 27) rfl ?_
 intro T47 X47 e47
 have f49 : Exa Z h42 jj4 kc0 := ((((zz29.ext E20).keep K28).wr W33).wr W42)
 obtain ⟨clu48, Aru48, qu48, Su48, Nu48, Hu48, Gu48⟩ := id V43
 have hinu48 := inb_of (j := (2 : Int32)) Su48 ⟨by decide, by decide⟩
 refine w_stR X47 hx hZ e47 Aru48 hinu48 rfl (Sto.ofV Aru48 qu48 O20 (Ins.of_exa f49 (wd_124 hw))) (d7_27 hby) (pc' := 28) rfl ?_
 intro T50 h50 X50 e50 W50
 have V51 : Arv Z h50 b20 k20 (.object kc3) (4 : Int32) [(.ref r_28), (.ref jj3), (.ref jj4), .null] .null := Arv.set Aru48 qu48 Su48 Nu48 Hu48 Gu48 rfl W50 2 rfl (Nat.le_of_ble_eq_true rfl)
 have K52 : Keep h0 h50 [jj3, jj4] := K44.wr W50 (Or.inr sz22)
 have N53 := Fr.snoc X50 N45 ge21
 refine w_dup X50 hx (d7_28 hby) rfl (pc' := 29) rfl ?_
 refine w_iconst X50 hx (d7_29 hby) (v := (3 : Int32)) rfl (pc' := 30) rfl ?_
 refine w_aloadN X50 hx (d7_30 hby) rfl rfl (pc' := 31) rfl ?_
 have f54 : Fld Z h50 a0 kc1 "body" "[B" (.ref jj5) := (((((zz30.ext E20).keep K28 nin0).other W33 (Or.inl ne37)).other W42 (Or.inl ne37)).other W50 (Or.inl ne37))
 refine w_getF X50 hx "" hZ hown (Or.inl (wd_46 hw)) Via.refl e50 f54 (d7_31 hby) (pc' := 34) rfl ?_
 intro T55 X55 e55
 have ne56 : jj5 ≠ b20 := (Nat.ne_of_lt (Nat.lt_of_lt_of_le zz31.lt (Nat.le_trans (Nat.le_refl _) (Nat.le_of_eq g20.symm))))
 have f57 : Arv Z h50 jj5 jj6 .byte jj7 (mI jj8) (.int (0 : Int32)) := (((((zz31.ext E20).keep K28 nin0).other W33 ne56).other W42 ne56).other W50 ne56)
 have f58 : Exa Z h50 jj5 "[B" := (((((zz32.ext E20).keep K28).wr W33).wr W42).wr W50)
 have le59 : h0.size ≤ T28.heap.size := (Nat.le_trans E20.1 K28.1)
 have le60 : h0.size ≤ h33.size := (Nat.le_trans le59 (Keep.of_wr W33).1)
 have le61 : h0.size ≤ h42.size := (Nat.le_trans le60 (Keep.of_wr W42).1)
 have le62 : h0.size ≤ h50.size := (Nat.le_trans le61 (Keep.of_wr W50).1)
 refine w_static X55 hx (y := yn_9) hown (mvT hZ (wd_63 hw)) (mvT hZ (wd_64 hw)) (mvT hZ (wd_65 hw)) (mvT hZ (wd_66 hw)) (by decide) (backOf (W := 3) (rm_m9_31 l Z aZ hw [] jj5 jj6 jj7 jj8 h50 n0 (Nat.le_trans Z0 le62) f57 zz33 f58) hZ (wd_66 hw) (wd_65 hw) (by decide) (by decide)) (by rw [hml]; rfl) [(.ref jj5)] (lenOf pd_15 rfl) rfl (Nat.le_of_eq rfl) (d7_34 hby) (fun _ _ => ⟨rfl, e55, (by decide : 2 + 0 ≤ _), (by decide : 5 + 0 ≤ _)⟩) (pc' := 37) rfl ?_
 rintro _ _ ⟨T63, L63, k63, n63⟩ X63 ⟨Lc63, hQ63, l63, y63, z63⟩
 dsimp only [Pt.U, Pt.locs, Pt.cells, Pt.slots] at X63 l63 y63 z63 hQ63 ⊢
 subst l63 y63 z63
 obtain ⟨rfl, N63q, e63⟩ := hQ63
 have N64 := Fr.app N53 N63q
 show Runs _ _ _ _ (T63.setTop (mkF m 37 #[.val (.ref a0)] [(.int (hB jj8)), (.int (3 : Int32)), (.ref b20), (.ref b20)]))
 have f65 : Old Z n0 h50 := ((((f27.keep K28 all0).wr W33 ge21).wr W42 ge21).wr W50 ge21)
 refine w_static X63 hx (y := yn_8) hown (mvT hZ (wd_55 hw)) (mvT hZ (wd_56 hw)) (mvT hZ (wd_57 hw)) (mvT hZ (wd_58 hw)) (by decide) (backOf (W := 3) (rm_m8_28 l Z aZ hw [] (hB jj8) jj1 jj2 h50 n0 (Nat.le_trans Z0 le62) zz23 f65 zz24 zz25) hZ (wd_58 hw) (wd_57 hw) (by decide) (by decide)) (by rw [hml]; rfl) [(.int (hB jj8))] (lenOf pd_12 rfl) rfl (Nat.le_of_eq rfl) (d7_37 hby) (fun _ _ => ⟨rfl, e63, (by decide : 2 + 1 ≤ _), (by decide : 5 + 1 ≤ _)⟩) (pc' := 40) rfl ?_
 rintro _ _ ⟨T66, L66, k66, n66⟩ X66 ⟨Lc66, hQ66, l66, y66, z66⟩
 dsimp only [Pt.U, Pt.locs, Pt.cells, Pt.slots] at X66 l66 y66 z66 hQ66 ⊢
 subst l66 y66 z66
 obtain ⟨r_66, rfl, N66q, K66, g66_0, g66_1⟩ := hQ66
 have N67 := Fr.app N64 N66q
 have K68 : Keep h0 T66.heap [jj3, jj4] := K52.trans K66 (all0 (P := fun x => x ∈ [jj3, jj4] ∨ h0.size ≤ x))
 show Runs _ _ _ _ (T66.setTop (mkF m 40 #[.val (.ref a0)] [(.ref r_66), (.int (3 : Int32)), (.ref b20), (.ref b20)]))
 have f69 : Arv Z T66.heap b20 k20 (.object kc3) (4 : Int32) [(.ref r_28), (.ref jj3), (.ref jj4), .null] .null := (V51.keep K66 nin0)
 obtain ⟨clu70, Aru70, qu70, Su70, Nu70, Hu70, Gu70⟩ := id f69
 have hinu70 := inb_of (j := (3 : Int32)) Su70 ⟨by decide, by decide⟩
 refine w_stR X66 hx hZ rfl Aru70 hinu70 rfl (Sto.ofV Aru70 qu70 O20 (Ins.of_exa g66_0 (wd_62 hw))) (d7_40 hby) (pc' := 41) rfl ?_
 intro T71 h71 X71 e71 W71
 have V72 : Arv Z h71 b20 k20 (.object kc3) (4 : Int32) [(.ref r_28), (.ref jj3), (.ref jj4), (.ref r_66)] .null := Arv.set Aru70 qu70 Su70 Nu70 Hu70 Gu70 rfl W71 3 rfl (Nat.le_of_ble_eq_true rfl)
 have K73 : Keep h0 h71 [jj3, jj4] := K68.wr W71 (Or.inr sz22)
 have N74 := Fr.snoc X71 N67 ge21
 have f80 : Exa Z h71 r_28 kc2 := (((((g28_0.wr W33).wr W42).wr W50).keep K66).wr W71)
 have f82 : Exa Z h71 b20 "[Ljava/lang/Object;" := ((((((Q20.keep K28).wr W33).wr W42).wr W50).keep K66).wr W71)
 have ne81 : r_28 ≠ b20 := ne_exa f80 f82 (by decide)
 have f83 : Fld Z h71 r_28 kc2 "value" "I" (.int jj0) := (((((g28_1.other W33 (Or.inl ne81)).other W42 (Or.inl ne81)).other W50 (Or.inl ne81)).keep K66 nin0).other W71 (Or.inl ne81))
 have f84 : Exa Z h71 jj3 kc0 := ((((f41.wr W42).wr W50).keep K66).wr W71)
 have ne85 : jj3 ≠ b20 := (Nat.ne_of_lt (Nat.lt_of_lt_of_le zz27.lt (Nat.le_trans (Nat.le_refl _) (Nat.le_of_eq g20.symm))))
 have f86 : Fld Z h71 jj3 kc0 "hash" "I" (.int jj9) := (((((((zz34.ext E20).keep K28 nin0).other W33 (Or.inl ne85)).other W42 (Or.inl ne85)).other W50 (Or.inl ne85)).keep K66 nin0).other W71 (Or.inl ne85))
 have f87 : Fld Z h71 jj3 kc0 "hashIsZero" "Z" (.int jj10) := (((((((zz35.ext E20).keep K28 nin0).other W33 (Or.inl ne85)).other W42 (Or.inl ne85)).other W50 (Or.inl ne85)).keep K66 nin0).other W71 (Or.inl ne85))
 have f88 : Fld Z h71 jj3 kc0 "coder" "B" (.int (0 : Int32)) := (((((((zz36.ext E20).keep K28 nin0).other W33 (Or.inl ne85)).other W42 (Or.inl ne85)).other W50 (Or.inl ne85)).keep K66 nin0).other W71 (Or.inl ne85))
 have f89 : Fld Z h71 jj3 kc0 "value" "[B" (.ref jj11) := (((((((zz37.ext E20).keep K28 nin0).other W33 (Or.inl ne85)).other W42 (Or.inl ne85)).other W50 (Or.inl ne85)).keep K66 nin0).other W71 (Or.inl ne85))
 have ne90 : jj11 ≠ b20 := (Nat.ne_of_lt (Nat.lt_of_lt_of_le zz38.lt (Nat.le_trans (Nat.le_refl _) (Nat.le_of_eq g20.symm))))
 have f91 : Arv Z h71 jj11 jj12 .byte jj13 (mI jj14) (.int (0 : Int32)) := (((((((zz38.ext E20).keep K28 nin0).other W33 ne90).other W42 ne90).other W50 ne90).keep K66 nin0).other W71 ne90)
 have f92 : EB Z h71 jj11 jj13 := (((((((zz39.ext E20).keep K28).wr W33).wr W42).wr W50).keep K66).wr W71)
 have f93 : Exa Z h71 jj4 kc0 := (((f49.wr W50).keep K66).wr W71)
 have ne94 : jj4 ≠ b20 := (Nat.ne_of_lt (Nat.lt_of_lt_of_le zz29.lt (Nat.le_trans (Nat.le_refl _) (Nat.le_of_eq g20.symm))))
 have f95 : Fld Z h71 jj4 kc0 "hash" "I" (.int jj15) := (((((((zz40.ext E20).keep K28 nin0).other W33 (Or.inl ne94)).other W42 (Or.inl ne94)).other W50 (Or.inl ne94)).keep K66 nin0).other W71 (Or.inl ne94))
 have f96 : Fld Z h71 jj4 kc0 "hashIsZero" "Z" (.int jj16) := (((((((zz41.ext E20).keep K28 nin0).other W33 (Or.inl ne94)).other W42 (Or.inl ne94)).other W50 (Or.inl ne94)).keep K66 nin0).other W71 (Or.inl ne94))
 have f97 : Fld Z h71 jj4 kc0 "coder" "B" (.int (0 : Int32)) := (((((((zz42.ext E20).keep K28 nin0).other W33 (Or.inl ne94)).other W42 (Or.inl ne94)).other W50 (Or.inl ne94)).keep K66 nin0).other W71 (Or.inl ne94))
 have f98 : Fld Z h71 jj4 kc0 "value" "[B" (.ref jj17) := (((((((zz43.ext E20).keep K28 nin0).other W33 (Or.inl ne94)).other W42 (Or.inl ne94)).other W50 (Or.inl ne94)).keep K66 nin0).other W71 (Or.inl ne94))
 have ne99 : jj17 ≠ b20 := (Nat.ne_of_lt (Nat.lt_of_lt_of_le zz44.lt (Nat.le_trans (Nat.le_refl _) (Nat.le_of_eq g20.symm))))
 have f100 : Arv Z h71 jj17 jj18 .byte jj19 (mI jj20) (.int (0 : Int32)) := (((((((zz44.ext E20).keep K28 nin0).other W33 ne99).other W42 ne99).other W50 ne99).keep K66 nin0).other W71 ne99)
 have f101 : EB Z h71 jj17 jj19 := (((((((zz45.ext E20).keep K28).wr W33).wr W42).wr W50).keep K66).wr W71)
 have f102 : Exa Z h71 r_66 kc2 := (g66_0.wr W71)
 have ne103 : r_66 ≠ b20 := ne_exa f102 f82 (by decide)
 have f104 : Fld Z h71 r_66 kc2 "value" "I" (.int (hB jj8)) := (g66_1.other W71 (Or.inl ne103))
 have f105 : Old Z n0 h71 := ((f65.keep K66 all0).wr W71 ge21)
 have le106 : h0.size ≤ T66.heap.size := (Nat.le_trans le62 K66.1)
 have le107 : h0.size ≤ h71.size := (Nat.le_trans le106 (Keep.of_wr W71).1)
 refine w_static X71 hx (y := yn_10) hown (mvT hZ (wd_67 hw)) (mvT hZ (wd_68 hw)) (mvT hZ (wd_35 hw)) (mvT hZ (wd_69 hw)) (by decide) (backOf (W := 0) (rm_m10_74 l Z aZ hw [] b20 k20 r_28 jj3 jj4 r_66 jj0 jj9 jj10 jj11 jj12 jj13 jj14 jj15 jj16 jj17 jj18 jj19 jj20 (hB jj8) jj21 h71 n0 (Nat.le_trans Z0 le107) V72 f80 f83 f84 f86 f87 f88 f89 f91 f92 f93 f95 f96 f97 f98 f100 f101 f102 f104 zz46 f105 zz47 zz48 zz49 zz50 zz51 zz52 zz53 zz54) hZ (wd_69 hw) (wd_35 hw) (by decide) (by decide)) (by rw [hml]; rfl) [(.ref b20)] (lenOf pd_18 rfl) rfl (Nat.le_of_eq rfl) (d7_41 hby) (fun _ _ => ⟨rfl, e71, (by decide : 3 + 0 ≤ _), (by decide : 6 + 0 ≤ _)⟩) (pc' := 44) rfl ?_
 rintro _ _ ⟨T108, L108, k108, n108⟩ X108 ⟨Lc108, hQ108, l108, y108, z108⟩
 dsimp only [Pt.U, Pt.locs, Pt.cells, Pt.slots] at X108 l108 y108 z108 hQ108 ⊢
 subst l108 y108 z108
 obtain ⟨rfl, N108q, K108, g108_0, g108_1, g108_2, g108_3, g108_4, g108_5, g108_6, g108_7, g108_8, g108_9⟩ := hQ108
 have N109 := Fr.app N74 N108q
 have K110 : Keep h0 T108.heap [jj3, jj4] := K73.trans K108 (allS (Or.inl (by simp)) (allS (Or.inl (by simp)) (all0 (P := fun x => x ∈ [jj3, jj4] ∨ h0.size ≤ x))))
 show Runs _ _ _ _ (T108.setTop (mkF m 44 #[.val (.ref a0)] [(.int (((31 : Int32) * (((31 : Int32) * (((31 : Int32) * ((31 : Int32) + jj0)) + (hS jj14))) + (hS jj20))) + (hB jj8)))]))
 exact w_done X108 hlk (v := some (.int (((31 : Int32) * (((31 : Int32) * (((31 : Int32) * ((31 : Int32) + jj0)) + (hS jj14))) + (hS jj20))) + (hB jj8)))) rfl (fun h => by rw [hret] at h; cases h) (fun fs hr => retI X108 hx hret (d7_44 hby) hr) (by decide) (by decide) (⟨rfl, N109, K110, g108_0, g108_1, g108_2, g108_3, g108_4, g108_5, g108_6, g108_7, g108_8, g108_9⟩)
theorem ef_m14_76 (m : MethodId) (a0 : Addr) (a1 : Addr)  : entryFrame m #[(.ref a0), (.ref a1)] 3 = mkF m 0 #[.val (.ref a0), .val (.ref a1), .unset] [] := by first | (simp [entryFrame, mkF, argsToLocals, Value.category]; done) | rfl
def Q_m14_76 (Z : State) (a0 : Addr) (a1 : Addr) (jj0 : Int32) (jj1 : Addr) (jj2 : Addr) (jj3 : Addr) (jj4 : Addr) (jj5 : ClassId) (jj6 : Int32) (jj7 : List Int32) (jj8 : ClassId) (jj9 : Int32) (jj10 : Addr) (jj11 : Addr) (jj12 : Addr) (jj13 : Addr) (jj14 : ClassId) (jj15 : Int32) (jj16 : List Int32) (jj17 : ClassId) (jj18 : Addr) (jj19 : Addr) (jj20 : ClassId) (jj21 : Int32) (jj22 : List Int32) (jj23 : ClassId) (h0 : Heap) (n0 : Nat) (v : Option Value) (h : Heap) (L : List Loc) : Prop := v = some (.int (1 : Int32)) ∧ Fr n0 L ∧ h = h0
theorem rm_m14_76 (l : Launch) (Z : State) (aZ : Array Value) (hw : ∀ d ∈ tables_1, d.before aZ Z = true) (ws : List Jvm.Cond) (a0 : Addr) (a1 : Addr) (jj0 : Int32) (jj1 : Addr) (jj2 : Addr) (jj3 : Addr) (jj4 : Addr) (jj5 : ClassId) (jj6 : Int32) (jj7 : List Int32) (jj8 : ClassId) (jj9 : Int32) (jj10 : Addr) (jj11 : Addr) (jj12 : Addr) (jj13 : Addr) (jj14 : ClassId) (jj15 : Int32) (jj16 : List Int32) (jj17 : ClassId) (jj18 : Addr) (jj19 : Addr) (jj20 : ClassId) (jj21 : Int32) (jj22 : List Int32) (jj23 : ClassId) (h0 : Heap) (n0 : Nat) (Z0 : n0 ≤ h0.size) (E_a1 : Exa Z h0 a1 kc1) (zz24 : Fld Z h0 a0 kc1 "status" "I" (.int jj0)) (zz25 : Fld Z h0 a1 kc1 "status" "I" (.int jj0)) (zz26 : Fld Z h0 a0 kc1 "contentType" "Ljava/lang/String;" (.ref jj1)) (zz27 : Fld Z h0 a1 kc1 "contentType" "Ljava/lang/String;" (.ref jj2)) (zz28 : Exa Z h0 jj1 kc0) (zz29 : Exa Z h0 jj2 kc0) (zz30 : Fld Z h0 jj1 kc0 "coder" "B" (.int (0 : Int32))) (zz31 : Fld Z h0 jj2 kc0 "coder" "B" (.int (0 : Int32))) (zz32 : Fld Z h0 jj1 kc0 "value" "[B" (.ref jj3)) (zz33 : Fld Z h0 jj2 kc0 "value" "[B" (.ref jj4)) (zz34 : Arv Z h0 jj3 jj5 .byte jj6 (mI jj7) (.int (0 : Int32))) (zz35 : Arv Z h0 jj4 jj8 .byte jj6 (mI jj7) (.int (0 : Int32))) (zz36 : Sta Z Z.heap kc0 "COMPACT_STRINGS" "Z" (.int jj9)) (O0 : Old Z n0 h0) (zz37 : jj1 ≠ jj2) (zz38 : ¬ (jj9 = (0 : Int32))) (zz39 : TS jj6 jj7) (zz40 : Fld Z h0 a0 kc1 "location" "Ljava/lang/String;" (.ref jj10)) (zz41 : Fld Z h0 a1 kc1 "location" "Ljava/lang/String;" (.ref jj11)) (zz42 : Exa Z h0 jj10 kc0) (zz43 : Exa Z h0 jj11 kc0) (zz44 : Fld Z h0 jj10 kc0 "coder" "B" (.int (0 : Int32))) (zz45 : Fld Z h0 jj11 kc0 "coder" "B" (.int (0 : Int32))) (zz46 : Fld Z h0 jj10 kc0 "value" "[B" (.ref jj12)) (zz47 : Fld Z h0 jj11 kc0 "value" "[B" (.ref jj13)) (zz48 : Arv Z h0 jj12 jj14 .byte jj15 (mI jj16) (.int (0 : Int32))) (zz49 : Arv Z h0 jj13 jj17 .byte jj15 (mI jj16) (.int (0 : Int32))) (zz50 : jj10 ≠ jj11) (zz51 : TS jj15 jj16) (zz52 : Fld Z h0 a0 kc1 "body" "[B" (.ref jj18)) (zz53 : Fld Z h0 a1 kc1 "body" "[B" (.ref jj19)) (zz54 : Arv Z h0 jj18 jj20 .byte jj21 (mI jj22) (.int (0 : Int32))) (zz55 : Arv Z h0 jj19 jj23 .byte jj21 (mI jj22) (.int (0 : Int32))) (zz56 : TB jj21 jj22) (zz57 : jj18 ≠ jj19) :
    MetN l Z yn_14 prog_12_method_6_code 3 (some .boolean) ws ({ frames := 3, cells := 0, slots := 0, locals := 41 } : Room) #[(.ref a0), (.ref a1)] h0 (Q_m14_76 Z a0 a1 jj0 jj1 jj2 jj3 jj4 jj5 jj6 jj7 jj8 jj9 jj10 jj11 jj12 jj13 jj14 jj15 jj16 jj17 jj18 jj19 jj20 jj21 jj22 jj23 h0 n0) := by
 refine MetN.of (plainFor_of_name pn_4) ?_
 intro p e s m below meth c s₁ hret hx hby hml hown hnm hlk hZ X0 e0
 have N0 := Fr.nil n0
 rw [ef_m14_76 m a0 a1]
 refine w_aloadN X0 hx (d14_0 hby) rfl rfl (pc' := 1) rfl ?_
 refine w_instY X0 hx hZ hown (wd_89 hw) e0 (Ins.self E_a1) (d14_1 hby) (pc' := 4) rfl ?_
 intro T20 X20 e20
 refine w_ifN X20 hx (d14_4 hby) (feq (by decide : ¬ ((1 : Int32) = (0 : Int32)))).1 (pc' := 7) rfl ?_
 refine w_aloadN X20 hx (d14_7 hby) rfl rfl (pc' := 8) rfl ?_
 refine w_castY X20 hx hZ hown (wd_89 hw) e20 (Ins.self E_a1) (d14_8 hby) (pc' := 11) rfl ?_
 intro T21 X21 e21
 refine w_astoreN X21 hx (d14_11 hby) rfl (L' := #[.val (.ref a0), .val (.ref a1), .val (.ref a1)]) rfl (pc' := 12) rfl ?_
 refine w_aloadN X21 hx (d14_12 hby) rfl rfl (pc' := 13) rfl ?_
 refine w_getF X21 hx "" hZ hown (Or.inl (wd_20 hw)) Via.refl e21 zz24 (d14_13 hby) (pc' := 16) rfl ?_
 intro T22 X22 e22
 refine w_aloadN X22 hx (d14_16 hby) rfl rfl (pc' := 17) rfl ?_
 refine w_getF X22 hx "" hZ hown (Or.inl (wd_20 hw)) Via.refl e22 zz25 (d14_17 hby) (pc' := 20) rfl ?_
 intro T23 X23 e23
 refine w_icN X23 hx (d14_20 hby) (teq (rfl : jj0 = jj0)).2 (pc' := 23) rfl ?_
 refine w_aloadN X23 hx (d14_23 hby) rfl rfl (pc' := 24) rfl ?_
 refine w_getF X23 hx "" hZ hown (Or.inl (wd_22 hw)) Via.refl e23 zz26 (d14_24 hby) (pc' := 27) rfl ?_
 intro T24 X24 e24
 refine w_aloadN X24 hx (d14_27 hby) rfl rfl (pc' := 28) rfl ?_
 refine w_getF X24 hx "" hZ hown (Or.inl (wd_22 hw)) Via.refl e24 zz27 (d14_28 hby) (pc' := 31) rfl ?_
 intro T25 X25 e25
 refine w_static X25 hx (y := yn_15) hown (mvT hZ (wd_91 hw)) (mvT hZ (wd_92 hw)) (mvT hZ (wd_35 hw)) (mvT hZ (wd_93 hw)) (by decide) (backOf (W := 0) (rm_m15_60 l Z aZ hw [] jj1 jj2 jj3 jj4 jj5 jj6 jj7 jj8 jj9 h0 n0 Z0 zz37 zz28 zz29 zz38 zz30 zz31 zz32 zz33 zz34 zz35 zz36 O0 zz39) hZ (wd_93 hw) (wd_35 hw) (by decide) (by decide)) (by rw [hml]; rfl) [(.ref jj1), (.ref jj2)] (lenOf pd_19 rfl) rfl (Nat.le_of_eq rfl) (d14_31 hby) (fun _ _ => ⟨rfl, e25, (by decide : 0 + 0 ≤ _), (by decide : 0 + 0 ≤ _)⟩) (pc' := 34) rfl ?_
 rintro _ _ ⟨T26, L26, k26, n26⟩ X26 ⟨Lc26, hQ26, l26, y26, z26⟩
 dsimp only [Pt.U, Pt.locs, Pt.cells, Pt.slots] at X26 l26 y26 z26 hQ26 ⊢
 subst l26 y26 z26
 obtain ⟨rfl, N26q, e26⟩ := hQ26
 have N27 := Fr.app N0 N26q
 show Runs _ _ _ _ (T26.setTop (mkF m 34 #[.val (.ref a0), .val (.ref a1), .val (.ref a1)] [(.int (1 : Int32))]))
 refine w_ifN X26 hx (d14_34 hby) (feq (by decide : ¬ ((1 : Int32) = (0 : Int32)))).1 (pc' := 37) rfl ?_
 refine w_aloadN X26 hx (d14_37 hby) rfl rfl (pc' := 38) rfl ?_
 refine w_getF X26 hx "" hZ hown (Or.inl (wd_24 hw)) Via.refl e26 zz40 (d14_38 hby) (pc' := 41) rfl ?_
 intro T28 X28 e28
 refine w_aloadN X28 hx (d14_41 hby) rfl rfl (pc' := 42) rfl ?_
 refine w_getF X28 hx "" hZ hown (Or.inl (wd_24 hw)) Via.refl e28 zz41 (d14_42 hby) (pc' := 45) rfl ?_
 intro T29 X29 e29
 refine w_static X29 hx (y := yn_15) hown (mvT hZ (wd_91 hw)) (mvT hZ (wd_92 hw)) (mvT hZ (wd_35 hw)) (mvT hZ (wd_93 hw)) (by decide) (backOf (W := 0) (rm_m15_60 l Z aZ hw [] jj10 jj11 jj12 jj13 jj14 jj15 jj16 jj17 jj9 h0 n0 Z0 zz50 zz42 zz43 zz38 zz44 zz45 zz46 zz47 zz48 zz49 zz36 O0 zz51) hZ (wd_93 hw) (wd_35 hw) (by decide) (by decide)) (by rw [hml]; rfl) [(.ref jj10), (.ref jj11)] (lenOf pd_19 rfl) rfl (Nat.le_of_eq rfl) (d14_45 hby) (fun _ _ => ⟨rfl, e29, (by decide : 0 + 0 ≤ _), (by decide : 0 + 0 ≤ _)⟩) (pc' := 48) rfl ?_
 rintro _ _ ⟨T30, L30, k30, n30⟩ X30 ⟨Lc30, hQ30, l30, y30, z30⟩
 dsimp only [Pt.U, Pt.locs, Pt.cells, Pt.slots] at X30 l30 y30 z30 hQ30 ⊢
 subst l30 y30 z30
 obtain ⟨rfl, N30q, e30⟩ := hQ30
 have N31 := Fr.app N27 N30q
 show Runs _ _ _ _ (T30.setTop (mkF m 48 #[.val (.ref a0), .val (.ref a1), .val (.ref a1)] [(.int (1 : Int32))]))
 refine w_ifN X30 hx (d14_48 hby) (feq (by decide : ¬ ((1 : Int32) = (0 : Int32)))).1 (pc' := 51) rfl ?_
 refine w_aloadN X30 hx (d14_51 hby) rfl rfl (pc' := 52) rfl ?_
 refine w_getF X30 hx "" hZ hown (Or.inl (wd_46 hw)) Via.refl e30 zz52 (d14_52 hby) (pc' := 55) rfl ?_
 intro T32 X32 e32
 refine w_aloadN X32 hx (d14_55 hby) rfl rfl (pc' := 56) rfl ?_
 refine w_getF X32 hx "" hZ hown (Or.inl (wd_46 hw)) Via.refl e32 zz53 (d14_56 hby) (pc' := 59) rfl ?_
 intro T33 X33 e33
 refine w_static X33 hx (y := yn_16) hown (mvT hZ (wd_94 hw)) (mvT hZ (wd_95 hw)) (mvT hZ (wd_65 hw)) (mvT hZ (wd_96 hw)) (by decide) (backOf (W := 0) (rm_m16_42 l Z aZ hw [] jj18 jj19 jj20 jj21 jj22 jj23 h0 n0 Z0 zz54 zz55 zz56 zz57) hZ (wd_96 hw) (wd_65 hw) (by decide) (by decide)) (by rw [hml]; rfl) [(.ref jj18), (.ref jj19)] (lenOf pd_21 rfl) rfl (Nat.le_of_eq rfl) (d14_59 hby) (fun _ _ => ⟨rfl, e33, (by decide : 0 + 0 ≤ _), (by decide : 0 + 0 ≤ _)⟩) (pc' := 62) rfl ?_
 rintro _ _ ⟨T34, L34, k34, n34⟩ X34 ⟨Lc34, hQ34, l34, y34, z34⟩
 dsimp only [Pt.U, Pt.locs, Pt.cells, Pt.slots] at X34 l34 y34 z34 hQ34 ⊢
 subst l34 y34 z34
 obtain ⟨rfl, N34q, e34⟩ := hQ34
 have N35 := Fr.app N31 N34q
 show Runs _ _ _ _ (T34.setTop (mkF m 62 #[.val (.ref a0), .val (.ref a1), .val (.ref a1)] [(.int (1 : Int32))]))
 refine w_ifN X34 hx (d14_62 hby) (feq (by decide : ¬ ((1 : Int32) = (0 : Int32)))).1 (pc' := 65) rfl ?_
 refine w_iconst X34 hx (d14_65 hby) (v := (1 : Int32)) rfl (pc' := 66) rfl ?_
 refine w_goto X34 hx (d14_66 hby) (pc' := 70) (by decide) (by decide) ?_
 exact w_done X34 hlk (v := some (.int (1 : Int32))) e34 (fun h => by rw [hret] at h; cases h) (fun fs hr => retN X34 hx (t := .boolean) hret (by simp) (d14_70 hby) hr) (by decide) (by decide) (⟨rfl, N35, rfl⟩)
theorem ef_law (m : MethodId) (p0 : Int32) (p1 : Int32) (p2 : Int32) (q3 : Int64) (p4 : Int32)  : entryFrame m #[(.int p0), (.int p1), (.int p2), (.long q3), (.int p4)] maxLocals = mkF m 0 #[.val (.int p0), .val (.int p1), .val (.int p2), .val (.long q3), .second, .val (.int p4), .unset, .unset, .unset, .unset, .unset, .unset] [] := by first | (simp [entryFrame, mkF, argsToLocals, Value.category, maxLocals]; done) | rfl
def Q_law (Z : State) (p0 : Int32) (p1 : Int32) (p2 : Int32) (q3 : Int64) (p4 : Int32) (G_COMPACT_STRINGS : Int32) (G_cache : Addr) (bxc_G_cache : Cell) (h0 : Heap) (n0 : Nat) (v : Option Value) (h : Heap) (L : List Loc) (S : Addr → Prop) : Prop := v = some (.int (1 : Int32)) ∧ Fr n0 L
theorem rm_law (l : Launch) (Z : State) (aZ : Array Value) (hw : ∀ d ∈ tables_1, d.before aZ Z = true) (ws : List Jvm.Cond) (p0 : Int32) (p1 : Int32) (p2 : Int32) (q3 : Int64) (p4 : Int32) (G_COMPACT_STRINGS : Int32) (G_cache : Addr) (bxc_G_cache : Cell) (h0 : Heap) (n0 : Nat) (Z0 : n0 ≤ h0.size) (S_COMPACT_STRINGS : Sta Z Z.heap kc0 "COMPACT_STRINGS" "Z" (.int G_COMPACT_STRINGS)) (O0 : Old Z n0 h0) (hP_2 : ¬ (G_COMPACT_STRINGS = (0 : Int32))) (S_high : Sta Z Z.heap kc4 "high" "I" (.int (127 : Int32))) (S_cache : Sta Z Z.heap kc4 "cache" "[Ljava/lang/Integer;" (.ref G_cache)) (BX_G_cache : Bxs Z G_cache bxc_G_cache kc2 "I" (256 : Int32) (fun j => .int (j - 128))) :
    MetH l Z EL x code maxLocals ret ws room_1 #[(.int p0), (.int p1), (.int p2), (.long q3), (.int p4)] h0 (Q_law Z p0 p1 p2 q3 p4 G_COMPACT_STRINGS G_cache bxc_G_cache h0 n0) [] := by
 refine MetH.of (plainFor_of_name pn_2) ?_
 intro p e s m below meth c s₁ hret hx hby hml hown hnm hlk hZ X0 e0 hh hH hsf hS0 C0
 have N0 := Fr.nil n0
 rw [ef_law m p0 p1 p2 q3 p4]
 refine w_iloadN X0 hx (hb hby at_0) rfl (pc' := 1) rfl ?_
 refine w_iloadN X0 hx (hb hby at_1) rfl (pc' := 2) rfl ?_
 refine w_iloadN X0 hx (hb hby at_2) rfl (pc' := 3) rfl ?_
 refine w_lloadN X0 hx (hb hby at_3) rfl (pc' := 4) rfl ?_
 refine w_iload X0 hx (hb hby at_4) rfl (pc' := 6) rfl ?_
 refine w_staticS X0 hx (y := yn_1) hown (mvT hZ (wd_0 hw)) (mvT hZ (wd_1 hw)) (mvT hZ (wd_2 hw)) (mvT hZ (wd_3 hw)) (by decide) (backOfY (W := 0) (rm_m1_4 l Z aZ hw [] p0 p1 p2 q3 p4 G_COMPACT_STRINGS h0 n0 Z0 S_COMPACT_STRINGS O0 hP_2) hZ (wd_3 hw) (wd_2 hw) (by decide) (by decide) (own_EW hw) C0.1 sf0 all0) (by rw [hml]; rfl) [(.int p0), (.int p1), (.int p2), (.long q3), (.int p4)] (lenOf pd_9 rfl) rfl (Nat.le_of_eq rfl) (hb hby at_6) (fun _ _ => ⟨rfl, e0, (by decide : 0 + 17 ≤ _), (by decide : 0 + 54 ≤ _)⟩) (pc' := 9) rfl ?_
 rintro _ _ ⟨T20, L20, k20, n20⟩ XX20 hSS20 hg20 ⟨Lc20, hQ20, l20, y20, z20, A20⟩
 dsimp only [Pt.U, Pt.locs, Pt.cells, Pt.slots] at XX20 l20 y20 z20 hQ20 hSS20 hg20 A20 ⊢
 subst l20 y20 z20
 obtain ⟨X20, hS20, hZ20, hown20⟩ := rebS hS0 (Nat.le_refl _) XX20 hSS20 (e0 ▸ hg20) hZ hown
 rcases hQ20 with ⟨r_20, bd_20, kb_20, rfl, N20q, K20, g20_0, g20_1, g20_2, g20_3, g20_4, g20_5, g20_6, g20_7, g20_8, g20_9, g20_10, g20_11⟩ | ⟨r_20, bd_20, kb_20, s1_20, t1_20, k1_20, rfl, N20q, K20, g20_0, g20_1, g20_2, g20_3, g20_4, g20_5, g20_6, g20_7, g20_8, g20_9, g20_10, g20_11, g20_12, g20_13, g20_14, g20_15, g20_16, g20_17, g20_18, g20_19, g20_20⟩ | ⟨r_20, bd_20, kb_20, s0_20, t0_20, k0_20, rfl, N20q, K20, g20_0, g20_1, g20_2, g20_3, g20_4, g20_5, g20_6, g20_7, g20_8, g20_9, g20_10, g20_11, g20_12, g20_13, g20_14, g20_15, g20_16, g20_17, g20_18, g20_19, g20_20⟩ | ⟨r_20, bd_20, kb_20, s0_20, t0_20, k0_20, s1_20, t1_20, k1_20, rfl, N20q, K20, g20_0, g20_1, g20_2, g20_3, g20_4, g20_5, g20_6, g20_7, g20_8, g20_9, g20_10, g20_11, g20_12, g20_13, g20_14, g20_15, g20_16, g20_17, g20_18, g20_19, g20_20, g20_21, g20_22, g20_23, g20_24, g20_25, g20_26, g20_27, g20_28, g20_29, g20_30⟩
 · have N21 := Fr.app N0 N20q
   have C22 : CHr Z EL s.vm h0 T20.vm T20.heap := C0.trans A20
   have K23 : Keep h0 T20.heap [] := (Keep.refl h0 []).trans K20 (all0 (P := fun x => x ∈ [] ∨ h0.size ≤ x))
   have ge24 : n0 ≤ r_20 := Nat.le_trans Z0 g20_2
   have sz25 : h0.size ≤ r_20 := Nat.le_trans (Nat.le_refl _) g20_2
   have ge26 : n0 ≤ bd_20 := Nat.le_trans Z0 g20_8
   have sz27 : h0.size ≤ bd_20 := Nat.le_trans (Nat.le_refl _) g20_8
   show Runs _ _ _ _ (T20.setTop (mkF m 9 #[.val (.int p0), .val (.int p1), .val (.int p2), .val (.long q3), .second, .val (.int p4), .unset, .unset, .unset, .unset, .unset, .unset] [(.ref r_20)]))
   refine w_astore X20 hx (hb hby at_9) rfl (L' := #[.val (.int p0), .val (.int p1), .val (.int p2), .val (.long q3), .second, .val (.int p4), .val (.ref r_20), .unset, .unset, .unset, .unset, .unset]) rfl (pc' := 11) rfl ?_
   refine w_iloadN X20 hx (hb hby at_11) rfl (pc' := 12) rfl ?_
   refine w_iloadN X20 hx (hb hby at_12) rfl (pc' := 13) rfl ?_
   refine w_iloadN X20 hx (hb hby at_13) rfl (pc' := 14) rfl ?_
   refine w_lloadN X20 hx (hb hby at_14) rfl (pc' := 15) rfl ?_
   refine w_iload X20 hx (hb hby at_15) rfl (pc' := 17) rfl ?_
   have f28 : Old Z n0 T20.heap := (O0.keep K20 all0)
   refine w_staticS X20 hx (y := yn_1) hown20 (mvT hZ20 (wd_0 hw)) (mvT hZ20 (wd_1 hw)) (mvT hZ20 (wd_2 hw)) (mvT hZ20 (wd_3 hw)) (by decide) (backOfY (W := 0) (rm_m1_4 l Z aZ hw [] p0 p1 p2 q3 p4 G_COMPACT_STRINGS T20.heap n0 (Nat.le_trans Z0 K20.1) S_COMPACT_STRINGS f28 hP_2) hZ20 (wd_3 hw) (wd_2 hw) (by decide) (by decide) (own_EW hw) C22.1 sf0 all0) (by rw [hml]; rfl) [(.int p0), (.int p1), (.int p2), (.long q3), (.int p4)] (lenOf pd_9 rfl) rfl (Nat.le_of_eq rfl) (hb hby at_17) (fun _ _ => ⟨rfl, rfl, (by decide : 17 + 17 ≤ _), (by decide : 54 + 54 ≤ _)⟩) (pc' := 20) rfl ?_
   rintro _ _ ⟨T29, L29, k29, n29⟩ XX29 hSS29 hg29 ⟨Lc29, hQ29, l29, y29, z29, A29⟩
   dsimp only [Pt.U, Pt.locs, Pt.cells, Pt.slots] at XX29 l29 y29 z29 hQ29 hSS29 hg29 A29 ⊢
   subst l29 y29 z29
   obtain ⟨X29, hS29, hZ29, hown29⟩ := rebS hS20 (Nat.le_refl _) XX29 hSS29 hg29 hZ20 hown20
   rcases hQ29 with ⟨r_29, bd_29, kb_29, rfl, N29q, K29, g29_0, g29_1, g29_2, g29_3, g29_4, g29_5, g29_6, g29_7, g29_8, g29_9, g29_10, g29_11⟩ | ⟨r_29, bd_29, kb_29, s1_29, t1_29, k1_29, rfl, N29q, K29, g29_0, g29_1, g29_2, g29_3, g29_4, g29_5, g29_6, g29_7, g29_8, g29_9, g29_10, g29_11, g29_12, g29_13, g29_14, g29_15, g29_16, g29_17, g29_18, g29_19, g29_20⟩ | ⟨r_29, bd_29, kb_29, s0_29, t0_29, k0_29, rfl, N29q, K29, g29_0, g29_1, g29_2, g29_3, g29_4, g29_5, g29_6, g29_7, g29_8, g29_9, g29_10, g29_11, g29_12, g29_13, g29_14, g29_15, g29_16, g29_17, g29_18, g29_19, g29_20⟩ | ⟨r_29, bd_29, kb_29, s0_29, t0_29, k0_29, s1_29, t1_29, k1_29, rfl, N29q, K29, g29_0, g29_1, g29_2, g29_3, g29_4, g29_5, g29_6, g29_7, g29_8, g29_9, g29_10, g29_11, g29_12, g29_13, g29_14, g29_15, g29_16, g29_17, g29_18, g29_19, g29_20, g29_21, g29_22, g29_23, g29_24, g29_25, g29_26, g29_27, g29_28, g29_29, g29_30⟩
   · have N30 := Fr.app N21 N29q
     have C31 : CHr Z EL s.vm h0 T29.vm T29.heap := C22.trans A29
     have K32 : Keep h0 T29.heap [] := K23.trans K29 (all0 (P := fun x => x ∈ [] ∨ h0.size ≤ x))
     have ge33 : n0 ≤ r_29 := Nat.le_trans (Nat.le_trans Z0 K20.1) g29_2
     have sz34 : h0.size ≤ r_29 := Nat.le_trans K20.1 g29_2
     have ge35 : n0 ≤ bd_29 := Nat.le_trans (Nat.le_trans Z0 K20.1) g29_8
     have sz36 : h0.size ≤ bd_29 := Nat.le_trans K20.1 g29_8
     show Runs _ _ _ _ (T29.setTop (mkF m 20 #[.val (.int p0), .val (.int p1), .val (.int p2), .val (.long q3), .second, .val (.int p4), .val (.ref r_20), .unset, .unset, .unset, .unset, .unset] [(.ref r_29)]))
     refine w_astore X29 hx (hb hby at_20) rfl (L' := #[.val (.int p0), .val (.int p1), .val (.int p2), .val (.long q3), .second, .val (.int p4), .val (.ref r_20), .val (.ref r_29), .unset, .unset, .unset, .unset]) rfl (pc' := 22) rfl ?_
     refine w_aload X29 hx (hb hby at_22) rfl rfl (pc' := 24) rfl ?_
     have f37 : Fld Z T29.heap r_20 kc1 "status" "I" (.int p0) := (g20_4.keep K29 nin0)
     have f38 : Old Z n0 T29.heap := (f28.keep K29 all0)
     have f39 : Fld Z T29.heap r_20 kc1 "contentType" "Ljava/lang/String;" .null := (g20_5.keep K29 nin0)
     have f40 : Fld Z T29.heap r_20 kc1 "location" "Ljava/lang/String;" .null := (g20_6.keep K29 nin0)
     have f41 : Fld Z T29.heap r_20 kc1 "body" "[B" (.ref bd_20) := (g20_7.keep K29 nin0)
     have f42 : Arv Z T29.heap bd_20 kb_20 .byte (bn (((p4.toUInt32 >>> ((4 : Int32) &&& 31).toUInt32).toInt32) &&& (3 : Int32))) (mI (bl q3 (((p4.toUInt32 >>> ((4 : Int32) &&& 31).toUInt32).toInt32) &&& (3 : Int32)))) (.int (0 : Int32)) := (g20_11.keep K29 nin0)
     have f43 : Exa Z T29.heap bd_20 "[B" := (g20_10.keep K29)
     have le44 : h0.size ≤ T29.heap.size := (Nat.le_trans K20.1 K29.1)
     have f46 : Exa Z T29.heap r_20 kc1 := (g20_3.keep K29)
     obtain ⟨cq45, kq45, q45a, q45b, q45c⟩ := isOf hZ29 rfl f46
     refine w_virtual X29 hx (y := yn_7) (z := yn_7) hown29 (mvT hZ29 (wd_48 hw)) (mvT hZ29 (wd_49 hw)) (notFace_of_selects (args := #[]) (mvT hZ29 (wd_51 hw))) (mvT hZ29 (wd_51 hw)) (mvT hZ29 (wd_50 hw)) (by decide) (backOf (W := 0) (rm_m7_27 l Z aZ hw [] r_20 p0 G_cache bxc_G_cache bd_20 kb_20 (bn (((p4.toUInt32 >>> ((4 : Int32) &&& 31).toUInt32).toInt32) &&& (3 : Int32))) (bl q3 (((p4.toUInt32 >>> ((4 : Int32) &&& 31).toUInt32).toInt32) &&& (3 : Int32))) T29.heap n0 (Nat.le_trans Z0 le44) f37 S_high f38 S_cache BX_G_cache f39 f40 f41 f42 f43 (own_TB _ _)) hZ29 (wd_52 hw) (wd_13 hw) (by decide) (by decide)) q45a q45c (by rw [hml]; rfl) [] (lenOf pd_17 rfl) rfl (Nat.le_of_eq rfl) (hb hby at_24) (fun _ _ => ⟨rfl, rfl, (by decide : 34 + 3 ≤ _), (by decide : 108 + 6 ≤ _)⟩) (pc' := 27) rfl ?_
     rintro _ _ ⟨T45, L45, k45, n45⟩ X45 ⟨Lc45, hQ45, l45, y45, z45⟩
     dsimp only [Pt.U, Pt.locs, Pt.cells, Pt.slots] at X45 l45 y45 z45 hQ45 ⊢
     subst l45 y45 z45
     obtain ⟨rfl, N45q, K45⟩ := hQ45
     have N47 := Fr.app N30 N45q
     have C48 : CHr Z EL s.vm h0 T29.vm T45.heap := C31.trans (CHr.keep K45 sf0 C31.1)
     have K49 : Keep h0 T45.heap [] := K32.trans K45 (all0 (P := fun x => x ∈ [] ∨ h0.size ≤ x))
     show Runs _ _ _ _ (T45.setTop (mkF m 27 #[.val (.int p0), .val (.int p1), .val (.int p2), .val (.long q3), .second, .val (.int p4), .val (.ref r_20), .val (.ref r_29), .unset, .unset, .unset, .unset] [(.int (((31 : Int32) * (((31 : Int32) * (((31 : Int32) * ((31 : Int32) + p0)) + (0 : Int32))) + (0 : Int32))) + (hB (bl q3 (((p4.toUInt32 >>> ((4 : Int32) &&& 31).toUInt32).toInt32) &&& (3 : Int32))))))]))
     refine w_istore X45 hx (hb hby at_27) (L' := #[.val (.int p0), .val (.int p1), .val (.int p2), .val (.long q3), .second, .val (.int p4), .val (.ref r_20), .val (.ref r_29), .val (.int (((31 : Int32) * (((31 : Int32) * (((31 : Int32) * ((31 : Int32) + p0)) + (0 : Int32))) + (0 : Int32))) + (hB (bl q3 (((p4.toUInt32 >>> ((4 : Int32) &&& 31).toUInt32).toInt32) &&& (3 : Int32)))))), .unset, .unset, .unset]) rfl (pc' := 29) rfl ?_
     refine w_aload X45 hx (hb hby at_29) rfl rfl (pc' := 31) rfl ?_
     have f50 : Fld Z T45.heap r_29 kc1 "status" "I" (.int p0) := (g29_4.keep K45 nin0)
     have f51 : Old Z n0 T45.heap := (f38.keep K45 all0)
     have f52 : Fld Z T45.heap r_29 kc1 "contentType" "Ljava/lang/String;" .null := (g29_5.keep K45 nin0)
     have f53 : Fld Z T45.heap r_29 kc1 "location" "Ljava/lang/String;" .null := (g29_6.keep K45 nin0)
     have f54 : Fld Z T45.heap r_29 kc1 "body" "[B" (.ref bd_29) := (g29_7.keep K45 nin0)
     have f55 : Arv Z T45.heap bd_29 kb_29 .byte (bn (((p4.toUInt32 >>> ((4 : Int32) &&& 31).toUInt32).toInt32) &&& (3 : Int32))) (mI (bl q3 (((p4.toUInt32 >>> ((4 : Int32) &&& 31).toUInt32).toInt32) &&& (3 : Int32)))) (.int (0 : Int32)) := (g29_11.keep K45 nin0)
     have f56 : Exa Z T45.heap bd_29 "[B" := (g29_10.keep K45)
     have le57 : h0.size ≤ T45.heap.size := (Nat.le_trans le44 K45.1)
     have f59 : Exa Z T45.heap r_29 kc1 := (g29_3.keep K45)
     obtain ⟨cq58, kq58, q58a, q58b, q58c⟩ := isOf hZ29 rfl f59
     refine w_virtual X45 hx (y := yn_7) (z := yn_7) hown29 (mvT hZ29 (wd_48 hw)) (mvT hZ29 (wd_49 hw)) (notFace_of_selects (args := #[]) (mvT hZ29 (wd_51 hw))) (mvT hZ29 (wd_51 hw)) (mvT hZ29 (wd_50 hw)) (by decide) (backOf (W := 0) (rm_m7_27 l Z aZ hw [] r_29 p0 G_cache bxc_G_cache bd_29 kb_29 (bn (((p4.toUInt32 >>> ((4 : Int32) &&& 31).toUInt32).toInt32) &&& (3 : Int32))) (bl q3 (((p4.toUInt32 >>> ((4 : Int32) &&& 31).toUInt32).toInt32) &&& (3 : Int32))) T45.heap n0 (Nat.le_trans Z0 le57) f50 S_high f51 S_cache BX_G_cache f52 f53 f54 f55 f56 (own_TB _ _)) hZ29 (wd_52 hw) (wd_13 hw) (by decide) (by decide)) q58a q58c (by rw [hml]; rfl) [] (lenOf pd_17 rfl) rfl (Nat.le_of_eq rfl) (hb hby at_31) (fun _ _ => ⟨rfl, rfl, (by decide : 37 + 3 ≤ _), (by decide : 114 + 6 ≤ _)⟩) (pc' := 34) rfl ?_
     rintro _ _ ⟨T58, L58, k58, n58⟩ X58 ⟨Lc58, hQ58, l58, y58, z58⟩
     dsimp only [Pt.U, Pt.locs, Pt.cells, Pt.slots] at X58 l58 y58 z58 hQ58 ⊢
     subst l58 y58 z58
     obtain ⟨rfl, N58q, K58⟩ := hQ58
     have N60 := Fr.app N47 N58q
     have C61 : CHr Z EL s.vm h0 T29.vm T58.heap := C48.trans (CHr.keep K58 sf0 C48.1)
     have K62 : Keep h0 T58.heap [] := K49.trans K58 (all0 (P := fun x => x ∈ [] ∨ h0.size ≤ x))
     show Runs _ _ _ _ (T58.setTop (mkF m 34 #[.val (.int p0), .val (.int p1), .val (.int p2), .val (.long q3), .second, .val (.int p4), .val (.ref r_20), .val (.ref r_29), .val (.int (((31 : Int32) * (((31 : Int32) * (((31 : Int32) * ((31 : Int32) + p0)) + (0 : Int32))) + (0 : Int32))) + (hB (bl q3 (((p4.toUInt32 >>> ((4 : Int32) &&& 31).toUInt32).toInt32) &&& (3 : Int32)))))), .unset, .unset, .unset] [(.int (((31 : Int32) * (((31 : Int32) * (((31 : Int32) * ((31 : Int32) + p0)) + (0 : Int32))) + (0 : Int32))) + (hB (bl q3 (((p4.toUInt32 >>> ((4 : Int32) &&& 31).toUInt32).toInt32) &&& (3 : Int32))))))]))
     refine w_istore X58 hx (hb hby at_34) (L' := #[.val (.int p0), .val (.int p1), .val (.int p2), .val (.long q3), .second, .val (.int p4), .val (.ref r_20), .val (.ref r_29), .val (.int (((31 : Int32) * (((31 : Int32) * (((31 : Int32) * ((31 : Int32) + p0)) + (0 : Int32))) + (0 : Int32))) + (hB (bl q3 (((p4.toUInt32 >>> ((4 : Int32) &&& 31).toUInt32).toInt32) &&& (3 : Int32)))))), .val (.int (((31 : Int32) * (((31 : Int32) * (((31 : Int32) * ((31 : Int32) + p0)) + (0 : Int32))) + (0 : Int32))) + (hB (bl q3 (((p4.toUInt32 >>> ((4 : Int32) &&& 31).toUInt32).toInt32) &&& (3 : Int32)))))), .unset, .unset]) rfl (pc' := 36) rfl ?_
     refine w_aload X58 hx (hb hby at_36) rfl rfl (pc' := 38) rfl ?_
     have f63 : Fld Z T58.heap r_20 kc1 "status" "I" (.int p0) := ((f37.keep K45 nin0).keep K58 nin0)
     have f64 : Old Z n0 T58.heap := (f51.keep K58 all0)
     have f65 : Fld Z T58.heap r_20 kc1 "contentType" "Ljava/lang/String;" .null := ((f39.keep K45 nin0).keep K58 nin0)
     have f66 : Fld Z T58.heap r_20 kc1 "location" "Ljava/lang/String;" .null := ((f40.keep K45 nin0).keep K58 nin0)
     have f67 : Fld Z T58.heap r_20 kc1 "body" "[B" (.ref bd_20) := ((f41.keep K45 nin0).keep K58 nin0)
     have f68 : Arv Z T58.heap bd_20 kb_20 .byte (bn (((p4.toUInt32 >>> ((4 : Int32) &&& 31).toUInt32).toInt32) &&& (3 : Int32))) (mI (bl q3 (((p4.toUInt32 >>> ((4 : Int32) &&& 31).toUInt32).toInt32) &&& (3 : Int32)))) (.int (0 : Int32)) := ((f42.keep K45 nin0).keep K58 nin0)
     have f69 : Exa Z T58.heap bd_20 "[B" := ((f43.keep K45).keep K58)
     have le70 : h0.size ≤ T58.heap.size := (Nat.le_trans le57 K58.1)
     have f72 : Exa Z T58.heap r_20 kc1 := ((f46.keep K45).keep K58)
     obtain ⟨cq71, kq71, q71a, q71b, q71c⟩ := isOf hZ29 rfl f72
     refine w_virtual X58 hx (y := yn_7) (z := yn_7) hown29 (mvT hZ29 (wd_48 hw)) (mvT hZ29 (wd_49 hw)) (notFace_of_selects (args := #[]) (mvT hZ29 (wd_51 hw))) (mvT hZ29 (wd_51 hw)) (mvT hZ29 (wd_50 hw)) (by decide) (backOf (W := 0) (rm_m7_27 l Z aZ hw [] r_20 p0 G_cache bxc_G_cache bd_20 kb_20 (bn (((p4.toUInt32 >>> ((4 : Int32) &&& 31).toUInt32).toInt32) &&& (3 : Int32))) (bl q3 (((p4.toUInt32 >>> ((4 : Int32) &&& 31).toUInt32).toInt32) &&& (3 : Int32))) T58.heap n0 (Nat.le_trans Z0 le70) f63 S_high f64 S_cache BX_G_cache f65 f66 f67 f68 f69 (own_TB _ _)) hZ29 (wd_52 hw) (wd_13 hw) (by decide) (by decide)) q71a q71c (by rw [hml]; rfl) [] (lenOf pd_17 rfl) rfl (Nat.le_of_eq rfl) (hb hby at_38) (fun _ _ => ⟨rfl, rfl, (by decide : 40 + 3 ≤ _), (by decide : 120 + 6 ≤ _)⟩) (pc' := 41) rfl ?_
     rintro _ _ ⟨T71, L71, k71, n71⟩ X71 ⟨Lc71, hQ71, l71, y71, z71⟩
     dsimp only [Pt.U, Pt.locs, Pt.cells, Pt.slots] at X71 l71 y71 z71 hQ71 ⊢
     subst l71 y71 z71
     obtain ⟨rfl, N71q, K71⟩ := hQ71
     have N73 := Fr.app N60 N71q
     have C74 : CHr Z EL s.vm h0 T29.vm T71.heap := C61.trans (CHr.keep K71 sf0 C61.1)
     have K75 : Keep h0 T71.heap [] := K62.trans K71 (all0 (P := fun x => x ∈ [] ∨ h0.size ≤ x))
     show Runs _ _ _ _ (T71.setTop (mkF m 41 #[.val (.int p0), .val (.int p1), .val (.int p2), .val (.long q3), .second, .val (.int p4), .val (.ref r_20), .val (.ref r_29), .val (.int (((31 : Int32) * (((31 : Int32) * (((31 : Int32) * ((31 : Int32) + p0)) + (0 : Int32))) + (0 : Int32))) + (hB (bl q3 (((p4.toUInt32 >>> ((4 : Int32) &&& 31).toUInt32).toInt32) &&& (3 : Int32)))))), .val (.int (((31 : Int32) * (((31 : Int32) * (((31 : Int32) * ((31 : Int32) + p0)) + (0 : Int32))) + (0 : Int32))) + (hB (bl q3 (((p4.toUInt32 >>> ((4 : Int32) &&& 31).toUInt32).toInt32) &&& (3 : Int32)))))), .unset, .unset] [(.int (((31 : Int32) * (((31 : Int32) * (((31 : Int32) * ((31 : Int32) + p0)) + (0 : Int32))) + (0 : Int32))) + (hB (bl q3 (((p4.toUInt32 >>> ((4 : Int32) &&& 31).toUInt32).toInt32) &&& (3 : Int32))))))]))
     refine w_istore X71 hx (hb hby at_41) (L' := #[.val (.int p0), .val (.int p1), .val (.int p2), .val (.long q3), .second, .val (.int p4), .val (.ref r_20), .val (.ref r_29), .val (.int (((31 : Int32) * (((31 : Int32) * (((31 : Int32) * ((31 : Int32) + p0)) + (0 : Int32))) + (0 : Int32))) + (hB (bl q3 (((p4.toUInt32 >>> ((4 : Int32) &&& 31).toUInt32).toInt32) &&& (3 : Int32)))))), .val (.int (((31 : Int32) * (((31 : Int32) * (((31 : Int32) * ((31 : Int32) + p0)) + (0 : Int32))) + (0 : Int32))) + (hB (bl q3 (((p4.toUInt32 >>> ((4 : Int32) &&& 31).toUInt32).toInt32) &&& (3 : Int32)))))), .val (.int (((31 : Int32) * (((31 : Int32) * (((31 : Int32) * ((31 : Int32) + p0)) + (0 : Int32))) + (0 : Int32))) + (hB (bl q3 (((p4.toUInt32 >>> ((4 : Int32) &&& 31).toUInt32).toInt32) &&& (3 : Int32)))))), .unset]) rfl (pc' := 43) rfl ?_
     refine w_aload X71 hx (hb hby at_43) rfl rfl (pc' := 45) rfl ?_
     refine w_aload X71 hx (hb hby at_45) rfl rfl (pc' := 47) rfl ?_
     have f76 : Exa Z T71.heap r_29 kc1 := ((f59.keep K58).keep K71)
     have f77 : Fld Z T71.heap r_20 kc1 "status" "I" (.int p0) := (f63.keep K71 nin0)
     have f78 : Fld Z T71.heap r_29 kc1 "status" "I" (.int p0) := ((f50.keep K58 nin0).keep K71 nin0)
     have f79 : Fld Z T71.heap r_20 kc1 "contentType" "Ljava/lang/String;" .null := (f65.keep K71 nin0)
     have f80 : Fld Z T71.heap r_29 kc1 "contentType" "Ljava/lang/String;" .null := ((f52.keep K58 nin0).keep K71 nin0)
     have f81 : Fld Z T71.heap r_20 kc1 "location" "Ljava/lang/String;" .null := (f66.keep K71 nin0)
     have f82 : Fld Z T71.heap r_29 kc1 "location" "Ljava/lang/String;" .null := ((f53.keep K58 nin0).keep K71 nin0)
     have f83 : Fld Z T71.heap r_20 kc1 "body" "[B" (.ref bd_20) := (f67.keep K71 nin0)
     have f84 : Fld Z T71.heap r_29 kc1 "body" "[B" (.ref bd_29) := ((f54.keep K58 nin0).keep K71 nin0)
     have f85 : Arv Z T71.heap bd_20 kb_20 .byte (bn (((p4.toUInt32 >>> ((4 : Int32) &&& 31).toUInt32).toInt32) &&& (3 : Int32))) (mI (bl q3 (((p4.toUInt32 >>> ((4 : Int32) &&& 31).toUInt32).toInt32) &&& (3 : Int32)))) (.int (0 : Int32)) := (f68.keep K71 nin0)
     have f86 : Arv Z T71.heap bd_29 kb_29 .byte (bn (((p4.toUInt32 >>> ((4 : Int32) &&& 31).toUInt32).toInt32) &&& (3 : Int32))) (mI (bl q3 (((p4.toUInt32 >>> ((4 : Int32) &&& 31).toUInt32).toInt32) &&& (3 : Int32)))) (.int (0 : Int32)) := ((f55.keep K58 nin0).keep K71 nin0)
     have ne87 : bd_20 ≠ bd_29 := (Nat.ne_of_lt (Nat.lt_of_lt_of_le g20_10.lt (Nat.le_trans (Nat.le_refl _) g29_8)))
     have le88 : h0.size ≤ T71.heap.size := (Nat.le_trans le70 K71.1)
     have f90 : Exa Z T71.heap r_20 kc1 := (f72.keep K71)
     obtain ⟨cq89, kq89, q89a, q89b, q89c⟩ := isOf hZ29 rfl f90
     refine w_virtual X71 hx (y := yn_14) (z := yn_14) hown29 (mvT hZ29 (wd_84 hw)) (mvT hZ29 (wd_85 hw)) (notFace_of_selects (args := #[]) (mvT hZ29 (wd_87 hw))) (mvT hZ29 (wd_87 hw)) (mvT hZ29 (wd_86 hw)) (by decide) (backOf (W := 0) (rm_m14_40 l Z aZ hw [] r_20 r_29 p0 bd_20 bd_29 kb_20 (bn (((p4.toUInt32 >>> ((4 : Int32) &&& 31).toUInt32).toInt32) &&& (3 : Int32))) (bl q3 (((p4.toUInt32 >>> ((4 : Int32) &&& 31).toUInt32).toInt32) &&& (3 : Int32))) kb_29 T71.heap n0 (Nat.le_trans Z0 le88) f76 f77 f78 f79 f80 f81 f82 f83 f84 f85 f86 (own_TB _ _) ne87) hZ29 (wd_88 hw) (wd_13 hw) (by decide) (by decide)) q89a q89c (by rw [hml]; rfl) [(.ref r_29)] (lenOf pd_22 rfl) rfl (Nat.le_of_eq rfl) (hb hby at_47) (fun _ _ => ⟨rfl, rfl, (by decide : 43 + 0 ≤ _), (by decide : 126 + 0 ≤ _)⟩) (pc' := 50) rfl ?_
     rintro _ _ ⟨T89, L89, k89, n89⟩ X89 ⟨Lc89, hQ89, l89, y89, z89⟩
     dsimp only [Pt.U, Pt.locs, Pt.cells, Pt.slots] at X89 l89 y89 z89 hQ89 ⊢
     subst l89 y89 z89
     obtain ⟨rfl, N89q, e89⟩ := hQ89
     have N91 := Fr.app N73 N89q
     show Runs _ _ _ _ (T89.setTop (mkF m 50 #[.val (.int p0), .val (.int p1), .val (.int p2), .val (.long q3), .second, .val (.int p4), .val (.ref r_20), .val (.ref r_29), .val (.int (((31 : Int32) * (((31 : Int32) * (((31 : Int32) * ((31 : Int32) + p0)) + (0 : Int32))) + (0 : Int32))) + (hB (bl q3 (((p4.toUInt32 >>> ((4 : Int32) &&& 31).toUInt32).toInt32) &&& (3 : Int32)))))), .val (.int (((31 : Int32) * (((31 : Int32) * (((31 : Int32) * ((31 : Int32) + p0)) + (0 : Int32))) + (0 : Int32))) + (hB (bl q3 (((p4.toUInt32 >>> ((4 : Int32) &&& 31).toUInt32).toInt32) &&& (3 : Int32)))))), .val (.int (((31 : Int32) * (((31 : Int32) * (((31 : Int32) * ((31 : Int32) + p0)) + (0 : Int32))) + (0 : Int32))) + (hB (bl q3 (((p4.toUInt32 >>> ((4 : Int32) &&& 31).toUInt32).toInt32) &&& (3 : Int32)))))), .unset] [(.int (1 : Int32))]))
     refine w_istore X89 hx (hb hby at_50) (L' := #[.val (.int p0), .val (.int p1), .val (.int p2), .val (.long q3), .second, .val (.int p4), .val (.ref r_20), .val (.ref r_29), .val (.int (((31 : Int32) * (((31 : Int32) * (((31 : Int32) * ((31 : Int32) + p0)) + (0 : Int32))) + (0 : Int32))) + (hB (bl q3 (((p4.toUInt32 >>> ((4 : Int32) &&& 31).toUInt32).toInt32) &&& (3 : Int32)))))), .val (.int (((31 : Int32) * (((31 : Int32) * (((31 : Int32) * ((31 : Int32) + p0)) + (0 : Int32))) + (0 : Int32))) + (hB (bl q3 (((p4.toUInt32 >>> ((4 : Int32) &&& 31).toUInt32).toInt32) &&& (3 : Int32)))))), .val (.int (((31 : Int32) * (((31 : Int32) * (((31 : Int32) * ((31 : Int32) + p0)) + (0 : Int32))) + (0 : Int32))) + (hB (bl q3 (((p4.toUInt32 >>> ((4 : Int32) &&& 31).toUInt32).toInt32) &&& (3 : Int32)))))), .val (.int (1 : Int32))]) rfl (pc' := 52) rfl ?_
     refine w_iload X89 hx (hb hby at_52) rfl (pc' := 54) rfl ?_
     refine w_iload X89 hx (hb hby at_54) rfl (pc' := 56) rfl ?_
     refine w_icN X89 hx (hb hby at_56) (teq (rfl : (((31 : Int32) * (((31 : Int32) * (((31 : Int32) * ((31 : Int32) + p0)) + (0 : Int32))) + (0 : Int32))) + (hB (bl q3 (((p4.toUInt32 >>> ((4 : Int32) &&& 31).toUInt32).toInt32) &&& (3 : Int32))))) = (((31 : Int32) * (((31 : Int32) * (((31 : Int32) * ((31 : Int32) + p0)) + (0 : Int32))) + (0 : Int32))) + (hB (bl q3 (((p4.toUInt32 >>> ((4 : Int32) &&& 31).toUInt32).toInt32) &&& (3 : Int32))))))).2 (pc' := 59) rfl ?_
     refine w_iload X89 hx (hb hby at_59) rfl (pc' := 61) rfl ?_
     refine w_ifN X89 hx (hb hby at_61) (feq (by decide : ¬ ((1 : Int32) = (0 : Int32)))).1 (pc' := 64) rfl ?_
     refine w_iload X89 hx (hb hby at_64) rfl (pc' := 66) rfl ?_
     refine w_iload X89 hx (hb hby at_66) rfl (pc' := 68) rfl ?_
     refine w_icN X89 hx (hb hby at_68) (teq (rfl : (((31 : Int32) * (((31 : Int32) * (((31 : Int32) * ((31 : Int32) + p0)) + (0 : Int32))) + (0 : Int32))) + (hB (bl q3 (((p4.toUInt32 >>> ((4 : Int32) &&& 31).toUInt32).toInt32) &&& (3 : Int32))))) = (((31 : Int32) * (((31 : Int32) * (((31 : Int32) * ((31 : Int32) + p0)) + (0 : Int32))) + (0 : Int32))) + (hB (bl q3 (((p4.toUInt32 >>> ((4 : Int32) &&& 31).toUInt32).toInt32) &&& (3 : Int32))))))).2 (pc' := 71) rfl ?_
     refine w_iconst X89 hx (hb hby at_71) (v := (1 : Int32)) rfl (pc' := 72) rfl ?_
     refine w_goto X89 hx (hb hby at_72) (pc' := 76) (by decide) (by decide) ?_
     have le92 : T29.heap.size ≤ T58.heap.size := (Nat.le_trans K45.1 K58.1)
     have le93 : T29.heap.size ≤ T71.heap.size := (Nat.le_trans le92 K71.1)
     exact w_doneH X89 hlk (v := some (.int (1 : Int32))) e89 hh hZ29 (own_EW hw) hS29 (Nat.le_trans (Nat.le_refl _) le93) C74 (fun h => by rw [hret] at h; cases h) (fun fs hr => retN X89 hx (t := .boolean) hret (by simp) (hb hby at_76) hr) (by decide) (by decide) (fun hsy => ⟨rfl, N91⟩)
   · have N94 := Fr.app N21 N29q
     have C95 : CHr Z EL s.vm h0 T29.vm T29.heap := C22.trans A29
     have K96 : Keep h0 T29.heap [] := K23.trans K29 (all0 (P := fun x => x ∈ [] ∨ h0.size ≤ x))
     exact absurd g20_1 g29_1
   · have N97 := Fr.app N21 N29q
     have C98 : CHr Z EL s.vm h0 T29.vm T29.heap := C22.trans A29
     have K99 : Keep h0 T29.heap [] := K23.trans K29 (all0 (P := fun x => x ∈ [] ∨ h0.size ≤ x))
     exact absurd g20_0 g29_0
   · have N100 := Fr.app N21 N29q
     have C101 : CHr Z EL s.vm h0 T29.vm T29.heap := C22.trans A29
     have K102 : Keep h0 T29.heap [] := K23.trans K29 (all0 (P := fun x => x ∈ [] ∨ h0.size ≤ x))
     exact absurd g20_0 g29_0
 · have N103 := Fr.app N0 N20q
   have C104 : CHr Z EL s.vm h0 T20.vm T20.heap := C0.trans A20
   have K105 : Keep h0 T20.heap [] := (Keep.refl h0 []).trans K20 (all0 (P := fun x => x ∈ [] ∨ h0.size ≤ x))
   have ge106 : n0 ≤ r_20 := Nat.le_trans Z0 g20_2
   have sz107 : h0.size ≤ r_20 := Nat.le_trans (Nat.le_refl _) g20_2
   have ge108 : n0 ≤ s1_20 := Nat.le_trans Z0 g20_7
   have sz109 : h0.size ≤ s1_20 := Nat.le_trans (Nat.le_refl _) g20_7
   have ge110 : n0 ≤ bd_20 := Nat.le_trans Z0 g20_17
   have sz111 : h0.size ≤ bd_20 := Nat.le_trans (Nat.le_refl _) g20_17
   show Runs _ _ _ _ (T20.setTop (mkF m 9 #[.val (.int p0), .val (.int p1), .val (.int p2), .val (.long q3), .second, .val (.int p4), .unset, .unset, .unset, .unset, .unset, .unset] [(.ref r_20)]))
   refine w_astore X20 hx (hb hby at_9) rfl (L' := #[.val (.int p0), .val (.int p1), .val (.int p2), .val (.long q3), .second, .val (.int p4), .val (.ref r_20), .unset, .unset, .unset, .unset, .unset]) rfl (pc' := 11) rfl ?_
   refine w_iloadN X20 hx (hb hby at_11) rfl (pc' := 12) rfl ?_
   refine w_iloadN X20 hx (hb hby at_12) rfl (pc' := 13) rfl ?_
   refine w_iloadN X20 hx (hb hby at_13) rfl (pc' := 14) rfl ?_
   refine w_lloadN X20 hx (hb hby at_14) rfl (pc' := 15) rfl ?_
   refine w_iload X20 hx (hb hby at_15) rfl (pc' := 17) rfl ?_
   have f112 : Old Z n0 T20.heap := (O0.keep K20 all0)
   refine w_staticS X20 hx (y := yn_1) hown20 (mvT hZ20 (wd_0 hw)) (mvT hZ20 (wd_1 hw)) (mvT hZ20 (wd_2 hw)) (mvT hZ20 (wd_3 hw)) (by decide) (backOfY (W := 0) (rm_m1_4 l Z aZ hw [] p0 p1 p2 q3 p4 G_COMPACT_STRINGS T20.heap n0 (Nat.le_trans Z0 K20.1) S_COMPACT_STRINGS f112 hP_2) hZ20 (wd_3 hw) (wd_2 hw) (by decide) (by decide) (own_EW hw) C104.1 sf0 all0) (by rw [hml]; rfl) [(.int p0), (.int p1), (.int p2), (.long q3), (.int p4)] (lenOf pd_9 rfl) rfl (Nat.le_of_eq rfl) (hb hby at_17) (fun _ _ => ⟨rfl, rfl, (by decide : 17 + 17 ≤ _), (by decide : 54 + 54 ≤ _)⟩) (pc' := 20) rfl ?_
   rintro _ _ ⟨T113, L113, k113, n113⟩ XX113 hSS113 hg113 ⟨Lc113, hQ113, l113, y113, z113, A113⟩
   dsimp only [Pt.U, Pt.locs, Pt.cells, Pt.slots] at XX113 l113 y113 z113 hQ113 hSS113 hg113 A113 ⊢
   subst l113 y113 z113
   obtain ⟨X113, hS113, hZ113, hown113⟩ := rebS hS20 (Nat.le_refl _) XX113 hSS113 hg113 hZ20 hown20
   rcases hQ113 with ⟨r_113, bd_113, kb_113, rfl, N113q, K113, g113_0, g113_1, g113_2, g113_3, g113_4, g113_5, g113_6, g113_7, g113_8, g113_9, g113_10, g113_11⟩ | ⟨r_113, bd_113, kb_113, s1_113, t1_113, k1_113, rfl, N113q, K113, g113_0, g113_1, g113_2, g113_3, g113_4, g113_5, g113_6, g113_7, g113_8, g113_9, g113_10, g113_11, g113_12, g113_13, g113_14, g113_15, g113_16, g113_17, g113_18, g113_19, g113_20⟩ | ⟨r_113, bd_113, kb_113, s0_113, t0_113, k0_113, rfl, N113q, K113, g113_0, g113_1, g113_2, g113_3, g113_4, g113_5, g113_6, g113_7, g113_8, g113_9, g113_10, g113_11, g113_12, g113_13, g113_14, g113_15, g113_16, g113_17, g113_18, g113_19, g113_20⟩ | ⟨r_113, bd_113, kb_113, s0_113, t0_113, k0_113, s1_113, t1_113, k1_113, rfl, N113q, K113, g113_0, g113_1, g113_2, g113_3, g113_4, g113_5, g113_6, g113_7, g113_8, g113_9, g113_10, g113_11, g113_12, g113_13, g113_14, g113_15, g113_16, g113_17, g113_18, g113_19, g113_20, g113_21, g113_22, g113_23, g113_24, g113_25, g113_26, g113_27, g113_28, g113_29, g113_30⟩
   · have N114 := Fr.app N103 N113q
     have C115 : CHr Z EL s.vm h0 T113.vm T113.heap := C104.trans A113
     have K116 : Keep h0 T113.heap [] := K105.trans K113 (all0 (P := fun x => x ∈ [] ∨ h0.size ≤ x))
     exact absurd g113_1 g20_1
   · have N117 := Fr.app N103 N113q
     have C118 : CHr Z EL s.vm h0 T113.vm T113.heap := C104.trans A113
     have K119 : Keep h0 T113.heap [] := K105.trans K113 (all0 (P := fun x => x ∈ [] ∨ h0.size ≤ x))
     have ge120 : n0 ≤ r_113 := Nat.le_trans (Nat.le_trans Z0 K20.1) g113_2
     have sz121 : h0.size ≤ r_113 := Nat.le_trans K20.1 g113_2
     have ge122 : n0 ≤ s1_113 := Nat.le_trans (Nat.le_trans Z0 K20.1) g113_7
     have sz123 : h0.size ≤ s1_113 := Nat.le_trans K20.1 g113_7
     have ge124 : n0 ≤ bd_113 := Nat.le_trans (Nat.le_trans Z0 K20.1) g113_17
     have sz125 : h0.size ≤ bd_113 := Nat.le_trans K20.1 g113_17
     show Runs _ _ _ _ (T113.setTop (mkF m 20 #[.val (.int p0), .val (.int p1), .val (.int p2), .val (.long q3), .second, .val (.int p4), .val (.ref r_20), .unset, .unset, .unset, .unset, .unset] [(.ref r_113)]))
     refine w_astore X113 hx (hb hby at_20) rfl (L' := #[.val (.int p0), .val (.int p1), .val (.int p2), .val (.long q3), .second, .val (.int p4), .val (.ref r_20), .val (.ref r_113), .unset, .unset, .unset, .unset]) rfl (pc' := 22) rfl ?_
     refine w_aload X113 hx (hb hby at_22) rfl rfl (pc' := 24) rfl ?_
     have f129 : Fld Z T113.heap r_20 kc1 "status" "I" (.int p0) := (g20_4.keep K113 nin0)
     have f130 : Old Z n0 T113.heap := (f112.keep K113 all0)
     have f131 : Fld Z T113.heap r_20 kc1 "contentType" "Ljava/lang/String;" .null := (g20_5.keep K113 nin0)
     have f132 : Fld Z T113.heap r_20 kc1 "location" "Ljava/lang/String;" (.ref s1_20) := (g20_6.keep K113 nin0)
     have f133 : Exa Z T113.heap s1_20 kc0 := (g20_9.keep K113)
     have f134 : Fld Z T113.heap r_20 kc1 "body" "[B" (.ref bd_20) := (g20_16.keep K113 nin0)
     have f135 : Arv Z T113.heap bd_20 kb_20 .byte (bn (((p4.toUInt32 >>> ((4 : Int32) &&& 31).toUInt32).toInt32) &&& (3 : Int32))) (mI (bl q3 (((p4.toUInt32 >>> ((4 : Int32) &&& 31).toUInt32).toInt32) &&& (3 : Int32)))) (.int (0 : Int32)) := (g20_20.keep K113 nin0)
     have f136 : Exa Z T113.heap bd_20 "[B" := (g20_19.keep K113)
     have f137 : Fld Z T113.heap s1_20 kc0 "hash" "I" (.int (0 : Int32)) := (g20_12.keep K113 nin0)
     have f138 : Fld Z T113.heap s1_20 kc0 "hashIsZero" "Z" (.int (0 : Int32)) := (g20_13.keep K113 nin0)
     have f139 : Fld Z T113.heap s1_20 kc0 "coder" "B" (.int (0 : Int32)) := (g20_10.keep K113 nin0)
     have f140 : Fld Z T113.heap s1_20 kc0 "value" "[B" (.ref t1_20) := (g20_11.keep K113 nin0)
     have f141 : Arv Z T113.heap t1_20 k1_20 .byte (tn (((p4.toUInt32 >>> ((2 : Int32) &&& 31).toUInt32).toInt32) &&& (3 : Int32))) (mI (tl p2 (((p4.toUInt32 >>> ((2 : Int32) &&& 31).toUInt32).toInt32) &&& (3 : Int32)))) (.int (0 : Int32)) := (g20_15.keep K113 nin0)
     have f142 : EB Z T113.heap t1_20 (tn (((p4.toUInt32 >>> ((2 : Int32) &&& 31).toUInt32).toInt32) &&& (3 : Int32))) := (g20_14.keep K113)
     have le143 : h0.size ≤ T113.heap.size := (Nat.le_trans K20.1 K113.1)
     have f145 : Exa Z T113.heap r_20 kc1 := (g20_3.keep K113)
     obtain ⟨cq144, kq144, q144a, q144b, q144c⟩ := isOf hZ113 rfl f145
     refine w_virtual X113 hx (y := yn_7) (z := yn_7) hown113 (mvT hZ113 (wd_48 hw)) (mvT hZ113 (wd_49 hw)) (notFace_of_selects (args := #[]) (mvT hZ113 (wd_51 hw))) (mvT hZ113 (wd_51 hw)) (mvT hZ113 (wd_50 hw)) (by decide) (backOf (W := 0) (rm_m7_47 l Z aZ hw [] r_20 p0 G_cache bxc_G_cache s1_20 bd_20 kb_20 (bn (((p4.toUInt32 >>> ((4 : Int32) &&& 31).toUInt32).toInt32) &&& (3 : Int32))) (bl q3 (((p4.toUInt32 >>> ((4 : Int32) &&& 31).toUInt32).toInt32) &&& (3 : Int32))) t1_20 k1_20 (tn (((p4.toUInt32 >>> ((2 : Int32) &&& 31).toUInt32).toInt32) &&& (3 : Int32))) (tl p2 (((p4.toUInt32 >>> ((2 : Int32) &&& 31).toUInt32).toInt32) &&& (3 : Int32))) G_COMPACT_STRINGS T113.heap n0 (Nat.le_trans Z0 le143) f129 S_high f130 S_cache BX_G_cache f131 f132 f133 f134 f135 f136 (own_TB _ _) f137 f138 f139 f140 f141 f142 S_COMPACT_STRINGS hP_2 (own_TS _ _) ge108) hZ113 (wd_52 hw) (wd_13 hw) (by decide) (by decide)) q144a q144c (by rw [hml]; rfl) [] (lenOf pd_17 rfl) rfl (Nat.le_of_eq rfl) (hb hby at_24) (fun _ _ => ⟨rfl, rfl, (by decide : 34 + 3 ≤ _), (by decide : 108 + 6 ≤ _)⟩) (pc' := 27) rfl ?_
     rintro _ _ ⟨T144, L144, k144, n144⟩ X144 ⟨Lc144, hQ144, l144, y144, z144⟩
     dsimp only [Pt.U, Pt.locs, Pt.cells, Pt.slots] at X144 l144 y144 z144 hQ144 ⊢
     subst l144 y144 z144
     obtain ⟨rfl, N144q, K144, g144_0, g144_1, g144_2, g144_3, g144_4⟩ := hQ144
     have N146 := Fr.app N117 N144q
     have y147 : Safe Z EL T113.vm T113.heap s1_20 := (CHr.safe A113 (Nat.lt_of_lt_of_le g20_9.lt (Nat.le_refl _)) g20_8)
     have C148 : CHr Z EL s.vm h0 T113.vm T144.heap := C118.trans (CHr.keep K144 (sfS y147 sf0) C118.1)
     have K149 : Keep h0 T144.heap [] := K119.trans K144 (allS (Or.inr sz109) (all0 (P := fun x => x ∈ [] ∨ h0.size ≤ x)))
     show Runs _ _ _ _ (T144.setTop (mkF m 27 #[.val (.int p0), .val (.int p1), .val (.int p2), .val (.long q3), .second, .val (.int p4), .val (.ref r_20), .val (.ref r_113), .unset, .unset, .unset, .unset] [(.int (((31 : Int32) * (((31 : Int32) * (((31 : Int32) * ((31 : Int32) + p0)) + (0 : Int32))) + (hS (tl p2 (((p4.toUInt32 >>> ((2 : Int32) &&& 31).toUInt32).toInt32) &&& (3 : Int32)))))) + (hB (bl q3 (((p4.toUInt32 >>> ((4 : Int32) &&& 31).toUInt32).toInt32) &&& (3 : Int32))))))]))
     refine w_istore X144 hx (hb hby at_27) (L' := #[.val (.int p0), .val (.int p1), .val (.int p2), .val (.long q3), .second, .val (.int p4), .val (.ref r_20), .val (.ref r_113), .val (.int (((31 : Int32) * (((31 : Int32) * (((31 : Int32) * ((31 : Int32) + p0)) + (0 : Int32))) + (hS (tl p2 (((p4.toUInt32 >>> ((2 : Int32) &&& 31).toUInt32).toInt32) &&& (3 : Int32)))))) + (hB (bl q3 (((p4.toUInt32 >>> ((4 : Int32) &&& 31).toUInt32).toInt32) &&& (3 : Int32)))))), .unset, .unset, .unset]) rfl (pc' := 29) rfl ?_
     refine w_aload X144 hx (hb hby at_29) rfl rfl (pc' := 31) rfl ?_
     have ne154 : s1_20 ≠ r_113 := (Nat.ne_of_lt (Nat.lt_of_lt_of_le g20_9.lt (Nat.le_trans (Nat.le_refl _) g113_2)))
     have f155 : Fld Z T144.heap r_113 kc1 "status" "I" (.int p0) := (g113_4.keep K144 (ninS (Ne.symm ne154) nin0))
     have f156 : Old Z n0 T144.heap := (f130.keep K144 (allS ge108 all0))
     have f157 : Fld Z T144.heap r_113 kc1 "contentType" "Ljava/lang/String;" .null := (g113_5.keep K144 (ninS (Ne.symm ne154) nin0))
     have f158 : Fld Z T144.heap r_113 kc1 "location" "Ljava/lang/String;" (.ref s1_113) := (g113_6.keep K144 (ninS (Ne.symm ne154) nin0))
     have f159 : Exa Z T144.heap s1_113 kc0 := (g113_9.keep K144)
     have f160 : Fld Z T144.heap r_113 kc1 "body" "[B" (.ref bd_113) := (g113_16.keep K144 (ninS (Ne.symm ne154) nin0))
     have ne161 : s1_20 ≠ bd_113 := (Nat.ne_of_lt (Nat.lt_of_lt_of_le g20_9.lt (Nat.le_trans (Nat.le_refl _) g113_17)))
     have f162 : Arv Z T144.heap bd_113 kb_113 .byte (bn (((p4.toUInt32 >>> ((4 : Int32) &&& 31).toUInt32).toInt32) &&& (3 : Int32))) (mI (bl q3 (((p4.toUInt32 >>> ((4 : Int32) &&& 31).toUInt32).toInt32) &&& (3 : Int32)))) (.int (0 : Int32)) := (g113_20.keep K144 (ninS (Ne.symm ne161) nin0))
     have f163 : Exa Z T144.heap bd_113 "[B" := (g113_19.keep K144)
     have ne164 : s1_20 ≠ s1_113 := (Nat.ne_of_lt (Nat.lt_of_lt_of_le g20_9.lt (Nat.le_trans (Nat.le_refl _) g113_7)))
     have f165 : Fld Z T144.heap s1_113 kc0 "hash" "I" (.int (0 : Int32)) := (g113_12.keep K144 (ninS (Ne.symm ne164) nin0))
     have f166 : Fld Z T144.heap s1_113 kc0 "hashIsZero" "Z" (.int (0 : Int32)) := (g113_13.keep K144 (ninS (Ne.symm ne164) nin0))
     have f167 : Fld Z T144.heap s1_113 kc0 "coder" "B" (.int (0 : Int32)) := (g113_10.keep K144 (ninS (Ne.symm ne164) nin0))
     have f168 : Fld Z T144.heap s1_113 kc0 "value" "[B" (.ref t1_113) := (g113_11.keep K144 (ninS (Ne.symm ne164) nin0))
     have ne169 : s1_20 ≠ t1_113 := Exa.neArv (g20_9.keep K113) g113_15 (wd_28 hw)
     have f170 : Arv Z T144.heap t1_113 k1_113 .byte (tn (((p4.toUInt32 >>> ((2 : Int32) &&& 31).toUInt32).toInt32) &&& (3 : Int32))) (mI (tl p2 (((p4.toUInt32 >>> ((2 : Int32) &&& 31).toUInt32).toInt32) &&& (3 : Int32)))) (.int (0 : Int32)) := (g113_15.keep K144 (ninS (Ne.symm ne169) nin0))
     have f171 : EB Z T144.heap t1_113 (tn (((p4.toUInt32 >>> ((2 : Int32) &&& 31).toUInt32).toInt32) &&& (3 : Int32))) := (g113_14.keep K144)
     have le172 : h0.size ≤ T144.heap.size := (Nat.le_trans le143 K144.1)
     have f174 : Exa Z T144.heap r_113 kc1 := (g113_3.keep K144)
     obtain ⟨cq173, kq173, q173a, q173b, q173c⟩ := isOf hZ113 rfl f174
     refine w_virtual X144 hx (y := yn_7) (z := yn_7) hown113 (mvT hZ113 (wd_48 hw)) (mvT hZ113 (wd_49 hw)) (notFace_of_selects (args := #[]) (mvT hZ113 (wd_51 hw))) (mvT hZ113 (wd_51 hw)) (mvT hZ113 (wd_50 hw)) (by decide) (backOf (W := 0) (rm_m7_47 l Z aZ hw [] r_113 p0 G_cache bxc_G_cache s1_113 bd_113 kb_113 (bn (((p4.toUInt32 >>> ((4 : Int32) &&& 31).toUInt32).toInt32) &&& (3 : Int32))) (bl q3 (((p4.toUInt32 >>> ((4 : Int32) &&& 31).toUInt32).toInt32) &&& (3 : Int32))) t1_113 k1_113 (tn (((p4.toUInt32 >>> ((2 : Int32) &&& 31).toUInt32).toInt32) &&& (3 : Int32))) (tl p2 (((p4.toUInt32 >>> ((2 : Int32) &&& 31).toUInt32).toInt32) &&& (3 : Int32))) G_COMPACT_STRINGS T144.heap n0 (Nat.le_trans Z0 le172) f155 S_high f156 S_cache BX_G_cache f157 f158 f159 f160 f162 f163 (own_TB _ _) f165 f166 f167 f168 f170 f171 S_COMPACT_STRINGS hP_2 (own_TS _ _) ge122) hZ113 (wd_52 hw) (wd_13 hw) (by decide) (by decide)) q173a q173c (by rw [hml]; rfl) [] (lenOf pd_17 rfl) rfl (Nat.le_of_eq rfl) (hb hby at_31) (fun _ _ => ⟨rfl, rfl, (by decide : 37 + 3 ≤ _), (by decide : 114 + 6 ≤ _)⟩) (pc' := 34) rfl ?_
     rintro _ _ ⟨T173, L173, k173, n173⟩ X173 ⟨Lc173, hQ173, l173, y173, z173⟩
     dsimp only [Pt.U, Pt.locs, Pt.cells, Pt.slots] at X173 l173 y173 z173 hQ173 ⊢
     subst l173 y173 z173
     obtain ⟨rfl, N173q, K173, g173_0, g173_1, g173_2, g173_3, g173_4⟩ := hQ173
     have N175 := Fr.app N146 N173q
     have y176 : Safe Z EL T113.vm T144.heap s1_113 := (Safe.keep K144 (sfS y147 sf0) C118.1 g113_8)
     have C177 : CHr Z EL s.vm h0 T113.vm T173.heap := C148.trans (CHr.keep K173 (sfS y176 sf0) C148.1)
     have K178 : Keep h0 T173.heap [] := K149.trans K173 (allS (Or.inr sz123) (all0 (P := fun x => x ∈ [] ∨ h0.size ≤ x)))
     show Runs _ _ _ _ (T173.setTop (mkF m 34 #[.val (.int p0), .val (.int p1), .val (.int p2), .val (.long q3), .second, .val (.int p4), .val (.ref r_20), .val (.ref r_113), .val (.int (((31 : Int32) * (((31 : Int32) * (((31 : Int32) * ((31 : Int32) + p0)) + (0 : Int32))) + (hS (tl p2 (((p4.toUInt32 >>> ((2 : Int32) &&& 31).toUInt32).toInt32) &&& (3 : Int32)))))) + (hB (bl q3 (((p4.toUInt32 >>> ((4 : Int32) &&& 31).toUInt32).toInt32) &&& (3 : Int32)))))), .unset, .unset, .unset] [(.int (((31 : Int32) * (((31 : Int32) * (((31 : Int32) * ((31 : Int32) + p0)) + (0 : Int32))) + (hS (tl p2 (((p4.toUInt32 >>> ((2 : Int32) &&& 31).toUInt32).toInt32) &&& (3 : Int32)))))) + (hB (bl q3 (((p4.toUInt32 >>> ((4 : Int32) &&& 31).toUInt32).toInt32) &&& (3 : Int32))))))]))
     refine w_istore X173 hx (hb hby at_34) (L' := #[.val (.int p0), .val (.int p1), .val (.int p2), .val (.long q3), .second, .val (.int p4), .val (.ref r_20), .val (.ref r_113), .val (.int (((31 : Int32) * (((31 : Int32) * (((31 : Int32) * ((31 : Int32) + p0)) + (0 : Int32))) + (hS (tl p2 (((p4.toUInt32 >>> ((2 : Int32) &&& 31).toUInt32).toInt32) &&& (3 : Int32)))))) + (hB (bl q3 (((p4.toUInt32 >>> ((4 : Int32) &&& 31).toUInt32).toInt32) &&& (3 : Int32)))))), .val (.int (((31 : Int32) * (((31 : Int32) * (((31 : Int32) * ((31 : Int32) + p0)) + (0 : Int32))) + (hS (tl p2 (((p4.toUInt32 >>> ((2 : Int32) &&& 31).toUInt32).toInt32) &&& (3 : Int32)))))) + (hB (bl q3 (((p4.toUInt32 >>> ((4 : Int32) &&& 31).toUInt32).toInt32) &&& (3 : Int32)))))), .unset, .unset]) rfl (pc' := 36) rfl ?_
     refine w_aload X173 hx (hb hby at_36) rfl rfl (pc' := 38) rfl ?_
     have f200 : Exa Z T173.heap r_20 kc1 := ((f145.keep K144).keep K173)
     have f201 : Exa Z T173.heap s1_20 kc0 := (g144_0.keep K173)
     have ne199 : r_20 ≠ s1_20 := ne_exa f200 f201 (by decide)
     have ne202 : r_20 ≠ s1_113 := (Nat.ne_of_lt (Nat.lt_of_lt_of_le g20_3.lt (Nat.le_trans (Nat.le_refl _) g113_7)))
     have f203 : Fld Z T173.heap r_20 kc1 "status" "I" (.int p0) := ((f129.keep K144 (ninS ne199 nin0)).keep K173 (ninS ne202 nin0))
     have f204 : Old Z n0 T173.heap := (f156.keep K173 (allS ge122 all0))
     have f205 : Fld Z T173.heap r_20 kc1 "contentType" "Ljava/lang/String;" .null := ((f131.keep K144 (ninS ne199 nin0)).keep K173 (ninS ne202 nin0))
     have f206 : Fld Z T173.heap r_20 kc1 "location" "Ljava/lang/String;" (.ref s1_20) := ((f132.keep K144 (ninS ne199 nin0)).keep K173 (ninS ne202 nin0))
     have f207 : Fld Z T173.heap r_20 kc1 "body" "[B" (.ref bd_20) := ((f134.keep K144 (ninS ne199 nin0)).keep K173 (ninS ne202 nin0))
     have f209 : Exa Z T173.heap bd_20 "[B" := ((f136.keep K144).keep K173)
     have ne208 : bd_20 ≠ s1_20 := ne_exa f209 f201 (by decide)
     have ne210 : bd_20 ≠ s1_113 := (Nat.ne_of_lt (Nat.lt_of_lt_of_le g20_19.lt (Nat.le_trans (Nat.le_refl _) g113_7)))
     have f211 : Arv Z T173.heap bd_20 kb_20 .byte (bn (((p4.toUInt32 >>> ((4 : Int32) &&& 31).toUInt32).toInt32) &&& (3 : Int32))) (mI (bl q3 (((p4.toUInt32 >>> ((4 : Int32) &&& 31).toUInt32).toInt32) &&& (3 : Int32)))) (.int (0 : Int32)) := ((f135.keep K144 (ninS ne208 nin0)).keep K173 (ninS ne210 nin0))
     have f212 : Fld Z T173.heap s1_20 kc0 "hash" "I" (.int (hS (tl p2 (((p4.toUInt32 >>> ((2 : Int32) &&& 31).toUInt32).toInt32) &&& (3 : Int32))))) := (g144_1.keep K173 (ninS ne164 nin0))
     have f213 : Fld Z T173.heap s1_20 kc0 "hashIsZero" "Z" (.int (if (hS (tl p2 (((p4.toUInt32 >>> ((2 : Int32) &&& 31).toUInt32).toInt32) &&& (3 : Int32)))) = (0 : Int32) then (1 : Int32) else (0 : Int32))) := (g144_2.keep K173 (ninS ne164 nin0))
     have f214 : Fld Z T173.heap s1_20 kc0 "coder" "B" (.int (0 : Int32)) := (g144_3.keep K173 (ninS ne164 nin0))
     have f215 : Fld Z T173.heap s1_20 kc0 "value" "[B" (.ref t1_20) := (g144_4.keep K173 (ninS ne164 nin0))
     have ne216 : s1_20 ≠ t1_20 := Exa.neArv (g20_9.keep K113) f141 (wd_28 hw)
     have ne217 : s1_113 ≠ t1_20 := Exa.neArv g113_9 f141 (wd_28 hw)
     have f218 : Arv Z T173.heap t1_20 k1_20 .byte (tn (((p4.toUInt32 >>> ((2 : Int32) &&& 31).toUInt32).toInt32) &&& (3 : Int32))) (mI (tl p2 (((p4.toUInt32 >>> ((2 : Int32) &&& 31).toUInt32).toInt32) &&& (3 : Int32)))) (.int (0 : Int32)) := ((f141.keep K144 (ninS (Ne.symm ne216) nin0)).keep K173 (ninS (Ne.symm ne217) nin0))
     have f219 : EB Z T173.heap t1_20 (tn (((p4.toUInt32 >>> ((2 : Int32) &&& 31).toUInt32).toInt32) &&& (3 : Int32))) := ((f142.keep K144).keep K173)
     have le220 : h0.size ≤ T173.heap.size := (Nat.le_trans le172 K173.1)
     obtain ⟨cq221, kq221, q221a, q221b, q221c⟩ := isOf hZ113 rfl f200
     refine w_virtual X173 hx (y := yn_7) (z := yn_7) hown113 (mvT hZ113 (wd_48 hw)) (mvT hZ113 (wd_49 hw)) (notFace_of_selects (args := #[]) (mvT hZ113 (wd_51 hw))) (mvT hZ113 (wd_51 hw)) (mvT hZ113 (wd_50 hw)) (by decide) (backOf (W := 0) (rm_m7_55 l Z aZ hw [] r_20 p0 G_cache bxc_G_cache s1_20 bd_20 kb_20 (bn (((p4.toUInt32 >>> ((4 : Int32) &&& 31).toUInt32).toInt32) &&& (3 : Int32))) (bl q3 (((p4.toUInt32 >>> ((4 : Int32) &&& 31).toUInt32).toInt32) &&& (3 : Int32))) (hS (tl p2 (((p4.toUInt32 >>> ((2 : Int32) &&& 31).toUInt32).toInt32) &&& (3 : Int32)))) (if (hS (tl p2 (((p4.toUInt32 >>> ((2 : Int32) &&& 31).toUInt32).toInt32) &&& (3 : Int32)))) = (0 : Int32) then (1 : Int32) else (0 : Int32)) t1_20 k1_20 (tn (((p4.toUInt32 >>> ((2 : Int32) &&& 31).toUInt32).toInt32) &&& (3 : Int32))) (tl p2 (((p4.toUInt32 >>> ((2 : Int32) &&& 31).toUInt32).toInt32) &&& (3 : Int32))) G_COMPACT_STRINGS T173.heap n0 (Nat.le_trans Z0 le220) f203 S_high f204 S_cache BX_G_cache f205 f206 f201 f207 f211 f209 (own_TB _ _) f212 f213 f214 f215 f218 f219 S_COMPACT_STRINGS hP_2 (own_TS _ _) ge108 (Or.inr ⟨rfl, rfl⟩)) hZ113 (wd_52 hw) (wd_13 hw) (by decide) (by decide)) q221a q221c (by rw [hml]; rfl) [] (lenOf pd_17 rfl) rfl (Nat.le_of_eq rfl) (hb hby at_38) (fun _ _ => ⟨rfl, rfl, (by decide : 40 + 3 ≤ _), (by decide : 120 + 6 ≤ _)⟩) (pc' := 41) rfl ?_
     rintro _ _ ⟨T221, L221, k221, n221⟩ X221 ⟨Lc221, hQ221, l221, y221, z221⟩
     dsimp only [Pt.U, Pt.locs, Pt.cells, Pt.slots] at X221 l221 y221 z221 hQ221 ⊢
     subst l221 y221 z221
     obtain ⟨rfl, N221q, K221, g221_0, g221_1, g221_2, g221_3, g221_4⟩ := hQ221
     have N222 := Fr.app N175 N221q
     have y223 : Safe Z EL T113.vm T173.heap s1_20 := (Safe.keep K173 (sfS y176 sf0) C148.1 (Safe.keep K144 (sfS y147 sf0) C118.1 y147))
     have C224 : CHr Z EL s.vm h0 T113.vm T221.heap := C177.trans (CHr.keep K221 (sfS y223 sf0) C177.1)
     have K225 : Keep h0 T221.heap [] := K178.trans K221 (allS (Or.inr sz109) (all0 (P := fun x => x ∈ [] ∨ h0.size ≤ x)))
     show Runs _ _ _ _ (T221.setTop (mkF m 41 #[.val (.int p0), .val (.int p1), .val (.int p2), .val (.long q3), .second, .val (.int p4), .val (.ref r_20), .val (.ref r_113), .val (.int (((31 : Int32) * (((31 : Int32) * (((31 : Int32) * ((31 : Int32) + p0)) + (0 : Int32))) + (hS (tl p2 (((p4.toUInt32 >>> ((2 : Int32) &&& 31).toUInt32).toInt32) &&& (3 : Int32)))))) + (hB (bl q3 (((p4.toUInt32 >>> ((4 : Int32) &&& 31).toUInt32).toInt32) &&& (3 : Int32)))))), .val (.int (((31 : Int32) * (((31 : Int32) * (((31 : Int32) * ((31 : Int32) + p0)) + (0 : Int32))) + (hS (tl p2 (((p4.toUInt32 >>> ((2 : Int32) &&& 31).toUInt32).toInt32) &&& (3 : Int32)))))) + (hB (bl q3 (((p4.toUInt32 >>> ((4 : Int32) &&& 31).toUInt32).toInt32) &&& (3 : Int32)))))), .unset, .unset] [(.int (((31 : Int32) * (((31 : Int32) * (((31 : Int32) * ((31 : Int32) + p0)) + (0 : Int32))) + (hS (tl p2 (((p4.toUInt32 >>> ((2 : Int32) &&& 31).toUInt32).toInt32) &&& (3 : Int32)))))) + (hB (bl q3 (((p4.toUInt32 >>> ((4 : Int32) &&& 31).toUInt32).toInt32) &&& (3 : Int32))))))]))
     refine w_istore X221 hx (hb hby at_41) (L' := #[.val (.int p0), .val (.int p1), .val (.int p2), .val (.long q3), .second, .val (.int p4), .val (.ref r_20), .val (.ref r_113), .val (.int (((31 : Int32) * (((31 : Int32) * (((31 : Int32) * ((31 : Int32) + p0)) + (0 : Int32))) + (hS (tl p2 (((p4.toUInt32 >>> ((2 : Int32) &&& 31).toUInt32).toInt32) &&& (3 : Int32)))))) + (hB (bl q3 (((p4.toUInt32 >>> ((4 : Int32) &&& 31).toUInt32).toInt32) &&& (3 : Int32)))))), .val (.int (((31 : Int32) * (((31 : Int32) * (((31 : Int32) * ((31 : Int32) + p0)) + (0 : Int32))) + (hS (tl p2 (((p4.toUInt32 >>> ((2 : Int32) &&& 31).toUInt32).toInt32) &&& (3 : Int32)))))) + (hB (bl q3 (((p4.toUInt32 >>> ((4 : Int32) &&& 31).toUInt32).toInt32) &&& (3 : Int32)))))), .val (.int (((31 : Int32) * (((31 : Int32) * (((31 : Int32) * ((31 : Int32) + p0)) + (0 : Int32))) + (hS (tl p2 (((p4.toUInt32 >>> ((2 : Int32) &&& 31).toUInt32).toInt32) &&& (3 : Int32)))))) + (hB (bl q3 (((p4.toUInt32 >>> ((4 : Int32) &&& 31).toUInt32).toInt32) &&& (3 : Int32)))))), .unset]) rfl (pc' := 43) rfl ?_
     refine w_aload X221 hx (hb hby at_43) rfl rfl (pc' := 45) rfl ?_
     refine w_aload X221 hx (hb hby at_45) rfl rfl (pc' := 47) rfl ?_
     have f233 : Exa Z T221.heap r_113 kc1 := ((f174.keep K173).keep K221)
     have f234 : Fld Z T221.heap r_20 kc1 "status" "I" (.int p0) := (f203.keep K221 (ninS ne199 nin0))
     have f236 : Exa Z T221.heap s1_113 kc0 := (g173_0.keep K221)
     have ne235 : r_113 ≠ s1_113 := ne_exa f233 f236 (by decide)
     have f237 : Fld Z T221.heap r_113 kc1 "status" "I" (.int p0) := ((f155.keep K173 (ninS ne235 nin0)).keep K221 (ninS (Ne.symm ne154) nin0))
     have f238 : Fld Z T221.heap r_20 kc1 "contentType" "Ljava/lang/String;" .null := (f205.keep K221 (ninS ne199 nin0))
     have f239 : Fld Z T221.heap r_113 kc1 "contentType" "Ljava/lang/String;" .null := ((f157.keep K173 (ninS ne235 nin0)).keep K221 (ninS (Ne.symm ne154) nin0))
     have f240 : Fld Z T221.heap r_20 kc1 "location" "Ljava/lang/String;" (.ref s1_20) := (f206.keep K221 (ninS ne199 nin0))
     have f241 : Fld Z T221.heap r_113 kc1 "location" "Ljava/lang/String;" (.ref s1_113) := ((f158.keep K173 (ninS ne235 nin0)).keep K221 (ninS (Ne.symm ne154) nin0))
     have f242 : Fld Z T221.heap s1_113 kc0 "coder" "B" (.int (0 : Int32)) := (g173_3.keep K221 (ninS (Ne.symm ne164) nin0))
     have f243 : Fld Z T221.heap s1_113 kc0 "value" "[B" (.ref t1_113) := (g173_4.keep K221 (ninS (Ne.symm ne164) nin0))
     have f244 : Arv Z T221.heap t1_20 k1_20 .byte (tn (((p4.toUInt32 >>> ((2 : Int32) &&& 31).toUInt32).toInt32) &&& (3 : Int32))) (mI (tl p2 (((p4.toUInt32 >>> ((2 : Int32) &&& 31).toUInt32).toInt32) &&& (3 : Int32)))) (.int (0 : Int32)) := (f218.keep K221 (ninS (Ne.symm ne216) nin0))
     have ne245 : s1_113 ≠ t1_113 := Exa.neArv (g113_9.keep K144) f170 (wd_28 hw)
     have f246 : Arv Z T221.heap t1_113 k1_113 .byte (tn (((p4.toUInt32 >>> ((2 : Int32) &&& 31).toUInt32).toInt32) &&& (3 : Int32))) (mI (tl p2 (((p4.toUInt32 >>> ((2 : Int32) &&& 31).toUInt32).toInt32) &&& (3 : Int32)))) (.int (0 : Int32)) := ((f170.keep K173 (ninS (Ne.symm ne245) nin0)).keep K221 (ninS (Ne.symm ne169) nin0))
     have f247 : Old Z n0 T221.heap := (f204.keep K221 (allS ge108 all0))
     have f248 : Fld Z T221.heap r_20 kc1 "body" "[B" (.ref bd_20) := (f207.keep K221 (ninS ne199 nin0))
     have f249 : Fld Z T221.heap r_113 kc1 "body" "[B" (.ref bd_113) := ((f160.keep K173 (ninS ne235 nin0)).keep K221 (ninS (Ne.symm ne154) nin0))
     have f250 : Arv Z T221.heap bd_20 kb_20 .byte (bn (((p4.toUInt32 >>> ((4 : Int32) &&& 31).toUInt32).toInt32) &&& (3 : Int32))) (mI (bl q3 (((p4.toUInt32 >>> ((4 : Int32) &&& 31).toUInt32).toInt32) &&& (3 : Int32)))) (.int (0 : Int32)) := (f211.keep K221 (ninS ne208 nin0))
     have f252 : Exa Z T221.heap bd_113 "[B" := ((f163.keep K173).keep K221)
     have ne251 : bd_113 ≠ s1_113 := ne_exa f252 f236 (by decide)
     have f253 : Arv Z T221.heap bd_113 kb_113 .byte (bn (((p4.toUInt32 >>> ((4 : Int32) &&& 31).toUInt32).toInt32) &&& (3 : Int32))) (mI (bl q3 (((p4.toUInt32 >>> ((4 : Int32) &&& 31).toUInt32).toInt32) &&& (3 : Int32)))) (.int (0 : Int32)) := ((f162.keep K173 (ninS ne251 nin0)).keep K221 (ninS (Ne.symm ne161) nin0))
     have ne254 : bd_20 ≠ bd_113 := (Nat.ne_of_lt (Nat.lt_of_lt_of_le g20_19.lt (Nat.le_trans (Nat.le_refl _) g113_17)))
     have le255 : h0.size ≤ T221.heap.size := (Nat.le_trans le220 K221.1)
     have f257 : Exa Z T221.heap r_20 kc1 := (f200.keep K221)
     obtain ⟨cq256, kq256, q256a, q256b, q256c⟩ := isOf hZ113 rfl f257
     refine w_virtual X221 hx (y := yn_14) (z := yn_14) hown113 (mvT hZ113 (wd_84 hw)) (mvT hZ113 (wd_85 hw)) (notFace_of_selects (args := #[]) (mvT hZ113 (wd_87 hw))) (mvT hZ113 (wd_87 hw)) (mvT hZ113 (wd_86 hw)) (by decide) (backOf (W := 0) (rm_m14_59 l Z aZ hw [] r_20 r_113 p0 s1_20 s1_113 t1_20 t1_113 k1_20 (tn (((p4.toUInt32 >>> ((2 : Int32) &&& 31).toUInt32).toInt32) &&& (3 : Int32))) (tl p2 (((p4.toUInt32 >>> ((2 : Int32) &&& 31).toUInt32).toInt32) &&& (3 : Int32))) k1_113 G_COMPACT_STRINGS bd_20 bd_113 kb_20 (bn (((p4.toUInt32 >>> ((4 : Int32) &&& 31).toUInt32).toInt32) &&& (3 : Int32))) (bl q3 (((p4.toUInt32 >>> ((4 : Int32) &&& 31).toUInt32).toInt32) &&& (3 : Int32))) kb_113 T221.heap n0 (Nat.le_trans Z0 le255) f233 f234 f237 f238 f239 f240 f241 g221_0 f236 g221_3 f242 g221_4 f243 f244 f246 S_COMPACT_STRINGS f247 ne164 hP_2 (own_TS _ _) f248 f249 f250 f253 (own_TB _ _) ne254) hZ113 (wd_88 hw) (wd_13 hw) (by decide) (by decide)) q256a q256c (by rw [hml]; rfl) [(.ref r_113)] (lenOf pd_22 rfl) rfl (Nat.le_of_eq rfl) (hb hby at_47) (fun _ _ => ⟨rfl, rfl, (by decide : 43 + 0 ≤ _), (by decide : 126 + 0 ≤ _)⟩) (pc' := 50) rfl ?_
     rintro _ _ ⟨T256, L256, k256, n256⟩ X256 ⟨Lc256, hQ256, l256, y256, z256⟩
     dsimp only [Pt.U, Pt.locs, Pt.cells, Pt.slots] at X256 l256 y256 z256 hQ256 ⊢
     subst l256 y256 z256
     obtain ⟨rfl, N256q, e256⟩ := hQ256
     have N258 := Fr.app N222 N256q
     show Runs _ _ _ _ (T256.setTop (mkF m 50 #[.val (.int p0), .val (.int p1), .val (.int p2), .val (.long q3), .second, .val (.int p4), .val (.ref r_20), .val (.ref r_113), .val (.int (((31 : Int32) * (((31 : Int32) * (((31 : Int32) * ((31 : Int32) + p0)) + (0 : Int32))) + (hS (tl p2 (((p4.toUInt32 >>> ((2 : Int32) &&& 31).toUInt32).toInt32) &&& (3 : Int32)))))) + (hB (bl q3 (((p4.toUInt32 >>> ((4 : Int32) &&& 31).toUInt32).toInt32) &&& (3 : Int32)))))), .val (.int (((31 : Int32) * (((31 : Int32) * (((31 : Int32) * ((31 : Int32) + p0)) + (0 : Int32))) + (hS (tl p2 (((p4.toUInt32 >>> ((2 : Int32) &&& 31).toUInt32).toInt32) &&& (3 : Int32)))))) + (hB (bl q3 (((p4.toUInt32 >>> ((4 : Int32) &&& 31).toUInt32).toInt32) &&& (3 : Int32)))))), .val (.int (((31 : Int32) * (((31 : Int32) * (((31 : Int32) * ((31 : Int32) + p0)) + (0 : Int32))) + (hS (tl p2 (((p4.toUInt32 >>> ((2 : Int32) &&& 31).toUInt32).toInt32) &&& (3 : Int32)))))) + (hB (bl q3 (((p4.toUInt32 >>> ((4 : Int32) &&& 31).toUInt32).toInt32) &&& (3 : Int32)))))), .unset] [(.int (1 : Int32))]))
     refine w_istore X256 hx (hb hby at_50) (L' := #[.val (.int p0), .val (.int p1), .val (.int p2), .val (.long q3), .second, .val (.int p4), .val (.ref r_20), .val (.ref r_113), .val (.int (((31 : Int32) * (((31 : Int32) * (((31 : Int32) * ((31 : Int32) + p0)) + (0 : Int32))) + (hS (tl p2 (((p4.toUInt32 >>> ((2 : Int32) &&& 31).toUInt32).toInt32) &&& (3 : Int32)))))) + (hB (bl q3 (((p4.toUInt32 >>> ((4 : Int32) &&& 31).toUInt32).toInt32) &&& (3 : Int32)))))), .val (.int (((31 : Int32) * (((31 : Int32) * (((31 : Int32) * ((31 : Int32) + p0)) + (0 : Int32))) + (hS (tl p2 (((p4.toUInt32 >>> ((2 : Int32) &&& 31).toUInt32).toInt32) &&& (3 : Int32)))))) + (hB (bl q3 (((p4.toUInt32 >>> ((4 : Int32) &&& 31).toUInt32).toInt32) &&& (3 : Int32)))))), .val (.int (((31 : Int32) * (((31 : Int32) * (((31 : Int32) * ((31 : Int32) + p0)) + (0 : Int32))) + (hS (tl p2 (((p4.toUInt32 >>> ((2 : Int32) &&& 31).toUInt32).toInt32) &&& (3 : Int32)))))) + (hB (bl q3 (((p4.toUInt32 >>> ((4 : Int32) &&& 31).toUInt32).toInt32) &&& (3 : Int32)))))), .val (.int (1 : Int32))]) rfl (pc' := 52) rfl ?_
     refine w_iload X256 hx (hb hby at_52) rfl (pc' := 54) rfl ?_
     refine w_iload X256 hx (hb hby at_54) rfl (pc' := 56) rfl ?_
     refine w_icN X256 hx (hb hby at_56) (teq (rfl : (((31 : Int32) * (((31 : Int32) * (((31 : Int32) * ((31 : Int32) + p0)) + (0 : Int32))) + (hS (tl p2 (((p4.toUInt32 >>> ((2 : Int32) &&& 31).toUInt32).toInt32) &&& (3 : Int32)))))) + (hB (bl q3 (((p4.toUInt32 >>> ((4 : Int32) &&& 31).toUInt32).toInt32) &&& (3 : Int32))))) = (((31 : Int32) * (((31 : Int32) * (((31 : Int32) * ((31 : Int32) + p0)) + (0 : Int32))) + (hS (tl p2 (((p4.toUInt32 >>> ((2 : Int32) &&& 31).toUInt32).toInt32) &&& (3 : Int32)))))) + (hB (bl q3 (((p4.toUInt32 >>> ((4 : Int32) &&& 31).toUInt32).toInt32) &&& (3 : Int32))))))).2 (pc' := 59) rfl ?_
     refine w_iload X256 hx (hb hby at_59) rfl (pc' := 61) rfl ?_
     refine w_ifN X256 hx (hb hby at_61) (feq (by decide : ¬ ((1 : Int32) = (0 : Int32)))).1 (pc' := 64) rfl ?_
     refine w_iload X256 hx (hb hby at_64) rfl (pc' := 66) rfl ?_
     refine w_iload X256 hx (hb hby at_66) rfl (pc' := 68) rfl ?_
     refine w_icN X256 hx (hb hby at_68) (teq (rfl : (((31 : Int32) * (((31 : Int32) * (((31 : Int32) * ((31 : Int32) + p0)) + (0 : Int32))) + (hS (tl p2 (((p4.toUInt32 >>> ((2 : Int32) &&& 31).toUInt32).toInt32) &&& (3 : Int32)))))) + (hB (bl q3 (((p4.toUInt32 >>> ((4 : Int32) &&& 31).toUInt32).toInt32) &&& (3 : Int32))))) = (((31 : Int32) * (((31 : Int32) * (((31 : Int32) * ((31 : Int32) + p0)) + (0 : Int32))) + (hS (tl p2 (((p4.toUInt32 >>> ((2 : Int32) &&& 31).toUInt32).toInt32) &&& (3 : Int32)))))) + (hB (bl q3 (((p4.toUInt32 >>> ((4 : Int32) &&& 31).toUInt32).toInt32) &&& (3 : Int32))))))).2 (pc' := 71) rfl ?_
     refine w_iconst X256 hx (hb hby at_71) (v := (1 : Int32)) rfl (pc' := 72) rfl ?_
     refine w_goto X256 hx (hb hby at_72) (pc' := 76) (by decide) (by decide) ?_
     have le259 : T113.heap.size ≤ T173.heap.size := (Nat.le_trans K144.1 K173.1)
     have le260 : T113.heap.size ≤ T221.heap.size := (Nat.le_trans le259 K221.1)
     exact w_doneH X256 hlk (v := some (.int (1 : Int32))) e256 hh hZ113 (own_EW hw) hS113 (Nat.le_trans (Nat.le_refl _) le260) C224 (fun h => by rw [hret] at h; cases h) (fun fs hr => retN X256 hx (t := .boolean) hret (by simp) (hb hby at_76) hr) (by decide) (by decide) (fun hsy => ⟨rfl, N258⟩)
   · have N261 := Fr.app N103 N113q
     have C262 : CHr Z EL s.vm h0 T113.vm T113.heap := C104.trans A113
     have K263 : Keep h0 T113.heap [] := K105.trans K113 (all0 (P := fun x => x ∈ [] ∨ h0.size ≤ x))
     exact absurd g20_0 g113_0
   · have N264 := Fr.app N103 N113q
     have C265 : CHr Z EL s.vm h0 T113.vm T113.heap := C104.trans A113
     have K266 : Keep h0 T113.heap [] := K105.trans K113 (all0 (P := fun x => x ∈ [] ∨ h0.size ≤ x))
     exact absurd g20_0 g113_0
 · have N267 := Fr.app N0 N20q
   have C268 : CHr Z EL s.vm h0 T20.vm T20.heap := C0.trans A20
   have K269 : Keep h0 T20.heap [] := (Keep.refl h0 []).trans K20 (all0 (P := fun x => x ∈ [] ∨ h0.size ≤ x))
   have ge270 : n0 ≤ r_20 := Nat.le_trans Z0 g20_2
   have sz271 : h0.size ≤ r_20 := Nat.le_trans (Nat.le_refl _) g20_2
   have ge272 : n0 ≤ s0_20 := Nat.le_trans Z0 g20_6
   have sz273 : h0.size ≤ s0_20 := Nat.le_trans (Nat.le_refl _) g20_6
   have ge274 : n0 ≤ bd_20 := Nat.le_trans Z0 g20_17
   have sz275 : h0.size ≤ bd_20 := Nat.le_trans (Nat.le_refl _) g20_17
   show Runs _ _ _ _ (T20.setTop (mkF m 9 #[.val (.int p0), .val (.int p1), .val (.int p2), .val (.long q3), .second, .val (.int p4), .unset, .unset, .unset, .unset, .unset, .unset] [(.ref r_20)]))
   refine w_astore X20 hx (hb hby at_9) rfl (L' := #[.val (.int p0), .val (.int p1), .val (.int p2), .val (.long q3), .second, .val (.int p4), .val (.ref r_20), .unset, .unset, .unset, .unset, .unset]) rfl (pc' := 11) rfl ?_
   refine w_iloadN X20 hx (hb hby at_11) rfl (pc' := 12) rfl ?_
   refine w_iloadN X20 hx (hb hby at_12) rfl (pc' := 13) rfl ?_
   refine w_iloadN X20 hx (hb hby at_13) rfl (pc' := 14) rfl ?_
   refine w_lloadN X20 hx (hb hby at_14) rfl (pc' := 15) rfl ?_
   refine w_iload X20 hx (hb hby at_15) rfl (pc' := 17) rfl ?_
   have f276 : Old Z n0 T20.heap := (O0.keep K20 all0)
   refine w_staticS X20 hx (y := yn_1) hown20 (mvT hZ20 (wd_0 hw)) (mvT hZ20 (wd_1 hw)) (mvT hZ20 (wd_2 hw)) (mvT hZ20 (wd_3 hw)) (by decide) (backOfY (W := 0) (rm_m1_4 l Z aZ hw [] p0 p1 p2 q3 p4 G_COMPACT_STRINGS T20.heap n0 (Nat.le_trans Z0 K20.1) S_COMPACT_STRINGS f276 hP_2) hZ20 (wd_3 hw) (wd_2 hw) (by decide) (by decide) (own_EW hw) C268.1 sf0 all0) (by rw [hml]; rfl) [(.int p0), (.int p1), (.int p2), (.long q3), (.int p4)] (lenOf pd_9 rfl) rfl (Nat.le_of_eq rfl) (hb hby at_17) (fun _ _ => ⟨rfl, rfl, (by decide : 17 + 17 ≤ _), (by decide : 54 + 54 ≤ _)⟩) (pc' := 20) rfl ?_
   rintro _ _ ⟨T277, L277, k277, n277⟩ XX277 hSS277 hg277 ⟨Lc277, hQ277, l277, y277, z277, A277⟩
   dsimp only [Pt.U, Pt.locs, Pt.cells, Pt.slots] at XX277 l277 y277 z277 hQ277 hSS277 hg277 A277 ⊢
   subst l277 y277 z277
   obtain ⟨X277, hS277, hZ277, hown277⟩ := rebS hS20 (Nat.le_refl _) XX277 hSS277 hg277 hZ20 hown20
   rcases hQ277 with ⟨r_277, bd_277, kb_277, rfl, N277q, K277, g277_0, g277_1, g277_2, g277_3, g277_4, g277_5, g277_6, g277_7, g277_8, g277_9, g277_10, g277_11⟩ | ⟨r_277, bd_277, kb_277, s1_277, t1_277, k1_277, rfl, N277q, K277, g277_0, g277_1, g277_2, g277_3, g277_4, g277_5, g277_6, g277_7, g277_8, g277_9, g277_10, g277_11, g277_12, g277_13, g277_14, g277_15, g277_16, g277_17, g277_18, g277_19, g277_20⟩ | ⟨r_277, bd_277, kb_277, s0_277, t0_277, k0_277, rfl, N277q, K277, g277_0, g277_1, g277_2, g277_3, g277_4, g277_5, g277_6, g277_7, g277_8, g277_9, g277_10, g277_11, g277_12, g277_13, g277_14, g277_15, g277_16, g277_17, g277_18, g277_19, g277_20⟩ | ⟨r_277, bd_277, kb_277, s0_277, t0_277, k0_277, s1_277, t1_277, k1_277, rfl, N277q, K277, g277_0, g277_1, g277_2, g277_3, g277_4, g277_5, g277_6, g277_7, g277_8, g277_9, g277_10, g277_11, g277_12, g277_13, g277_14, g277_15, g277_16, g277_17, g277_18, g277_19, g277_20, g277_21, g277_22, g277_23, g277_24, g277_25, g277_26, g277_27, g277_28, g277_29, g277_30⟩
   · have N278 := Fr.app N267 N277q
     have C279 : CHr Z EL s.vm h0 T277.vm T277.heap := C268.trans A277
     have K280 : Keep h0 T277.heap [] := K269.trans K277 (all0 (P := fun x => x ∈ [] ∨ h0.size ≤ x))
     exact absurd g277_0 g20_0
   · have N281 := Fr.app N267 N277q
     have C282 : CHr Z EL s.vm h0 T277.vm T277.heap := C268.trans A277
     have K283 : Keep h0 T277.heap [] := K269.trans K277 (all0 (P := fun x => x ∈ [] ∨ h0.size ≤ x))
     exact absurd g277_0 g20_0
   · have N284 := Fr.app N267 N277q
     have C285 : CHr Z EL s.vm h0 T277.vm T277.heap := C268.trans A277
     have K286 : Keep h0 T277.heap [] := K269.trans K277 (all0 (P := fun x => x ∈ [] ∨ h0.size ≤ x))
     have ge287 : n0 ≤ r_277 := Nat.le_trans (Nat.le_trans Z0 K20.1) g277_2
     have sz288 : h0.size ≤ r_277 := Nat.le_trans K20.1 g277_2
     have ge289 : n0 ≤ s0_277 := Nat.le_trans (Nat.le_trans Z0 K20.1) g277_6
     have sz290 : h0.size ≤ s0_277 := Nat.le_trans K20.1 g277_6
     have ge291 : n0 ≤ bd_277 := Nat.le_trans (Nat.le_trans Z0 K20.1) g277_17
     have sz292 : h0.size ≤ bd_277 := Nat.le_trans K20.1 g277_17
     show Runs _ _ _ _ (T277.setTop (mkF m 20 #[.val (.int p0), .val (.int p1), .val (.int p2), .val (.long q3), .second, .val (.int p4), .val (.ref r_20), .unset, .unset, .unset, .unset, .unset] [(.ref r_277)]))
     refine w_astore X277 hx (hb hby at_20) rfl (L' := #[.val (.int p0), .val (.int p1), .val (.int p2), .val (.long q3), .second, .val (.int p4), .val (.ref r_20), .val (.ref r_277), .unset, .unset, .unset, .unset]) rfl (pc' := 22) rfl ?_
     refine w_aload X277 hx (hb hby at_22) rfl rfl (pc' := 24) rfl ?_
     have f299 : Fld Z T277.heap r_20 kc1 "status" "I" (.int p0) := (g20_4.keep K277 nin0)
     have f300 : Old Z n0 T277.heap := (f276.keep K277 all0)
     have f301 : Fld Z T277.heap r_20 kc1 "contentType" "Ljava/lang/String;" (.ref s0_20) := (g20_5.keep K277 nin0)
     have f302 : Exa Z T277.heap s0_20 kc0 := (g20_8.keep K277)
     have f303 : Fld Z T277.heap r_20 kc1 "location" "Ljava/lang/String;" .null := (g20_15.keep K277 nin0)
     have f304 : Fld Z T277.heap r_20 kc1 "body" "[B" (.ref bd_20) := (g20_16.keep K277 nin0)
     have f305 : Arv Z T277.heap bd_20 kb_20 .byte (bn (((p4.toUInt32 >>> ((4 : Int32) &&& 31).toUInt32).toInt32) &&& (3 : Int32))) (mI (bl q3 (((p4.toUInt32 >>> ((4 : Int32) &&& 31).toUInt32).toInt32) &&& (3 : Int32)))) (.int (0 : Int32)) := (g20_20.keep K277 nin0)
     have f306 : Exa Z T277.heap bd_20 "[B" := (g20_19.keep K277)
     have f307 : Fld Z T277.heap s0_20 kc0 "hash" "I" (.int (0 : Int32)) := (g20_11.keep K277 nin0)
     have f308 : Fld Z T277.heap s0_20 kc0 "hashIsZero" "Z" (.int (0 : Int32)) := (g20_12.keep K277 nin0)
     have f309 : Fld Z T277.heap s0_20 kc0 "coder" "B" (.int (0 : Int32)) := (g20_9.keep K277 nin0)
     have f310 : Fld Z T277.heap s0_20 kc0 "value" "[B" (.ref t0_20) := (g20_10.keep K277 nin0)
     have f311 : Arv Z T277.heap t0_20 k0_20 .byte (tn (p4 &&& (3 : Int32))) (mI (tl p1 (p4 &&& (3 : Int32)))) (.int (0 : Int32)) := (g20_14.keep K277 nin0)
     have f312 : EB Z T277.heap t0_20 (tn (p4 &&& (3 : Int32))) := (g20_13.keep K277)
     have le313 : h0.size ≤ T277.heap.size := (Nat.le_trans K20.1 K277.1)
     have f315 : Exa Z T277.heap r_20 kc1 := (g20_3.keep K277)
     obtain ⟨cq314, kq314, q314a, q314b, q314c⟩ := isOf hZ277 rfl f315
     refine w_virtual X277 hx (y := yn_7) (z := yn_7) hown277 (mvT hZ277 (wd_48 hw)) (mvT hZ277 (wd_49 hw)) (notFace_of_selects (args := #[]) (mvT hZ277 (wd_51 hw))) (mvT hZ277 (wd_51 hw)) (mvT hZ277 (wd_50 hw)) (by decide) (backOf (W := 0) (rm_m7_63 l Z aZ hw [] r_20 p0 G_cache bxc_G_cache s0_20 bd_20 kb_20 (bn (((p4.toUInt32 >>> ((4 : Int32) &&& 31).toUInt32).toInt32) &&& (3 : Int32))) (bl q3 (((p4.toUInt32 >>> ((4 : Int32) &&& 31).toUInt32).toInt32) &&& (3 : Int32))) t0_20 k0_20 (tn (p4 &&& (3 : Int32))) (tl p1 (p4 &&& (3 : Int32))) G_COMPACT_STRINGS T277.heap n0 (Nat.le_trans Z0 le313) f299 S_high f300 S_cache BX_G_cache f301 f302 f303 f304 f305 f306 (own_TB _ _) f307 f308 f309 f310 f311 f312 S_COMPACT_STRINGS hP_2 (own_TS _ _) ge272) hZ277 (wd_52 hw) (wd_13 hw) (by decide) (by decide)) q314a q314c (by rw [hml]; rfl) [] (lenOf pd_17 rfl) rfl (Nat.le_of_eq rfl) (hb hby at_24) (fun _ _ => ⟨rfl, rfl, (by decide : 34 + 3 ≤ _), (by decide : 108 + 6 ≤ _)⟩) (pc' := 27) rfl ?_
     rintro _ _ ⟨T314, L314, k314, n314⟩ X314 ⟨Lc314, hQ314, l314, y314, z314⟩
     dsimp only [Pt.U, Pt.locs, Pt.cells, Pt.slots] at X314 l314 y314 z314 hQ314 ⊢
     subst l314 y314 z314
     obtain ⟨rfl, N314q, K314, g314_0, g314_1, g314_2, g314_3, g314_4⟩ := hQ314
     have N316 := Fr.app N284 N314q
     have y317 : Safe Z EL T277.vm T277.heap s0_20 := (CHr.safe A277 (Nat.lt_of_lt_of_le g20_8.lt (Nat.le_refl _)) g20_7)
     have C318 : CHr Z EL s.vm h0 T277.vm T314.heap := C285.trans (CHr.keep K314 (sfS y317 sf0) C285.1)
     have K319 : Keep h0 T314.heap [] := K286.trans K314 (allS (Or.inr sz273) (all0 (P := fun x => x ∈ [] ∨ h0.size ≤ x)))
     show Runs _ _ _ _ (T314.setTop (mkF m 27 #[.val (.int p0), .val (.int p1), .val (.int p2), .val (.long q3), .second, .val (.int p4), .val (.ref r_20), .val (.ref r_277), .unset, .unset, .unset, .unset] [(.int (((31 : Int32) * (((31 : Int32) * (((31 : Int32) * ((31 : Int32) + p0)) + (hS (tl p1 (p4 &&& (3 : Int32)))))) + (0 : Int32))) + (hB (bl q3 (((p4.toUInt32 >>> ((4 : Int32) &&& 31).toUInt32).toInt32) &&& (3 : Int32))))))]))
     refine w_istore X314 hx (hb hby at_27) (L' := #[.val (.int p0), .val (.int p1), .val (.int p2), .val (.long q3), .second, .val (.int p4), .val (.ref r_20), .val (.ref r_277), .val (.int (((31 : Int32) * (((31 : Int32) * (((31 : Int32) * ((31 : Int32) + p0)) + (hS (tl p1 (p4 &&& (3 : Int32)))))) + (0 : Int32))) + (hB (bl q3 (((p4.toUInt32 >>> ((4 : Int32) &&& 31).toUInt32).toInt32) &&& (3 : Int32)))))), .unset, .unset, .unset]) rfl (pc' := 29) rfl ?_
     refine w_aload X314 hx (hb hby at_29) rfl rfl (pc' := 31) rfl ?_
     have ne329 : s0_20 ≠ r_277 := (Nat.ne_of_lt (Nat.lt_of_lt_of_le g20_8.lt (Nat.le_trans (Nat.le_refl _) g277_2)))
     have f330 : Fld Z T314.heap r_277 kc1 "status" "I" (.int p0) := (g277_4.keep K314 (ninS (Ne.symm ne329) nin0))
     have f331 : Old Z n0 T314.heap := (f300.keep K314 (allS ge272 all0))
     have f332 : Fld Z T314.heap r_277 kc1 "contentType" "Ljava/lang/String;" (.ref s0_277) := (g277_5.keep K314 (ninS (Ne.symm ne329) nin0))
     have f333 : Exa Z T314.heap s0_277 kc0 := (g277_8.keep K314)
     have f334 : Fld Z T314.heap r_277 kc1 "location" "Ljava/lang/String;" .null := (g277_15.keep K314 (ninS (Ne.symm ne329) nin0))
     have f335 : Fld Z T314.heap r_277 kc1 "body" "[B" (.ref bd_277) := (g277_16.keep K314 (ninS (Ne.symm ne329) nin0))
     have ne336 : s0_20 ≠ bd_277 := (Nat.ne_of_lt (Nat.lt_of_lt_of_le g20_8.lt (Nat.le_trans (Nat.le_refl _) g277_17)))
     have f337 : Arv Z T314.heap bd_277 kb_277 .byte (bn (((p4.toUInt32 >>> ((4 : Int32) &&& 31).toUInt32).toInt32) &&& (3 : Int32))) (mI (bl q3 (((p4.toUInt32 >>> ((4 : Int32) &&& 31).toUInt32).toInt32) &&& (3 : Int32)))) (.int (0 : Int32)) := (g277_20.keep K314 (ninS (Ne.symm ne336) nin0))
     have f338 : Exa Z T314.heap bd_277 "[B" := (g277_19.keep K314)
     have ne339 : s0_20 ≠ s0_277 := (Nat.ne_of_lt (Nat.lt_of_lt_of_le g20_8.lt (Nat.le_trans (Nat.le_refl _) g277_6)))
     have f340 : Fld Z T314.heap s0_277 kc0 "hash" "I" (.int (0 : Int32)) := (g277_11.keep K314 (ninS (Ne.symm ne339) nin0))
     have f341 : Fld Z T314.heap s0_277 kc0 "hashIsZero" "Z" (.int (0 : Int32)) := (g277_12.keep K314 (ninS (Ne.symm ne339) nin0))
     have f342 : Fld Z T314.heap s0_277 kc0 "coder" "B" (.int (0 : Int32)) := (g277_9.keep K314 (ninS (Ne.symm ne339) nin0))
     have f343 : Fld Z T314.heap s0_277 kc0 "value" "[B" (.ref t0_277) := (g277_10.keep K314 (ninS (Ne.symm ne339) nin0))
     have ne344 : s0_20 ≠ t0_277 := Exa.neArv (g20_8.keep K277) g277_14 (wd_28 hw)
     have f345 : Arv Z T314.heap t0_277 k0_277 .byte (tn (p4 &&& (3 : Int32))) (mI (tl p1 (p4 &&& (3 : Int32)))) (.int (0 : Int32)) := (g277_14.keep K314 (ninS (Ne.symm ne344) nin0))
     have f346 : EB Z T314.heap t0_277 (tn (p4 &&& (3 : Int32))) := (g277_13.keep K314)
     have le347 : h0.size ≤ T314.heap.size := (Nat.le_trans le313 K314.1)
     have f349 : Exa Z T314.heap r_277 kc1 := (g277_3.keep K314)
     obtain ⟨cq348, kq348, q348a, q348b, q348c⟩ := isOf hZ277 rfl f349
     refine w_virtual X314 hx (y := yn_7) (z := yn_7) hown277 (mvT hZ277 (wd_48 hw)) (mvT hZ277 (wd_49 hw)) (notFace_of_selects (args := #[]) (mvT hZ277 (wd_51 hw))) (mvT hZ277 (wd_51 hw)) (mvT hZ277 (wd_50 hw)) (by decide) (backOf (W := 0) (rm_m7_63 l Z aZ hw [] r_277 p0 G_cache bxc_G_cache s0_277 bd_277 kb_277 (bn (((p4.toUInt32 >>> ((4 : Int32) &&& 31).toUInt32).toInt32) &&& (3 : Int32))) (bl q3 (((p4.toUInt32 >>> ((4 : Int32) &&& 31).toUInt32).toInt32) &&& (3 : Int32))) t0_277 k0_277 (tn (p4 &&& (3 : Int32))) (tl p1 (p4 &&& (3 : Int32))) G_COMPACT_STRINGS T314.heap n0 (Nat.le_trans Z0 le347) f330 S_high f331 S_cache BX_G_cache f332 f333 f334 f335 f337 f338 (own_TB _ _) f340 f341 f342 f343 f345 f346 S_COMPACT_STRINGS hP_2 (own_TS _ _) ge289) hZ277 (wd_52 hw) (wd_13 hw) (by decide) (by decide)) q348a q348c (by rw [hml]; rfl) [] (lenOf pd_17 rfl) rfl (Nat.le_of_eq rfl) (hb hby at_31) (fun _ _ => ⟨rfl, rfl, (by decide : 37 + 3 ≤ _), (by decide : 114 + 6 ≤ _)⟩) (pc' := 34) rfl ?_
     rintro _ _ ⟨T348, L348, k348, n348⟩ X348 ⟨Lc348, hQ348, l348, y348, z348⟩
     dsimp only [Pt.U, Pt.locs, Pt.cells, Pt.slots] at X348 l348 y348 z348 hQ348 ⊢
     subst l348 y348 z348
     obtain ⟨rfl, N348q, K348, g348_0, g348_1, g348_2, g348_3, g348_4⟩ := hQ348
     have N350 := Fr.app N316 N348q
     have y351 : Safe Z EL T277.vm T314.heap s0_277 := (Safe.keep K314 (sfS y317 sf0) C285.1 g277_7)
     have C352 : CHr Z EL s.vm h0 T277.vm T348.heap := C318.trans (CHr.keep K348 (sfS y351 sf0) C318.1)
     have K353 : Keep h0 T348.heap [] := K319.trans K348 (allS (Or.inr sz290) (all0 (P := fun x => x ∈ [] ∨ h0.size ≤ x)))
     show Runs _ _ _ _ (T348.setTop (mkF m 34 #[.val (.int p0), .val (.int p1), .val (.int p2), .val (.long q3), .second, .val (.int p4), .val (.ref r_20), .val (.ref r_277), .val (.int (((31 : Int32) * (((31 : Int32) * (((31 : Int32) * ((31 : Int32) + p0)) + (hS (tl p1 (p4 &&& (3 : Int32)))))) + (0 : Int32))) + (hB (bl q3 (((p4.toUInt32 >>> ((4 : Int32) &&& 31).toUInt32).toInt32) &&& (3 : Int32)))))), .unset, .unset, .unset] [(.int (((31 : Int32) * (((31 : Int32) * (((31 : Int32) * ((31 : Int32) + p0)) + (hS (tl p1 (p4 &&& (3 : Int32)))))) + (0 : Int32))) + (hB (bl q3 (((p4.toUInt32 >>> ((4 : Int32) &&& 31).toUInt32).toInt32) &&& (3 : Int32))))))]))
     refine w_istore X348 hx (hb hby at_34) (L' := #[.val (.int p0), .val (.int p1), .val (.int p2), .val (.long q3), .second, .val (.int p4), .val (.ref r_20), .val (.ref r_277), .val (.int (((31 : Int32) * (((31 : Int32) * (((31 : Int32) * ((31 : Int32) + p0)) + (hS (tl p1 (p4 &&& (3 : Int32)))))) + (0 : Int32))) + (hB (bl q3 (((p4.toUInt32 >>> ((4 : Int32) &&& 31).toUInt32).toInt32) &&& (3 : Int32)))))), .val (.int (((31 : Int32) * (((31 : Int32) * (((31 : Int32) * ((31 : Int32) + p0)) + (hS (tl p1 (p4 &&& (3 : Int32)))))) + (0 : Int32))) + (hB (bl q3 (((p4.toUInt32 >>> ((4 : Int32) &&& 31).toUInt32).toInt32) &&& (3 : Int32)))))), .unset, .unset]) rfl (pc' := 36) rfl ?_
     refine w_aload X348 hx (hb hby at_36) rfl rfl (pc' := 38) rfl ?_
     have f386 : Exa Z T348.heap r_20 kc1 := ((f315.keep K314).keep K348)
     have f387 : Exa Z T348.heap s0_20 kc0 := (g314_0.keep K348)
     have ne385 : r_20 ≠ s0_20 := ne_exa f386 f387 (by decide)
     have ne388 : r_20 ≠ s0_277 := (Nat.ne_of_lt (Nat.lt_of_lt_of_le g20_3.lt (Nat.le_trans (Nat.le_refl _) g277_6)))
     have f389 : Fld Z T348.heap r_20 kc1 "status" "I" (.int p0) := ((f299.keep K314 (ninS ne385 nin0)).keep K348 (ninS ne388 nin0))
     have f390 : Old Z n0 T348.heap := (f331.keep K348 (allS ge289 all0))
     have f391 : Fld Z T348.heap r_20 kc1 "contentType" "Ljava/lang/String;" (.ref s0_20) := ((f301.keep K314 (ninS ne385 nin0)).keep K348 (ninS ne388 nin0))
     have f392 : Fld Z T348.heap r_20 kc1 "location" "Ljava/lang/String;" .null := ((f303.keep K314 (ninS ne385 nin0)).keep K348 (ninS ne388 nin0))
     have f393 : Fld Z T348.heap r_20 kc1 "body" "[B" (.ref bd_20) := ((f304.keep K314 (ninS ne385 nin0)).keep K348 (ninS ne388 nin0))
     have f395 : Exa Z T348.heap bd_20 "[B" := ((f306.keep K314).keep K348)
     have ne394 : bd_20 ≠ s0_20 := ne_exa f395 f387 (by decide)
     have ne396 : bd_20 ≠ s0_277 := (Nat.ne_of_lt (Nat.lt_of_lt_of_le g20_19.lt (Nat.le_trans (Nat.le_refl _) g277_6)))
     have f397 : Arv Z T348.heap bd_20 kb_20 .byte (bn (((p4.toUInt32 >>> ((4 : Int32) &&& 31).toUInt32).toInt32) &&& (3 : Int32))) (mI (bl q3 (((p4.toUInt32 >>> ((4 : Int32) &&& 31).toUInt32).toInt32) &&& (3 : Int32)))) (.int (0 : Int32)) := ((f305.keep K314 (ninS ne394 nin0)).keep K348 (ninS ne396 nin0))
     have f398 : Fld Z T348.heap s0_20 kc0 "hash" "I" (.int (hS (tl p1 (p4 &&& (3 : Int32))))) := (g314_1.keep K348 (ninS ne339 nin0))
     have f399 : Fld Z T348.heap s0_20 kc0 "hashIsZero" "Z" (.int (if (hS (tl p1 (p4 &&& (3 : Int32)))) = (0 : Int32) then (1 : Int32) else (0 : Int32))) := (g314_2.keep K348 (ninS ne339 nin0))
     have f400 : Fld Z T348.heap s0_20 kc0 "coder" "B" (.int (0 : Int32)) := (g314_3.keep K348 (ninS ne339 nin0))
     have f401 : Fld Z T348.heap s0_20 kc0 "value" "[B" (.ref t0_20) := (g314_4.keep K348 (ninS ne339 nin0))
     have ne402 : s0_20 ≠ t0_20 := Exa.neArv (g20_8.keep K277) f311 (wd_28 hw)
     have ne403 : s0_277 ≠ t0_20 := Exa.neArv g277_8 f311 (wd_28 hw)
     have f404 : Arv Z T348.heap t0_20 k0_20 .byte (tn (p4 &&& (3 : Int32))) (mI (tl p1 (p4 &&& (3 : Int32)))) (.int (0 : Int32)) := ((f311.keep K314 (ninS (Ne.symm ne402) nin0)).keep K348 (ninS (Ne.symm ne403) nin0))
     have f405 : EB Z T348.heap t0_20 (tn (p4 &&& (3 : Int32))) := ((f312.keep K314).keep K348)
     have le406 : h0.size ≤ T348.heap.size := (Nat.le_trans le347 K348.1)
     obtain ⟨cq407, kq407, q407a, q407b, q407c⟩ := isOf hZ277 rfl f386
     refine w_virtual X348 hx (y := yn_7) (z := yn_7) hown277 (mvT hZ277 (wd_48 hw)) (mvT hZ277 (wd_49 hw)) (notFace_of_selects (args := #[]) (mvT hZ277 (wd_51 hw))) (mvT hZ277 (wd_51 hw)) (mvT hZ277 (wd_50 hw)) (by decide) (backOf (W := 0) (rm_m7_66 l Z aZ hw [] r_20 p0 G_cache bxc_G_cache s0_20 bd_20 kb_20 (bn (((p4.toUInt32 >>> ((4 : Int32) &&& 31).toUInt32).toInt32) &&& (3 : Int32))) (bl q3 (((p4.toUInt32 >>> ((4 : Int32) &&& 31).toUInt32).toInt32) &&& (3 : Int32))) (hS (tl p1 (p4 &&& (3 : Int32)))) (if (hS (tl p1 (p4 &&& (3 : Int32)))) = (0 : Int32) then (1 : Int32) else (0 : Int32)) t0_20 k0_20 (tn (p4 &&& (3 : Int32))) (tl p1 (p4 &&& (3 : Int32))) G_COMPACT_STRINGS T348.heap n0 (Nat.le_trans Z0 le406) f389 S_high f390 S_cache BX_G_cache f391 f387 f392 f393 f397 f395 (own_TB _ _) f398 f399 f400 f401 f404 f405 S_COMPACT_STRINGS hP_2 (own_TS _ _) ge272 (Or.inr ⟨rfl, rfl⟩)) hZ277 (wd_52 hw) (wd_13 hw) (by decide) (by decide)) q407a q407c (by rw [hml]; rfl) [] (lenOf pd_17 rfl) rfl (Nat.le_of_eq rfl) (hb hby at_38) (fun _ _ => ⟨rfl, rfl, (by decide : 40 + 3 ≤ _), (by decide : 120 + 6 ≤ _)⟩) (pc' := 41) rfl ?_
     rintro _ _ ⟨T407, L407, k407, n407⟩ X407 ⟨Lc407, hQ407, l407, y407, z407⟩
     dsimp only [Pt.U, Pt.locs, Pt.cells, Pt.slots] at X407 l407 y407 z407 hQ407 ⊢
     subst l407 y407 z407
     obtain ⟨rfl, N407q, K407, g407_0, g407_1, g407_2, g407_3, g407_4⟩ := hQ407
     have N408 := Fr.app N350 N407q
     have y409 : Safe Z EL T277.vm T348.heap s0_20 := (Safe.keep K348 (sfS y351 sf0) C318.1 (Safe.keep K314 (sfS y317 sf0) C285.1 y317))
     have C410 : CHr Z EL s.vm h0 T277.vm T407.heap := C352.trans (CHr.keep K407 (sfS y409 sf0) C352.1)
     have K411 : Keep h0 T407.heap [] := K353.trans K407 (allS (Or.inr sz273) (all0 (P := fun x => x ∈ [] ∨ h0.size ≤ x)))
     show Runs _ _ _ _ (T407.setTop (mkF m 41 #[.val (.int p0), .val (.int p1), .val (.int p2), .val (.long q3), .second, .val (.int p4), .val (.ref r_20), .val (.ref r_277), .val (.int (((31 : Int32) * (((31 : Int32) * (((31 : Int32) * ((31 : Int32) + p0)) + (hS (tl p1 (p4 &&& (3 : Int32)))))) + (0 : Int32))) + (hB (bl q3 (((p4.toUInt32 >>> ((4 : Int32) &&& 31).toUInt32).toInt32) &&& (3 : Int32)))))), .val (.int (((31 : Int32) * (((31 : Int32) * (((31 : Int32) * ((31 : Int32) + p0)) + (hS (tl p1 (p4 &&& (3 : Int32)))))) + (0 : Int32))) + (hB (bl q3 (((p4.toUInt32 >>> ((4 : Int32) &&& 31).toUInt32).toInt32) &&& (3 : Int32)))))), .unset, .unset] [(.int (((31 : Int32) * (((31 : Int32) * (((31 : Int32) * ((31 : Int32) + p0)) + (hS (tl p1 (p4 &&& (3 : Int32)))))) + (0 : Int32))) + (hB (bl q3 (((p4.toUInt32 >>> ((4 : Int32) &&& 31).toUInt32).toInt32) &&& (3 : Int32))))))]))
     refine w_istore X407 hx (hb hby at_41) (L' := #[.val (.int p0), .val (.int p1), .val (.int p2), .val (.long q3), .second, .val (.int p4), .val (.ref r_20), .val (.ref r_277), .val (.int (((31 : Int32) * (((31 : Int32) * (((31 : Int32) * ((31 : Int32) + p0)) + (hS (tl p1 (p4 &&& (3 : Int32)))))) + (0 : Int32))) + (hB (bl q3 (((p4.toUInt32 >>> ((4 : Int32) &&& 31).toUInt32).toInt32) &&& (3 : Int32)))))), .val (.int (((31 : Int32) * (((31 : Int32) * (((31 : Int32) * ((31 : Int32) + p0)) + (hS (tl p1 (p4 &&& (3 : Int32)))))) + (0 : Int32))) + (hB (bl q3 (((p4.toUInt32 >>> ((4 : Int32) &&& 31).toUInt32).toInt32) &&& (3 : Int32)))))), .val (.int (((31 : Int32) * (((31 : Int32) * (((31 : Int32) * ((31 : Int32) + p0)) + (hS (tl p1 (p4 &&& (3 : Int32)))))) + (0 : Int32))) + (hB (bl q3 (((p4.toUInt32 >>> ((4 : Int32) &&& 31).toUInt32).toInt32) &&& (3 : Int32)))))), .unset]) rfl (pc' := 43) rfl ?_
     refine w_aload X407 hx (hb hby at_43) rfl rfl (pc' := 45) rfl ?_
     refine w_aload X407 hx (hb hby at_45) rfl rfl (pc' := 47) rfl ?_
     have f422 : Exa Z T407.heap r_277 kc1 := ((f349.keep K348).keep K407)
     have f423 : Fld Z T407.heap r_20 kc1 "status" "I" (.int p0) := (f389.keep K407 (ninS ne385 nin0))
     have f425 : Exa Z T407.heap s0_277 kc0 := (g348_0.keep K407)
     have ne424 : r_277 ≠ s0_277 := ne_exa f422 f425 (by decide)
     have f426 : Fld Z T407.heap r_277 kc1 "status" "I" (.int p0) := ((f330.keep K348 (ninS ne424 nin0)).keep K407 (ninS (Ne.symm ne329) nin0))
     have f427 : Fld Z T407.heap r_20 kc1 "contentType" "Ljava/lang/String;" (.ref s0_20) := (f391.keep K407 (ninS ne385 nin0))
     have f428 : Fld Z T407.heap r_277 kc1 "contentType" "Ljava/lang/String;" (.ref s0_277) := ((f332.keep K348 (ninS ne424 nin0)).keep K407 (ninS (Ne.symm ne329) nin0))
     have f429 : Fld Z T407.heap s0_277 kc0 "coder" "B" (.int (0 : Int32)) := (g348_3.keep K407 (ninS (Ne.symm ne339) nin0))
     have f430 : Fld Z T407.heap s0_277 kc0 "value" "[B" (.ref t0_277) := (g348_4.keep K407 (ninS (Ne.symm ne339) nin0))
     have f431 : Arv Z T407.heap t0_20 k0_20 .byte (tn (p4 &&& (3 : Int32))) (mI (tl p1 (p4 &&& (3 : Int32)))) (.int (0 : Int32)) := (f404.keep K407 (ninS (Ne.symm ne402) nin0))
     have ne432 : s0_277 ≠ t0_277 := Exa.neArv (g277_8.keep K314) f345 (wd_28 hw)
     have f433 : Arv Z T407.heap t0_277 k0_277 .byte (tn (p4 &&& (3 : Int32))) (mI (tl p1 (p4 &&& (3 : Int32)))) (.int (0 : Int32)) := ((f345.keep K348 (ninS (Ne.symm ne432) nin0)).keep K407 (ninS (Ne.symm ne344) nin0))
     have f434 : Old Z n0 T407.heap := (f390.keep K407 (allS ge272 all0))
     have f435 : Fld Z T407.heap r_20 kc1 "location" "Ljava/lang/String;" .null := (f392.keep K407 (ninS ne385 nin0))
     have f436 : Fld Z T407.heap r_277 kc1 "location" "Ljava/lang/String;" .null := ((f334.keep K348 (ninS ne424 nin0)).keep K407 (ninS (Ne.symm ne329) nin0))
     have f437 : Fld Z T407.heap r_20 kc1 "body" "[B" (.ref bd_20) := (f393.keep K407 (ninS ne385 nin0))
     have f438 : Fld Z T407.heap r_277 kc1 "body" "[B" (.ref bd_277) := ((f335.keep K348 (ninS ne424 nin0)).keep K407 (ninS (Ne.symm ne329) nin0))
     have f439 : Arv Z T407.heap bd_20 kb_20 .byte (bn (((p4.toUInt32 >>> ((4 : Int32) &&& 31).toUInt32).toInt32) &&& (3 : Int32))) (mI (bl q3 (((p4.toUInt32 >>> ((4 : Int32) &&& 31).toUInt32).toInt32) &&& (3 : Int32)))) (.int (0 : Int32)) := (f397.keep K407 (ninS ne394 nin0))
     have f441 : Exa Z T407.heap bd_277 "[B" := ((f338.keep K348).keep K407)
     have ne440 : bd_277 ≠ s0_277 := ne_exa f441 f425 (by decide)
     have f442 : Arv Z T407.heap bd_277 kb_277 .byte (bn (((p4.toUInt32 >>> ((4 : Int32) &&& 31).toUInt32).toInt32) &&& (3 : Int32))) (mI (bl q3 (((p4.toUInt32 >>> ((4 : Int32) &&& 31).toUInt32).toInt32) &&& (3 : Int32)))) (.int (0 : Int32)) := ((f337.keep K348 (ninS ne440 nin0)).keep K407 (ninS (Ne.symm ne336) nin0))
     have ne443 : bd_20 ≠ bd_277 := (Nat.ne_of_lt (Nat.lt_of_lt_of_le g20_19.lt (Nat.le_trans (Nat.le_refl _) g277_17)))
     have le444 : h0.size ≤ T407.heap.size := (Nat.le_trans le406 K407.1)
     have f446 : Exa Z T407.heap r_20 kc1 := (f386.keep K407)
     obtain ⟨cq445, kq445, q445a, q445b, q445c⟩ := isOf hZ277 rfl f446
     refine w_virtual X407 hx (y := yn_14) (z := yn_14) hown277 (mvT hZ277 (wd_84 hw)) (mvT hZ277 (wd_85 hw)) (notFace_of_selects (args := #[]) (mvT hZ277 (wd_87 hw))) (mvT hZ277 (wd_87 hw)) (mvT hZ277 (wd_86 hw)) (by decide) (backOf (W := 0) (rm_m14_69 l Z aZ hw [] r_20 r_277 p0 s0_20 s0_277 t0_20 t0_277 k0_20 (tn (p4 &&& (3 : Int32))) (tl p1 (p4 &&& (3 : Int32))) k0_277 G_COMPACT_STRINGS bd_20 bd_277 kb_20 (bn (((p4.toUInt32 >>> ((4 : Int32) &&& 31).toUInt32).toInt32) &&& (3 : Int32))) (bl q3 (((p4.toUInt32 >>> ((4 : Int32) &&& 31).toUInt32).toInt32) &&& (3 : Int32))) kb_277 T407.heap n0 (Nat.le_trans Z0 le444) f422 f423 f426 f427 f428 g407_0 f425 g407_3 f429 g407_4 f430 f431 f433 S_COMPACT_STRINGS f434 ne339 hP_2 (own_TS _ _) f435 f436 f437 f438 f439 f442 (own_TB _ _) ne443) hZ277 (wd_88 hw) (wd_13 hw) (by decide) (by decide)) q445a q445c (by rw [hml]; rfl) [(.ref r_277)] (lenOf pd_22 rfl) rfl (Nat.le_of_eq rfl) (hb hby at_47) (fun _ _ => ⟨rfl, rfl, (by decide : 43 + 0 ≤ _), (by decide : 126 + 0 ≤ _)⟩) (pc' := 50) rfl ?_
     rintro _ _ ⟨T445, L445, k445, n445⟩ X445 ⟨Lc445, hQ445, l445, y445, z445⟩
     dsimp only [Pt.U, Pt.locs, Pt.cells, Pt.slots] at X445 l445 y445 z445 hQ445 ⊢
     subst l445 y445 z445
     obtain ⟨rfl, N445q, e445⟩ := hQ445
     have N447 := Fr.app N408 N445q
     show Runs _ _ _ _ (T445.setTop (mkF m 50 #[.val (.int p0), .val (.int p1), .val (.int p2), .val (.long q3), .second, .val (.int p4), .val (.ref r_20), .val (.ref r_277), .val (.int (((31 : Int32) * (((31 : Int32) * (((31 : Int32) * ((31 : Int32) + p0)) + (hS (tl p1 (p4 &&& (3 : Int32)))))) + (0 : Int32))) + (hB (bl q3 (((p4.toUInt32 >>> ((4 : Int32) &&& 31).toUInt32).toInt32) &&& (3 : Int32)))))), .val (.int (((31 : Int32) * (((31 : Int32) * (((31 : Int32) * ((31 : Int32) + p0)) + (hS (tl p1 (p4 &&& (3 : Int32)))))) + (0 : Int32))) + (hB (bl q3 (((p4.toUInt32 >>> ((4 : Int32) &&& 31).toUInt32).toInt32) &&& (3 : Int32)))))), .val (.int (((31 : Int32) * (((31 : Int32) * (((31 : Int32) * ((31 : Int32) + p0)) + (hS (tl p1 (p4 &&& (3 : Int32)))))) + (0 : Int32))) + (hB (bl q3 (((p4.toUInt32 >>> ((4 : Int32) &&& 31).toUInt32).toInt32) &&& (3 : Int32)))))), .unset] [(.int (1 : Int32))]))
     refine w_istore X445 hx (hb hby at_50) (L' := #[.val (.int p0), .val (.int p1), .val (.int p2), .val (.long q3), .second, .val (.int p4), .val (.ref r_20), .val (.ref r_277), .val (.int (((31 : Int32) * (((31 : Int32) * (((31 : Int32) * ((31 : Int32) + p0)) + (hS (tl p1 (p4 &&& (3 : Int32)))))) + (0 : Int32))) + (hB (bl q3 (((p4.toUInt32 >>> ((4 : Int32) &&& 31).toUInt32).toInt32) &&& (3 : Int32)))))), .val (.int (((31 : Int32) * (((31 : Int32) * (((31 : Int32) * ((31 : Int32) + p0)) + (hS (tl p1 (p4 &&& (3 : Int32)))))) + (0 : Int32))) + (hB (bl q3 (((p4.toUInt32 >>> ((4 : Int32) &&& 31).toUInt32).toInt32) &&& (3 : Int32)))))), .val (.int (((31 : Int32) * (((31 : Int32) * (((31 : Int32) * ((31 : Int32) + p0)) + (hS (tl p1 (p4 &&& (3 : Int32)))))) + (0 : Int32))) + (hB (bl q3 (((p4.toUInt32 >>> ((4 : Int32) &&& 31).toUInt32).toInt32) &&& (3 : Int32)))))), .val (.int (1 : Int32))]) rfl (pc' := 52) rfl ?_
     refine w_iload X445 hx (hb hby at_52) rfl (pc' := 54) rfl ?_
     refine w_iload X445 hx (hb hby at_54) rfl (pc' := 56) rfl ?_
     refine w_icN X445 hx (hb hby at_56) (teq (rfl : (((31 : Int32) * (((31 : Int32) * (((31 : Int32) * ((31 : Int32) + p0)) + (hS (tl p1 (p4 &&& (3 : Int32)))))) + (0 : Int32))) + (hB (bl q3 (((p4.toUInt32 >>> ((4 : Int32) &&& 31).toUInt32).toInt32) &&& (3 : Int32))))) = (((31 : Int32) * (((31 : Int32) * (((31 : Int32) * ((31 : Int32) + p0)) + (hS (tl p1 (p4 &&& (3 : Int32)))))) + (0 : Int32))) + (hB (bl q3 (((p4.toUInt32 >>> ((4 : Int32) &&& 31).toUInt32).toInt32) &&& (3 : Int32))))))).2 (pc' := 59) rfl ?_
     refine w_iload X445 hx (hb hby at_59) rfl (pc' := 61) rfl ?_
     refine w_ifN X445 hx (hb hby at_61) (feq (by decide : ¬ ((1 : Int32) = (0 : Int32)))).1 (pc' := 64) rfl ?_
     refine w_iload X445 hx (hb hby at_64) rfl (pc' := 66) rfl ?_
     refine w_iload X445 hx (hb hby at_66) rfl (pc' := 68) rfl ?_
     refine w_icN X445 hx (hb hby at_68) (teq (rfl : (((31 : Int32) * (((31 : Int32) * (((31 : Int32) * ((31 : Int32) + p0)) + (hS (tl p1 (p4 &&& (3 : Int32)))))) + (0 : Int32))) + (hB (bl q3 (((p4.toUInt32 >>> ((4 : Int32) &&& 31).toUInt32).toInt32) &&& (3 : Int32))))) = (((31 : Int32) * (((31 : Int32) * (((31 : Int32) * ((31 : Int32) + p0)) + (hS (tl p1 (p4 &&& (3 : Int32)))))) + (0 : Int32))) + (hB (bl q3 (((p4.toUInt32 >>> ((4 : Int32) &&& 31).toUInt32).toInt32) &&& (3 : Int32))))))).2 (pc' := 71) rfl ?_
     refine w_iconst X445 hx (hb hby at_71) (v := (1 : Int32)) rfl (pc' := 72) rfl ?_
     refine w_goto X445 hx (hb hby at_72) (pc' := 76) (by decide) (by decide) ?_
     have le448 : T277.heap.size ≤ T348.heap.size := (Nat.le_trans K314.1 K348.1)
     have le449 : T277.heap.size ≤ T407.heap.size := (Nat.le_trans le448 K407.1)
     exact w_doneH X445 hlk (v := some (.int (1 : Int32))) e445 hh hZ277 (own_EW hw) hS277 (Nat.le_trans (Nat.le_refl _) le449) C410 (fun h => by rw [hret] at h; cases h) (fun fs hr => retN X445 hx (t := .boolean) hret (by simp) (hb hby at_76) hr) (by decide) (by decide) (fun hsy => ⟨rfl, N447⟩)
   · have N450 := Fr.app N267 N277q
     have C451 : CHr Z EL s.vm h0 T277.vm T277.heap := C268.trans A277
     have K452 : Keep h0 T277.heap [] := K269.trans K277 (all0 (P := fun x => x ∈ [] ∨ h0.size ≤ x))
     exact absurd g20_1 g277_1
 · have N453 := Fr.app N0 N20q
   have C454 : CHr Z EL s.vm h0 T20.vm T20.heap := C0.trans A20
   have K455 : Keep h0 T20.heap [] := (Keep.refl h0 []).trans K20 (all0 (P := fun x => x ∈ [] ∨ h0.size ≤ x))
   have ge456 : n0 ≤ r_20 := Nat.le_trans Z0 g20_2
   have sz457 : h0.size ≤ r_20 := Nat.le_trans (Nat.le_refl _) g20_2
   have ge458 : n0 ≤ s0_20 := Nat.le_trans Z0 g20_6
   have sz459 : h0.size ≤ s0_20 := Nat.le_trans (Nat.le_refl _) g20_6
   have ge460 : n0 ≤ s1_20 := Nat.le_trans Z0 g20_16
   have sz461 : h0.size ≤ s1_20 := Nat.le_trans (Nat.le_refl _) g20_16
   have ge462 : n0 ≤ bd_20 := Nat.le_trans Z0 g20_26
   have sz463 : h0.size ≤ bd_20 := Nat.le_trans (Nat.le_refl _) g20_26
   show Runs _ _ _ _ (T20.setTop (mkF m 9 #[.val (.int p0), .val (.int p1), .val (.int p2), .val (.long q3), .second, .val (.int p4), .unset, .unset, .unset, .unset, .unset, .unset] [(.ref r_20)]))
   refine w_astore X20 hx (hb hby at_9) rfl (L' := #[.val (.int p0), .val (.int p1), .val (.int p2), .val (.long q3), .second, .val (.int p4), .val (.ref r_20), .unset, .unset, .unset, .unset, .unset]) rfl (pc' := 11) rfl ?_
   refine w_iloadN X20 hx (hb hby at_11) rfl (pc' := 12) rfl ?_
   refine w_iloadN X20 hx (hb hby at_12) rfl (pc' := 13) rfl ?_
   refine w_iloadN X20 hx (hb hby at_13) rfl (pc' := 14) rfl ?_
   refine w_lloadN X20 hx (hb hby at_14) rfl (pc' := 15) rfl ?_
   refine w_iload X20 hx (hb hby at_15) rfl (pc' := 17) rfl ?_
   have f464 : Old Z n0 T20.heap := (O0.keep K20 all0)
   refine w_staticS X20 hx (y := yn_1) hown20 (mvT hZ20 (wd_0 hw)) (mvT hZ20 (wd_1 hw)) (mvT hZ20 (wd_2 hw)) (mvT hZ20 (wd_3 hw)) (by decide) (backOfY (W := 0) (rm_m1_4 l Z aZ hw [] p0 p1 p2 q3 p4 G_COMPACT_STRINGS T20.heap n0 (Nat.le_trans Z0 K20.1) S_COMPACT_STRINGS f464 hP_2) hZ20 (wd_3 hw) (wd_2 hw) (by decide) (by decide) (own_EW hw) C454.1 sf0 all0) (by rw [hml]; rfl) [(.int p0), (.int p1), (.int p2), (.long q3), (.int p4)] (lenOf pd_9 rfl) rfl (Nat.le_of_eq rfl) (hb hby at_17) (fun _ _ => ⟨rfl, rfl, (by decide : 17 + 17 ≤ _), (by decide : 54 + 54 ≤ _)⟩) (pc' := 20) rfl ?_
   rintro _ _ ⟨T465, L465, k465, n465⟩ XX465 hSS465 hg465 ⟨Lc465, hQ465, l465, y465, z465, A465⟩
   dsimp only [Pt.U, Pt.locs, Pt.cells, Pt.slots] at XX465 l465 y465 z465 hQ465 hSS465 hg465 A465 ⊢
   subst l465 y465 z465
   obtain ⟨X465, hS465, hZ465, hown465⟩ := rebS hS20 (Nat.le_refl _) XX465 hSS465 hg465 hZ20 hown20
   rcases hQ465 with ⟨r_465, bd_465, kb_465, rfl, N465q, K465, g465_0, g465_1, g465_2, g465_3, g465_4, g465_5, g465_6, g465_7, g465_8, g465_9, g465_10, g465_11⟩ | ⟨r_465, bd_465, kb_465, s1_465, t1_465, k1_465, rfl, N465q, K465, g465_0, g465_1, g465_2, g465_3, g465_4, g465_5, g465_6, g465_7, g465_8, g465_9, g465_10, g465_11, g465_12, g465_13, g465_14, g465_15, g465_16, g465_17, g465_18, g465_19, g465_20⟩ | ⟨r_465, bd_465, kb_465, s0_465, t0_465, k0_465, rfl, N465q, K465, g465_0, g465_1, g465_2, g465_3, g465_4, g465_5, g465_6, g465_7, g465_8, g465_9, g465_10, g465_11, g465_12, g465_13, g465_14, g465_15, g465_16, g465_17, g465_18, g465_19, g465_20⟩ | ⟨r_465, bd_465, kb_465, s0_465, t0_465, k0_465, s1_465, t1_465, k1_465, rfl, N465q, K465, g465_0, g465_1, g465_2, g465_3, g465_4, g465_5, g465_6, g465_7, g465_8, g465_9, g465_10, g465_11, g465_12, g465_13, g465_14, g465_15, g465_16, g465_17, g465_18, g465_19, g465_20, g465_21, g465_22, g465_23, g465_24, g465_25, g465_26, g465_27, g465_28, g465_29, g465_30⟩
   · have N466 := Fr.app N453 N465q
     have C467 : CHr Z EL s.vm h0 T465.vm T465.heap := C454.trans A465
     have K468 : Keep h0 T465.heap [] := K455.trans K465 (all0 (P := fun x => x ∈ [] ∨ h0.size ≤ x))
     exact absurd g465_0 g20_0
   · have N469 := Fr.app N453 N465q
     have C470 : CHr Z EL s.vm h0 T465.vm T465.heap := C454.trans A465
     have K471 : Keep h0 T465.heap [] := K455.trans K465 (all0 (P := fun x => x ∈ [] ∨ h0.size ≤ x))
     exact absurd g465_0 g20_0
   · have N472 := Fr.app N453 N465q
     have C473 : CHr Z EL s.vm h0 T465.vm T465.heap := C454.trans A465
     have K474 : Keep h0 T465.heap [] := K455.trans K465 (all0 (P := fun x => x ∈ [] ∨ h0.size ≤ x))
     exact absurd g465_1 g20_1
   · have N475 := Fr.app N453 N465q
     have C476 : CHr Z EL s.vm h0 T465.vm T465.heap := C454.trans A465
     have K477 : Keep h0 T465.heap [] := K455.trans K465 (all0 (P := fun x => x ∈ [] ∨ h0.size ≤ x))
     have ge478 : n0 ≤ r_465 := Nat.le_trans (Nat.le_trans Z0 K20.1) g465_2
     have sz479 : h0.size ≤ r_465 := Nat.le_trans K20.1 g465_2
     have ge480 : n0 ≤ s0_465 := Nat.le_trans (Nat.le_trans Z0 K20.1) g465_6
     have sz481 : h0.size ≤ s0_465 := Nat.le_trans K20.1 g465_6
     have ge482 : n0 ≤ s1_465 := Nat.le_trans (Nat.le_trans Z0 K20.1) g465_16
     have sz483 : h0.size ≤ s1_465 := Nat.le_trans K20.1 g465_16
     have ge484 : n0 ≤ bd_465 := Nat.le_trans (Nat.le_trans Z0 K20.1) g465_26
     have sz485 : h0.size ≤ bd_465 := Nat.le_trans K20.1 g465_26
     show Runs _ _ _ _ (T465.setTop (mkF m 20 #[.val (.int p0), .val (.int p1), .val (.int p2), .val (.long q3), .second, .val (.int p4), .val (.ref r_20), .unset, .unset, .unset, .unset, .unset] [(.ref r_465)]))
     refine w_astore X465 hx (hb hby at_20) rfl (L' := #[.val (.int p0), .val (.int p1), .val (.int p2), .val (.long q3), .second, .val (.int p4), .val (.ref r_20), .val (.ref r_465), .unset, .unset, .unset, .unset]) rfl (pc' := 22) rfl ?_
     refine w_aload X465 hx (hb hby at_22) rfl rfl (pc' := 24) rfl ?_
     have f500 : Fld Z T465.heap r_20 kc1 "status" "I" (.int p0) := (g20_4.keep K465 nin0)
     have f501 : Old Z n0 T465.heap := (f464.keep K465 all0)
     have f502 : Fld Z T465.heap r_20 kc1 "contentType" "Ljava/lang/String;" (.ref s0_20) := (g20_5.keep K465 nin0)
     have f503 : Exa Z T465.heap s0_20 kc0 := (g20_8.keep K465)
     have f504 : Fld Z T465.heap r_20 kc1 "location" "Ljava/lang/String;" (.ref s1_20) := (g20_15.keep K465 nin0)
     have f505 : Exa Z T465.heap s1_20 kc0 := (g20_18.keep K465)
     have f506 : Fld Z T465.heap r_20 kc1 "body" "[B" (.ref bd_20) := (g20_25.keep K465 nin0)
     have f507 : Arv Z T465.heap bd_20 kb_20 .byte (bn (((p4.toUInt32 >>> ((4 : Int32) &&& 31).toUInt32).toInt32) &&& (3 : Int32))) (mI (bl q3 (((p4.toUInt32 >>> ((4 : Int32) &&& 31).toUInt32).toInt32) &&& (3 : Int32)))) (.int (0 : Int32)) := (g20_29.keep K465 nin0)
     have f508 : Exa Z T465.heap bd_20 "[B" := (g20_28.keep K465)
     have f509 : Fld Z T465.heap s0_20 kc0 "hash" "I" (.int (0 : Int32)) := (g20_11.keep K465 nin0)
     have f510 : Fld Z T465.heap s0_20 kc0 "hashIsZero" "Z" (.int (0 : Int32)) := (g20_12.keep K465 nin0)
     have f511 : Fld Z T465.heap s0_20 kc0 "coder" "B" (.int (0 : Int32)) := (g20_9.keep K465 nin0)
     have f512 : Fld Z T465.heap s0_20 kc0 "value" "[B" (.ref t0_20) := (g20_10.keep K465 nin0)
     have f513 : Arv Z T465.heap t0_20 k0_20 .byte (tn (p4 &&& (3 : Int32))) (mI (tl p1 (p4 &&& (3 : Int32)))) (.int (0 : Int32)) := (g20_14.keep K465 nin0)
     have f514 : EB Z T465.heap t0_20 (tn (p4 &&& (3 : Int32))) := (g20_13.keep K465)
     have f515 : Fld Z T465.heap s1_20 kc0 "hash" "I" (.int (0 : Int32)) := (g20_21.keep K465 nin0)
     have f516 : Fld Z T465.heap s1_20 kc0 "hashIsZero" "Z" (.int (0 : Int32)) := (g20_22.keep K465 nin0)
     have f517 : Fld Z T465.heap s1_20 kc0 "coder" "B" (.int (0 : Int32)) := (g20_19.keep K465 nin0)
     have f518 : Fld Z T465.heap s1_20 kc0 "value" "[B" (.ref t1_20) := (g20_20.keep K465 nin0)
     have f519 : Arv Z T465.heap t1_20 k1_20 .byte (tn (((p4.toUInt32 >>> ((2 : Int32) &&& 31).toUInt32).toInt32) &&& (3 : Int32))) (mI (tl p2 (((p4.toUInt32 >>> ((2 : Int32) &&& 31).toUInt32).toInt32) &&& (3 : Int32)))) (.int (0 : Int32)) := (g20_24.keep K465 nin0)
     have f520 : EB Z T465.heap t1_20 (tn (((p4.toUInt32 >>> ((2 : Int32) &&& 31).toUInt32).toInt32) &&& (3 : Int32))) := (g20_23.keep K465)
     have le521 : h0.size ≤ T465.heap.size := (Nat.le_trans K20.1 K465.1)
     have f523 : Exa Z T465.heap r_20 kc1 := (g20_3.keep K465)
     obtain ⟨cq522, kq522, q522a, q522b, q522c⟩ := isOf hZ465 rfl f523
     refine w_virtual X465 hx (y := yn_7) (z := yn_7) hown465 (mvT hZ465 (wd_48 hw)) (mvT hZ465 (wd_49 hw)) (notFace_of_selects (args := #[]) (mvT hZ465 (wd_51 hw))) (mvT hZ465 (wd_51 hw)) (mvT hZ465 (wd_50 hw)) (by decide) (backOf (W := 0) (rm_m7_70 l Z aZ hw [] r_20 p0 G_cache bxc_G_cache s0_20 s1_20 bd_20 kb_20 (bn (((p4.toUInt32 >>> ((4 : Int32) &&& 31).toUInt32).toInt32) &&& (3 : Int32))) (bl q3 (((p4.toUInt32 >>> ((4 : Int32) &&& 31).toUInt32).toInt32) &&& (3 : Int32))) t0_20 k0_20 (tn (p4 &&& (3 : Int32))) (tl p1 (p4 &&& (3 : Int32))) t1_20 k1_20 (tn (((p4.toUInt32 >>> ((2 : Int32) &&& 31).toUInt32).toInt32) &&& (3 : Int32))) (tl p2 (((p4.toUInt32 >>> ((2 : Int32) &&& 31).toUInt32).toInt32) &&& (3 : Int32))) G_COMPACT_STRINGS T465.heap n0 (Nat.le_trans Z0 le521) f500 S_high f501 S_cache BX_G_cache f502 f503 f504 f505 f506 f507 f508 (own_TB _ _) f509 f510 f511 f512 f513 f514 f515 f516 f517 f518 f519 f520 S_COMPACT_STRINGS hP_2 (own_TS _ _) ge458 (Ne.symm g20_30) (own_TS _ _) ge460) hZ465 (wd_52 hw) (wd_13 hw) (by decide) (by decide)) q522a q522c (by rw [hml]; rfl) [] (lenOf pd_17 rfl) rfl (Nat.le_of_eq rfl) (hb hby at_24) (fun _ _ => ⟨rfl, rfl, (by decide : 34 + 3 ≤ _), (by decide : 108 + 6 ≤ _)⟩) (pc' := 27) rfl ?_
     rintro _ _ ⟨T522, L522, k522, n522⟩ X522 ⟨Lc522, hQ522, l522, y522, z522⟩
     dsimp only [Pt.U, Pt.locs, Pt.cells, Pt.slots] at X522 l522 y522 z522 hQ522 ⊢
     subst l522 y522 z522
     obtain ⟨rfl, N522q, K522, g522_0, g522_1, g522_2, g522_3, g522_4, g522_5, g522_6, g522_7, g522_8, g522_9⟩ := hQ522
     have N524 := Fr.app N475 N522q
     have y525 : Safe Z EL T465.vm T465.heap s1_20 := (CHr.safe A465 (Nat.lt_of_lt_of_le g20_18.lt (Nat.le_refl _)) g20_17)
     have y526 : Safe Z EL T465.vm T465.heap s0_20 := (CHr.safe A465 (Nat.lt_of_lt_of_le g20_8.lt (Nat.le_refl _)) g20_7)
     have C527 : CHr Z EL s.vm h0 T465.vm T522.heap := C476.trans (CHr.keep K522 (sfS y526 (sfS y525 sf0)) C476.1)
     have K528 : Keep h0 T522.heap [] := K477.trans K522 (allS (Or.inr sz459) (allS (Or.inr sz461) (all0 (P := fun x => x ∈ [] ∨ h0.size ≤ x))))
     show Runs _ _ _ _ (T522.setTop (mkF m 27 #[.val (.int p0), .val (.int p1), .val (.int p2), .val (.long q3), .second, .val (.int p4), .val (.ref r_20), .val (.ref r_465), .unset, .unset, .unset, .unset] [(.int (((31 : Int32) * (((31 : Int32) * (((31 : Int32) * ((31 : Int32) + p0)) + (hS (tl p1 (p4 &&& (3 : Int32)))))) + (hS (tl p2 (((p4.toUInt32 >>> ((2 : Int32) &&& 31).toUInt32).toInt32) &&& (3 : Int32)))))) + (hB (bl q3 (((p4.toUInt32 >>> ((4 : Int32) &&& 31).toUInt32).toInt32) &&& (3 : Int32))))))]))
     refine w_istore X522 hx (hb hby at_27) (L' := #[.val (.int p0), .val (.int p1), .val (.int p2), .val (.long q3), .second, .val (.int p4), .val (.ref r_20), .val (.ref r_465), .val (.int (((31 : Int32) * (((31 : Int32) * (((31 : Int32) * ((31 : Int32) + p0)) + (hS (tl p1 (p4 &&& (3 : Int32)))))) + (hS (tl p2 (((p4.toUInt32 >>> ((2 : Int32) &&& 31).toUInt32).toInt32) &&& (3 : Int32)))))) + (hB (bl q3 (((p4.toUInt32 >>> ((4 : Int32) &&& 31).toUInt32).toInt32) &&& (3 : Int32)))))), .unset, .unset, .unset]) rfl (pc' := 29) rfl ?_
     refine w_aload X522 hx (hb hby at_29) rfl rfl (pc' := 31) rfl ?_
     have ne553 : s1_20 ≠ r_465 := (Nat.ne_of_lt (Nat.lt_of_lt_of_le g20_18.lt (Nat.le_trans (Nat.le_refl _) g465_2)))
     have ne554 : s0_20 ≠ r_465 := (Nat.ne_of_lt (Nat.lt_of_lt_of_le g20_8.lt (Nat.le_trans (Nat.le_refl _) g465_2)))
     have f555 : Fld Z T522.heap r_465 kc1 "status" "I" (.int p0) := (g465_4.keep K522 (ninS (Ne.symm ne554) (ninS (Ne.symm ne553) nin0)))
     have f556 : Old Z n0 T522.heap := (f501.keep K522 (allS ge458 (allS ge460 all0)))
     have f557 : Fld Z T522.heap r_465 kc1 "contentType" "Ljava/lang/String;" (.ref s0_465) := (g465_5.keep K522 (ninS (Ne.symm ne554) (ninS (Ne.symm ne553) nin0)))
     have f558 : Exa Z T522.heap s0_465 kc0 := (g465_8.keep K522)
     have f559 : Fld Z T522.heap r_465 kc1 "location" "Ljava/lang/String;" (.ref s1_465) := (g465_15.keep K522 (ninS (Ne.symm ne554) (ninS (Ne.symm ne553) nin0)))
     have f560 : Exa Z T522.heap s1_465 kc0 := (g465_18.keep K522)
     have f561 : Fld Z T522.heap r_465 kc1 "body" "[B" (.ref bd_465) := (g465_25.keep K522 (ninS (Ne.symm ne554) (ninS (Ne.symm ne553) nin0)))
     have ne562 : s1_20 ≠ bd_465 := (Nat.ne_of_lt (Nat.lt_of_lt_of_le g20_18.lt (Nat.le_trans (Nat.le_refl _) g465_26)))
     have ne563 : s0_20 ≠ bd_465 := (Nat.ne_of_lt (Nat.lt_of_lt_of_le g20_8.lt (Nat.le_trans (Nat.le_refl _) g465_26)))
     have f564 : Arv Z T522.heap bd_465 kb_465 .byte (bn (((p4.toUInt32 >>> ((4 : Int32) &&& 31).toUInt32).toInt32) &&& (3 : Int32))) (mI (bl q3 (((p4.toUInt32 >>> ((4 : Int32) &&& 31).toUInt32).toInt32) &&& (3 : Int32)))) (.int (0 : Int32)) := (g465_29.keep K522 (ninS (Ne.symm ne563) (ninS (Ne.symm ne562) nin0)))
     have f565 : Exa Z T522.heap bd_465 "[B" := (g465_28.keep K522)
     have ne566 : s1_20 ≠ s0_465 := (Nat.ne_of_lt (Nat.lt_of_lt_of_le g20_18.lt (Nat.le_trans (Nat.le_refl _) g465_6)))
     have ne567 : s0_20 ≠ s0_465 := (Nat.ne_of_lt (Nat.lt_of_lt_of_le g20_8.lt (Nat.le_trans (Nat.le_refl _) g465_6)))
     have f568 : Fld Z T522.heap s0_465 kc0 "hash" "I" (.int (0 : Int32)) := (g465_11.keep K522 (ninS (Ne.symm ne567) (ninS (Ne.symm ne566) nin0)))
     have f569 : Fld Z T522.heap s0_465 kc0 "hashIsZero" "Z" (.int (0 : Int32)) := (g465_12.keep K522 (ninS (Ne.symm ne567) (ninS (Ne.symm ne566) nin0)))
     have f570 : Fld Z T522.heap s0_465 kc0 "coder" "B" (.int (0 : Int32)) := (g465_9.keep K522 (ninS (Ne.symm ne567) (ninS (Ne.symm ne566) nin0)))
     have f571 : Fld Z T522.heap s0_465 kc0 "value" "[B" (.ref t0_465) := (g465_10.keep K522 (ninS (Ne.symm ne567) (ninS (Ne.symm ne566) nin0)))
     have ne572 : s1_20 ≠ t0_465 := Exa.neArv (g20_18.keep K465) g465_14 (wd_28 hw)
     have ne573 : s0_20 ≠ t0_465 := Exa.neArv (g20_8.keep K465) g465_14 (wd_28 hw)
     have f574 : Arv Z T522.heap t0_465 k0_465 .byte (tn (p4 &&& (3 : Int32))) (mI (tl p1 (p4 &&& (3 : Int32)))) (.int (0 : Int32)) := (g465_14.keep K522 (ninS (Ne.symm ne573) (ninS (Ne.symm ne572) nin0)))
     have f575 : EB Z T522.heap t0_465 (tn (p4 &&& (3 : Int32))) := (g465_13.keep K522)
     have ne576 : s1_20 ≠ s1_465 := (Nat.ne_of_lt (Nat.lt_of_lt_of_le g20_18.lt (Nat.le_trans (Nat.le_refl _) g465_16)))
     have ne577 : s0_20 ≠ s1_465 := (Nat.ne_of_lt (Nat.lt_of_lt_of_le g20_8.lt (Nat.le_trans (Nat.le_refl _) g465_16)))
     have f578 : Fld Z T522.heap s1_465 kc0 "hash" "I" (.int (0 : Int32)) := (g465_21.keep K522 (ninS (Ne.symm ne577) (ninS (Ne.symm ne576) nin0)))
     have f579 : Fld Z T522.heap s1_465 kc0 "hashIsZero" "Z" (.int (0 : Int32)) := (g465_22.keep K522 (ninS (Ne.symm ne577) (ninS (Ne.symm ne576) nin0)))
     have f580 : Fld Z T522.heap s1_465 kc0 "coder" "B" (.int (0 : Int32)) := (g465_19.keep K522 (ninS (Ne.symm ne577) (ninS (Ne.symm ne576) nin0)))
     have f581 : Fld Z T522.heap s1_465 kc0 "value" "[B" (.ref t1_465) := (g465_20.keep K522 (ninS (Ne.symm ne577) (ninS (Ne.symm ne576) nin0)))
     have ne582 : s1_20 ≠ t1_465 := Exa.neArv (g20_18.keep K465) g465_24 (wd_28 hw)
     have ne583 : s0_20 ≠ t1_465 := Exa.neArv (g20_8.keep K465) g465_24 (wd_28 hw)
     have f584 : Arv Z T522.heap t1_465 k1_465 .byte (tn (((p4.toUInt32 >>> ((2 : Int32) &&& 31).toUInt32).toInt32) &&& (3 : Int32))) (mI (tl p2 (((p4.toUInt32 >>> ((2 : Int32) &&& 31).toUInt32).toInt32) &&& (3 : Int32)))) (.int (0 : Int32)) := (g465_24.keep K522 (ninS (Ne.symm ne583) (ninS (Ne.symm ne582) nin0)))
     have f585 : EB Z T522.heap t1_465 (tn (((p4.toUInt32 >>> ((2 : Int32) &&& 31).toUInt32).toInt32) &&& (3 : Int32))) := (g465_23.keep K522)
     have le586 : h0.size ≤ T522.heap.size := (Nat.le_trans le521 K522.1)
     have f588 : Exa Z T522.heap r_465 kc1 := (g465_3.keep K522)
     obtain ⟨cq587, kq587, q587a, q587b, q587c⟩ := isOf hZ465 rfl f588
     refine w_virtual X522 hx (y := yn_7) (z := yn_7) hown465 (mvT hZ465 (wd_48 hw)) (mvT hZ465 (wd_49 hw)) (notFace_of_selects (args := #[]) (mvT hZ465 (wd_51 hw))) (mvT hZ465 (wd_51 hw)) (mvT hZ465 (wd_50 hw)) (by decide) (backOf (W := 0) (rm_m7_70 l Z aZ hw [] r_465 p0 G_cache bxc_G_cache s0_465 s1_465 bd_465 kb_465 (bn (((p4.toUInt32 >>> ((4 : Int32) &&& 31).toUInt32).toInt32) &&& (3 : Int32))) (bl q3 (((p4.toUInt32 >>> ((4 : Int32) &&& 31).toUInt32).toInt32) &&& (3 : Int32))) t0_465 k0_465 (tn (p4 &&& (3 : Int32))) (tl p1 (p4 &&& (3 : Int32))) t1_465 k1_465 (tn (((p4.toUInt32 >>> ((2 : Int32) &&& 31).toUInt32).toInt32) &&& (3 : Int32))) (tl p2 (((p4.toUInt32 >>> ((2 : Int32) &&& 31).toUInt32).toInt32) &&& (3 : Int32))) G_COMPACT_STRINGS T522.heap n0 (Nat.le_trans Z0 le586) f555 S_high f556 S_cache BX_G_cache f557 f558 f559 f560 f561 f564 f565 (own_TB _ _) f568 f569 f570 f571 f574 f575 f578 f579 f580 f581 f584 f585 S_COMPACT_STRINGS hP_2 (own_TS _ _) ge480 (Ne.symm g465_30) (own_TS _ _) ge482) hZ465 (wd_52 hw) (wd_13 hw) (by decide) (by decide)) q587a q587c (by rw [hml]; rfl) [] (lenOf pd_17 rfl) rfl (Nat.le_of_eq rfl) (hb hby at_31) (fun _ _ => ⟨rfl, rfl, (by decide : 37 + 3 ≤ _), (by decide : 114 + 6 ≤ _)⟩) (pc' := 34) rfl ?_
     rintro _ _ ⟨T587, L587, k587, n587⟩ X587 ⟨Lc587, hQ587, l587, y587, z587⟩
     dsimp only [Pt.U, Pt.locs, Pt.cells, Pt.slots] at X587 l587 y587 z587 hQ587 ⊢
     subst l587 y587 z587
     obtain ⟨rfl, N587q, K587, g587_0, g587_1, g587_2, g587_3, g587_4, g587_5, g587_6, g587_7, g587_8, g587_9⟩ := hQ587
     have N589 := Fr.app N524 N587q
     have y590 : Safe Z EL T465.vm T522.heap s1_465 := (Safe.keep K522 (sfS y526 (sfS y525 sf0)) C476.1 g465_17)
     have y591 : Safe Z EL T465.vm T522.heap s0_465 := (Safe.keep K522 (sfS y526 (sfS y525 sf0)) C476.1 g465_7)
     have C592 : CHr Z EL s.vm h0 T465.vm T587.heap := C527.trans (CHr.keep K587 (sfS y591 (sfS y590 sf0)) C527.1)
     have K593 : Keep h0 T587.heap [] := K528.trans K587 (allS (Or.inr sz481) (allS (Or.inr sz483) (all0 (P := fun x => x ∈ [] ∨ h0.size ≤ x))))
     show Runs _ _ _ _ (T587.setTop (mkF m 34 #[.val (.int p0), .val (.int p1), .val (.int p2), .val (.long q3), .second, .val (.int p4), .val (.ref r_20), .val (.ref r_465), .val (.int (((31 : Int32) * (((31 : Int32) * (((31 : Int32) * ((31 : Int32) + p0)) + (hS (tl p1 (p4 &&& (3 : Int32)))))) + (hS (tl p2 (((p4.toUInt32 >>> ((2 : Int32) &&& 31).toUInt32).toInt32) &&& (3 : Int32)))))) + (hB (bl q3 (((p4.toUInt32 >>> ((4 : Int32) &&& 31).toUInt32).toInt32) &&& (3 : Int32)))))), .unset, .unset, .unset] [(.int (((31 : Int32) * (((31 : Int32) * (((31 : Int32) * ((31 : Int32) + p0)) + (hS (tl p1 (p4 &&& (3 : Int32)))))) + (hS (tl p2 (((p4.toUInt32 >>> ((2 : Int32) &&& 31).toUInt32).toInt32) &&& (3 : Int32)))))) + (hB (bl q3 (((p4.toUInt32 >>> ((4 : Int32) &&& 31).toUInt32).toInt32) &&& (3 : Int32))))))]))
     refine w_istore X587 hx (hb hby at_34) (L' := #[.val (.int p0), .val (.int p1), .val (.int p2), .val (.long q3), .second, .val (.int p4), .val (.ref r_20), .val (.ref r_465), .val (.int (((31 : Int32) * (((31 : Int32) * (((31 : Int32) * ((31 : Int32) + p0)) + (hS (tl p1 (p4 &&& (3 : Int32)))))) + (hS (tl p2 (((p4.toUInt32 >>> ((2 : Int32) &&& 31).toUInt32).toInt32) &&& (3 : Int32)))))) + (hB (bl q3 (((p4.toUInt32 >>> ((4 : Int32) &&& 31).toUInt32).toInt32) &&& (3 : Int32)))))), .val (.int (((31 : Int32) * (((31 : Int32) * (((31 : Int32) * ((31 : Int32) + p0)) + (hS (tl p1 (p4 &&& (3 : Int32)))))) + (hS (tl p2 (((p4.toUInt32 >>> ((2 : Int32) &&& 31).toUInt32).toInt32) &&& (3 : Int32)))))) + (hB (bl q3 (((p4.toUInt32 >>> ((4 : Int32) &&& 31).toUInt32).toInt32) &&& (3 : Int32)))))), .unset, .unset]) rfl (pc' := 36) rfl ?_
     refine w_aload X587 hx (hb hby at_36) rfl rfl (pc' := 38) rfl ?_
     have f660 : Exa Z T587.heap r_20 kc1 := ((f523.keep K522).keep K587)
     have f661 : Exa Z T587.heap s1_20 kc0 := (g522_5.keep K587)
     have ne659 : r_20 ≠ s1_20 := ne_exa f660 f661 (by decide)
     have f663 : Exa Z T587.heap s0_20 kc0 := (g522_0.keep K587)
     have ne662 : r_20 ≠ s0_20 := ne_exa f660 f663 (by decide)
     have ne664 : r_20 ≠ s1_465 := (Nat.ne_of_lt (Nat.lt_of_lt_of_le g20_3.lt (Nat.le_trans (Nat.le_refl _) g465_16)))
     have ne665 : r_20 ≠ s0_465 := (Nat.ne_of_lt (Nat.lt_of_lt_of_le g20_3.lt (Nat.le_trans (Nat.le_refl _) g465_6)))
     have f666 : Fld Z T587.heap r_20 kc1 "status" "I" (.int p0) := ((f500.keep K522 (ninS ne662 (ninS ne659 nin0))).keep K587 (ninS ne665 (ninS ne664 nin0)))
     have f667 : Old Z n0 T587.heap := (f556.keep K587 (allS ge480 (allS ge482 all0)))
     have f668 : Fld Z T587.heap r_20 kc1 "contentType" "Ljava/lang/String;" (.ref s0_20) := ((f502.keep K522 (ninS ne662 (ninS ne659 nin0))).keep K587 (ninS ne665 (ninS ne664 nin0)))
     have f669 : Fld Z T587.heap r_20 kc1 "location" "Ljava/lang/String;" (.ref s1_20) := ((f504.keep K522 (ninS ne662 (ninS ne659 nin0))).keep K587 (ninS ne665 (ninS ne664 nin0)))
     have f670 : Fld Z T587.heap r_20 kc1 "body" "[B" (.ref bd_20) := ((f506.keep K522 (ninS ne662 (ninS ne659 nin0))).keep K587 (ninS ne665 (ninS ne664 nin0)))
     have f672 : Exa Z T587.heap bd_20 "[B" := ((f508.keep K522).keep K587)
     have ne671 : bd_20 ≠ s1_20 := ne_exa f672 f661 (by decide)
     have ne673 : bd_20 ≠ s0_20 := ne_exa f672 f663 (by decide)
     have ne674 : bd_20 ≠ s1_465 := (Nat.ne_of_lt (Nat.lt_of_lt_of_le g20_28.lt (Nat.le_trans (Nat.le_refl _) g465_16)))
     have ne675 : bd_20 ≠ s0_465 := (Nat.ne_of_lt (Nat.lt_of_lt_of_le g20_28.lt (Nat.le_trans (Nat.le_refl _) g465_6)))
     have f676 : Arv Z T587.heap bd_20 kb_20 .byte (bn (((p4.toUInt32 >>> ((4 : Int32) &&& 31).toUInt32).toInt32) &&& (3 : Int32))) (mI (bl q3 (((p4.toUInt32 >>> ((4 : Int32) &&& 31).toUInt32).toInt32) &&& (3 : Int32)))) (.int (0 : Int32)) := ((f507.keep K522 (ninS ne673 (ninS ne671 nin0))).keep K587 (ninS ne675 (ninS ne674 nin0)))
     have f677 : Fld Z T587.heap s0_20 kc0 "hash" "I" (.int (hS (tl p1 (p4 &&& (3 : Int32))))) := (g522_1.keep K587 (ninS ne567 (ninS ne577 nin0)))
     have f678 : Fld Z T587.heap s0_20 kc0 "hashIsZero" "Z" (.int (if (hS (tl p1 (p4 &&& (3 : Int32)))) = (0 : Int32) then (1 : Int32) else (0 : Int32))) := (g522_2.keep K587 (ninS ne567 (ninS ne577 nin0)))
     have f679 : Fld Z T587.heap s0_20 kc0 "coder" "B" (.int (0 : Int32)) := (g522_3.keep K587 (ninS ne567 (ninS ne577 nin0)))
     have f680 : Fld Z T587.heap s0_20 kc0 "value" "[B" (.ref t0_20) := (g522_4.keep K587 (ninS ne567 (ninS ne577 nin0)))
     have ne681 : s1_20 ≠ t0_20 := Exa.neArv (g20_18.keep K465) f513 (wd_28 hw)
     have ne682 : s0_20 ≠ t0_20 := Exa.neArv (g20_8.keep K465) f513 (wd_28 hw)
     have ne683 : s1_465 ≠ t0_20 := Exa.neArv g465_18 f513 (wd_28 hw)
     have ne684 : s0_465 ≠ t0_20 := Exa.neArv g465_8 f513 (wd_28 hw)
     have f685 : Arv Z T587.heap t0_20 k0_20 .byte (tn (p4 &&& (3 : Int32))) (mI (tl p1 (p4 &&& (3 : Int32)))) (.int (0 : Int32)) := ((f513.keep K522 (ninS (Ne.symm ne682) (ninS (Ne.symm ne681) nin0))).keep K587 (ninS (Ne.symm ne684) (ninS (Ne.symm ne683) nin0)))
     have f686 : EB Z T587.heap t0_20 (tn (p4 &&& (3 : Int32))) := ((f514.keep K522).keep K587)
     have f687 : Fld Z T587.heap s1_20 kc0 "hash" "I" (.int (hS (tl p2 (((p4.toUInt32 >>> ((2 : Int32) &&& 31).toUInt32).toInt32) &&& (3 : Int32))))) := (g522_6.keep K587 (ninS ne566 (ninS ne576 nin0)))
     have f688 : Fld Z T587.heap s1_20 kc0 "hashIsZero" "Z" (.int (if (hS (tl p2 (((p4.toUInt32 >>> ((2 : Int32) &&& 31).toUInt32).toInt32) &&& (3 : Int32)))) = (0 : Int32) then (1 : Int32) else (0 : Int32))) := (g522_7.keep K587 (ninS ne566 (ninS ne576 nin0)))
     have f689 : Fld Z T587.heap s1_20 kc0 "coder" "B" (.int (0 : Int32)) := (g522_8.keep K587 (ninS ne566 (ninS ne576 nin0)))
     have f690 : Fld Z T587.heap s1_20 kc0 "value" "[B" (.ref t1_20) := (g522_9.keep K587 (ninS ne566 (ninS ne576 nin0)))
     have ne691 : s1_20 ≠ t1_20 := Exa.neArv (g20_18.keep K465) f519 (wd_28 hw)
     have ne692 : s0_20 ≠ t1_20 := Exa.neArv (g20_8.keep K465) f519 (wd_28 hw)
     have ne693 : s1_465 ≠ t1_20 := Exa.neArv g465_18 f519 (wd_28 hw)
     have ne694 : s0_465 ≠ t1_20 := Exa.neArv g465_8 f519 (wd_28 hw)
     have f695 : Arv Z T587.heap t1_20 k1_20 .byte (tn (((p4.toUInt32 >>> ((2 : Int32) &&& 31).toUInt32).toInt32) &&& (3 : Int32))) (mI (tl p2 (((p4.toUInt32 >>> ((2 : Int32) &&& 31).toUInt32).toInt32) &&& (3 : Int32)))) (.int (0 : Int32)) := ((f519.keep K522 (ninS (Ne.symm ne692) (ninS (Ne.symm ne691) nin0))).keep K587 (ninS (Ne.symm ne694) (ninS (Ne.symm ne693) nin0)))
     have f696 : EB Z T587.heap t1_20 (tn (((p4.toUInt32 >>> ((2 : Int32) &&& 31).toUInt32).toInt32) &&& (3 : Int32))) := ((f520.keep K522).keep K587)
     have le697 : h0.size ≤ T587.heap.size := (Nat.le_trans le586 K587.1)
     obtain ⟨cq698, kq698, q698a, q698b, q698c⟩ := isOf hZ465 rfl f660
     refine w_virtual X587 hx (y := yn_7) (z := yn_7) hown465 (mvT hZ465 (wd_48 hw)) (mvT hZ465 (wd_49 hw)) (notFace_of_selects (args := #[]) (mvT hZ465 (wd_51 hw))) (mvT hZ465 (wd_51 hw)) (mvT hZ465 (wd_50 hw)) (by decide) (backOf (W := 0) (rm_m7_73 l Z aZ hw [] r_20 p0 G_cache bxc_G_cache s0_20 s1_20 bd_20 kb_20 (bn (((p4.toUInt32 >>> ((4 : Int32) &&& 31).toUInt32).toInt32) &&& (3 : Int32))) (bl q3 (((p4.toUInt32 >>> ((4 : Int32) &&& 31).toUInt32).toInt32) &&& (3 : Int32))) (hS (tl p1 (p4 &&& (3 : Int32)))) (if (hS (tl p1 (p4 &&& (3 : Int32)))) = (0 : Int32) then (1 : Int32) else (0 : Int32)) t0_20 k0_20 (tn (p4 &&& (3 : Int32))) (tl p1 (p4 &&& (3 : Int32))) (hS (tl p2 (((p4.toUInt32 >>> ((2 : Int32) &&& 31).toUInt32).toInt32) &&& (3 : Int32)))) (if (hS (tl p2 (((p4.toUInt32 >>> ((2 : Int32) &&& 31).toUInt32).toInt32) &&& (3 : Int32)))) = (0 : Int32) then (1 : Int32) else (0 : Int32)) t1_20 k1_20 (tn (((p4.toUInt32 >>> ((2 : Int32) &&& 31).toUInt32).toInt32) &&& (3 : Int32))) (tl p2 (((p4.toUInt32 >>> ((2 : Int32) &&& 31).toUInt32).toInt32) &&& (3 : Int32))) G_COMPACT_STRINGS T587.heap n0 (Nat.le_trans Z0 le697) f666 S_high f667 S_cache BX_G_cache f668 f663 f669 f661 f670 f676 f672 (own_TB _ _) f677 f678 f679 f680 f685 f686 f687 f688 f689 f690 f695 f696 S_COMPACT_STRINGS hP_2 (own_TS _ _) ge458 (Or.inr ⟨rfl, rfl⟩) (Ne.symm g20_30) (own_TS _ _) ge460 (Or.inr ⟨rfl, rfl⟩)) hZ465 (wd_52 hw) (wd_13 hw) (by decide) (by decide)) q698a q698c (by rw [hml]; rfl) [] (lenOf pd_17 rfl) rfl (Nat.le_of_eq rfl) (hb hby at_38) (fun _ _ => ⟨rfl, rfl, (by decide : 40 + 3 ≤ _), (by decide : 120 + 6 ≤ _)⟩) (pc' := 41) rfl ?_
     rintro _ _ ⟨T698, L698, k698, n698⟩ X698 ⟨Lc698, hQ698, l698, y698, z698⟩
     dsimp only [Pt.U, Pt.locs, Pt.cells, Pt.slots] at X698 l698 y698 z698 hQ698 ⊢
     subst l698 y698 z698
     obtain ⟨rfl, N698q, K698, g698_0, g698_1, g698_2, g698_3, g698_4, g698_5, g698_6, g698_7, g698_8, g698_9⟩ := hQ698
     have N699 := Fr.app N589 N698q
     have y700 : Safe Z EL T465.vm T587.heap s1_20 := (Safe.keep K587 (sfS y591 (sfS y590 sf0)) C527.1 (Safe.keep K522 (sfS y526 (sfS y525 sf0)) C476.1 y525))
     have y701 : Safe Z EL T465.vm T587.heap s0_20 := (Safe.keep K587 (sfS y591 (sfS y590 sf0)) C527.1 (Safe.keep K522 (sfS y526 (sfS y525 sf0)) C476.1 y526))
     have C702 : CHr Z EL s.vm h0 T465.vm T698.heap := C592.trans (CHr.keep K698 (sfS y701 (sfS y700 sf0)) C592.1)
     have K703 : Keep h0 T698.heap [] := K593.trans K698 (allS (Or.inr sz459) (allS (Or.inr sz461) (all0 (P := fun x => x ∈ [] ∨ h0.size ≤ x))))
     show Runs _ _ _ _ (T698.setTop (mkF m 41 #[.val (.int p0), .val (.int p1), .val (.int p2), .val (.long q3), .second, .val (.int p4), .val (.ref r_20), .val (.ref r_465), .val (.int (((31 : Int32) * (((31 : Int32) * (((31 : Int32) * ((31 : Int32) + p0)) + (hS (tl p1 (p4 &&& (3 : Int32)))))) + (hS (tl p2 (((p4.toUInt32 >>> ((2 : Int32) &&& 31).toUInt32).toInt32) &&& (3 : Int32)))))) + (hB (bl q3 (((p4.toUInt32 >>> ((4 : Int32) &&& 31).toUInt32).toInt32) &&& (3 : Int32)))))), .val (.int (((31 : Int32) * (((31 : Int32) * (((31 : Int32) * ((31 : Int32) + p0)) + (hS (tl p1 (p4 &&& (3 : Int32)))))) + (hS (tl p2 (((p4.toUInt32 >>> ((2 : Int32) &&& 31).toUInt32).toInt32) &&& (3 : Int32)))))) + (hB (bl q3 (((p4.toUInt32 >>> ((4 : Int32) &&& 31).toUInt32).toInt32) &&& (3 : Int32)))))), .unset, .unset] [(.int (((31 : Int32) * (((31 : Int32) * (((31 : Int32) * ((31 : Int32) + p0)) + (hS (tl p1 (p4 &&& (3 : Int32)))))) + (hS (tl p2 (((p4.toUInt32 >>> ((2 : Int32) &&& 31).toUInt32).toInt32) &&& (3 : Int32)))))) + (hB (bl q3 (((p4.toUInt32 >>> ((4 : Int32) &&& 31).toUInt32).toInt32) &&& (3 : Int32))))))]))
     refine w_istore X698 hx (hb hby at_41) (L' := #[.val (.int p0), .val (.int p1), .val (.int p2), .val (.long q3), .second, .val (.int p4), .val (.ref r_20), .val (.ref r_465), .val (.int (((31 : Int32) * (((31 : Int32) * (((31 : Int32) * ((31 : Int32) + p0)) + (hS (tl p1 (p4 &&& (3 : Int32)))))) + (hS (tl p2 (((p4.toUInt32 >>> ((2 : Int32) &&& 31).toUInt32).toInt32) &&& (3 : Int32)))))) + (hB (bl q3 (((p4.toUInt32 >>> ((4 : Int32) &&& 31).toUInt32).toInt32) &&& (3 : Int32)))))), .val (.int (((31 : Int32) * (((31 : Int32) * (((31 : Int32) * ((31 : Int32) + p0)) + (hS (tl p1 (p4 &&& (3 : Int32)))))) + (hS (tl p2 (((p4.toUInt32 >>> ((2 : Int32) &&& 31).toUInt32).toInt32) &&& (3 : Int32)))))) + (hB (bl q3 (((p4.toUInt32 >>> ((4 : Int32) &&& 31).toUInt32).toInt32) &&& (3 : Int32)))))), .val (.int (((31 : Int32) * (((31 : Int32) * (((31 : Int32) * ((31 : Int32) + p0)) + (hS (tl p1 (p4 &&& (3 : Int32)))))) + (hS (tl p2 (((p4.toUInt32 >>> ((2 : Int32) &&& 31).toUInt32).toInt32) &&& (3 : Int32)))))) + (hB (bl q3 (((p4.toUInt32 >>> ((4 : Int32) &&& 31).toUInt32).toInt32) &&& (3 : Int32)))))), .unset]) rfl (pc' := 43) rfl ?_
     refine w_aload X698 hx (hb hby at_43) rfl rfl (pc' := 45) rfl ?_
     refine w_aload X698 hx (hb hby at_45) rfl rfl (pc' := 47) rfl ?_
     have f734 : Exa Z T698.heap r_465 kc1 := ((f588.keep K587).keep K698)
     have f735 : Fld Z T698.heap r_20 kc1 "status" "I" (.int p0) := (f666.keep K698 (ninS ne662 (ninS ne659 nin0)))
     have f737 : Exa Z T698.heap s1_465 kc0 := (g587_5.keep K698)
     have ne736 : r_465 ≠ s1_465 := ne_exa f734 f737 (by decide)
     have f739 : Exa Z T698.heap s0_465 kc0 := (g587_0.keep K698)
     have ne738 : r_465 ≠ s0_465 := ne_exa f734 f739 (by decide)
     have f740 : Fld Z T698.heap r_465 kc1 "status" "I" (.int p0) := ((f555.keep K587 (ninS ne738 (ninS ne736 nin0))).keep K698 (ninS (Ne.symm ne554) (ninS (Ne.symm ne553) nin0)))
     have f741 : Fld Z T698.heap r_20 kc1 "contentType" "Ljava/lang/String;" (.ref s0_20) := (f668.keep K698 (ninS ne662 (ninS ne659 nin0)))
     have f742 : Fld Z T698.heap r_465 kc1 "contentType" "Ljava/lang/String;" (.ref s0_465) := ((f557.keep K587 (ninS ne738 (ninS ne736 nin0))).keep K698 (ninS (Ne.symm ne554) (ninS (Ne.symm ne553) nin0)))
     have f743 : Fld Z T698.heap s0_465 kc0 "coder" "B" (.int (0 : Int32)) := (g587_3.keep K698 (ninS (Ne.symm ne567) (ninS (Ne.symm ne566) nin0)))
     have f744 : Fld Z T698.heap s0_465 kc0 "value" "[B" (.ref t0_465) := (g587_4.keep K698 (ninS (Ne.symm ne567) (ninS (Ne.symm ne566) nin0)))
     have f745 : Arv Z T698.heap t0_20 k0_20 .byte (tn (p4 &&& (3 : Int32))) (mI (tl p1 (p4 &&& (3 : Int32)))) (.int (0 : Int32)) := (f685.keep K698 (ninS (Ne.symm ne682) (ninS (Ne.symm ne681) nin0)))
     have ne746 : s1_465 ≠ t0_465 := Exa.neArv (g465_18.keep K522) f574 (wd_28 hw)
     have ne747 : s0_465 ≠ t0_465 := Exa.neArv (g465_8.keep K522) f574 (wd_28 hw)
     have f748 : Arv Z T698.heap t0_465 k0_465 .byte (tn (p4 &&& (3 : Int32))) (mI (tl p1 (p4 &&& (3 : Int32)))) (.int (0 : Int32)) := ((f574.keep K587 (ninS (Ne.symm ne747) (ninS (Ne.symm ne746) nin0))).keep K698 (ninS (Ne.symm ne573) (ninS (Ne.symm ne572) nin0)))
     have f749 : Old Z n0 T698.heap := (f667.keep K698 (allS ge458 (allS ge460 all0)))
     have f750 : Fld Z T698.heap r_20 kc1 "location" "Ljava/lang/String;" (.ref s1_20) := (f669.keep K698 (ninS ne662 (ninS ne659 nin0)))
     have f751 : Fld Z T698.heap r_465 kc1 "location" "Ljava/lang/String;" (.ref s1_465) := ((f559.keep K587 (ninS ne738 (ninS ne736 nin0))).keep K698 (ninS (Ne.symm ne554) (ninS (Ne.symm ne553) nin0)))
     have f752 : Fld Z T698.heap s1_465 kc0 "coder" "B" (.int (0 : Int32)) := (g587_8.keep K698 (ninS (Ne.symm ne577) (ninS (Ne.symm ne576) nin0)))
     have f753 : Fld Z T698.heap s1_465 kc0 "value" "[B" (.ref t1_465) := (g587_9.keep K698 (ninS (Ne.symm ne577) (ninS (Ne.symm ne576) nin0)))
     have f754 : Arv Z T698.heap t1_20 k1_20 .byte (tn (((p4.toUInt32 >>> ((2 : Int32) &&& 31).toUInt32).toInt32) &&& (3 : Int32))) (mI (tl p2 (((p4.toUInt32 >>> ((2 : Int32) &&& 31).toUInt32).toInt32) &&& (3 : Int32)))) (.int (0 : Int32)) := (f695.keep K698 (ninS (Ne.symm ne692) (ninS (Ne.symm ne691) nin0)))
     have ne755 : s1_465 ≠ t1_465 := Exa.neArv (g465_18.keep K522) f584 (wd_28 hw)
     have ne756 : s0_465 ≠ t1_465 := Exa.neArv (g465_8.keep K522) f584 (wd_28 hw)
     have f757 : Arv Z T698.heap t1_465 k1_465 .byte (tn (((p4.toUInt32 >>> ((2 : Int32) &&& 31).toUInt32).toInt32) &&& (3 : Int32))) (mI (tl p2 (((p4.toUInt32 >>> ((2 : Int32) &&& 31).toUInt32).toInt32) &&& (3 : Int32)))) (.int (0 : Int32)) := ((f584.keep K587 (ninS (Ne.symm ne756) (ninS (Ne.symm ne755) nin0))).keep K698 (ninS (Ne.symm ne583) (ninS (Ne.symm ne582) nin0)))
     have f758 : Fld Z T698.heap r_20 kc1 "body" "[B" (.ref bd_20) := (f670.keep K698 (ninS ne662 (ninS ne659 nin0)))
     have f759 : Fld Z T698.heap r_465 kc1 "body" "[B" (.ref bd_465) := ((f561.keep K587 (ninS ne738 (ninS ne736 nin0))).keep K698 (ninS (Ne.symm ne554) (ninS (Ne.symm ne553) nin0)))
     have f760 : Arv Z T698.heap bd_20 kb_20 .byte (bn (((p4.toUInt32 >>> ((4 : Int32) &&& 31).toUInt32).toInt32) &&& (3 : Int32))) (mI (bl q3 (((p4.toUInt32 >>> ((4 : Int32) &&& 31).toUInt32).toInt32) &&& (3 : Int32)))) (.int (0 : Int32)) := (f676.keep K698 (ninS ne673 (ninS ne671 nin0)))
     have f762 : Exa Z T698.heap bd_465 "[B" := ((f565.keep K587).keep K698)
     have ne761 : bd_465 ≠ s1_465 := ne_exa f762 f737 (by decide)
     have ne763 : bd_465 ≠ s0_465 := ne_exa f762 f739 (by decide)
     have f764 : Arv Z T698.heap bd_465 kb_465 .byte (bn (((p4.toUInt32 >>> ((4 : Int32) &&& 31).toUInt32).toInt32) &&& (3 : Int32))) (mI (bl q3 (((p4.toUInt32 >>> ((4 : Int32) &&& 31).toUInt32).toInt32) &&& (3 : Int32)))) (.int (0 : Int32)) := ((f564.keep K587 (ninS ne763 (ninS ne761 nin0))).keep K698 (ninS (Ne.symm ne563) (ninS (Ne.symm ne562) nin0)))
     have ne765 : bd_20 ≠ bd_465 := (Nat.ne_of_lt (Nat.lt_of_lt_of_le g20_28.lt (Nat.le_trans (Nat.le_refl _) g465_26)))
     have le766 : h0.size ≤ T698.heap.size := (Nat.le_trans le697 K698.1)
     have f768 : Exa Z T698.heap r_20 kc1 := (f660.keep K698)
     obtain ⟨cq767, kq767, q767a, q767b, q767c⟩ := isOf hZ465 rfl f768
     refine w_virtual X698 hx (y := yn_14) (z := yn_14) hown465 (mvT hZ465 (wd_84 hw)) (mvT hZ465 (wd_85 hw)) (notFace_of_selects (args := #[]) (mvT hZ465 (wd_87 hw))) (mvT hZ465 (wd_87 hw)) (mvT hZ465 (wd_86 hw)) (by decide) (backOf (W := 0) (rm_m14_76 l Z aZ hw [] r_20 r_465 p0 s0_20 s0_465 t0_20 t0_465 k0_20 (tn (p4 &&& (3 : Int32))) (tl p1 (p4 &&& (3 : Int32))) k0_465 G_COMPACT_STRINGS s1_20 s1_465 t1_20 t1_465 k1_20 (tn (((p4.toUInt32 >>> ((2 : Int32) &&& 31).toUInt32).toInt32) &&& (3 : Int32))) (tl p2 (((p4.toUInt32 >>> ((2 : Int32) &&& 31).toUInt32).toInt32) &&& (3 : Int32))) k1_465 bd_20 bd_465 kb_20 (bn (((p4.toUInt32 >>> ((4 : Int32) &&& 31).toUInt32).toInt32) &&& (3 : Int32))) (bl q3 (((p4.toUInt32 >>> ((4 : Int32) &&& 31).toUInt32).toInt32) &&& (3 : Int32))) kb_465 T698.heap n0 (Nat.le_trans Z0 le766) f734 f735 f740 f741 f742 g698_0 f739 g698_3 f743 g698_4 f744 f745 f748 S_COMPACT_STRINGS f749 ne567 hP_2 (own_TS _ _) f750 f751 g698_5 f737 g698_8 f752 g698_9 f753 f754 f757 ne576 (own_TS _ _) f758 f759 f760 f764 (own_TB _ _) ne765) hZ465 (wd_88 hw) (wd_13 hw) (by decide) (by decide)) q767a q767c (by rw [hml]; rfl) [(.ref r_465)] (lenOf pd_22 rfl) rfl (Nat.le_of_eq rfl) (hb hby at_47) (fun _ _ => ⟨rfl, rfl, (by decide : 43 + 0 ≤ _), (by decide : 126 + 0 ≤ _)⟩) (pc' := 50) rfl ?_
     rintro _ _ ⟨T767, L767, k767, n767⟩ X767 ⟨Lc767, hQ767, l767, y767, z767⟩
     dsimp only [Pt.U, Pt.locs, Pt.cells, Pt.slots] at X767 l767 y767 z767 hQ767 ⊢
     subst l767 y767 z767
     obtain ⟨rfl, N767q, e767⟩ := hQ767
     have N769 := Fr.app N699 N767q
     show Runs _ _ _ _ (T767.setTop (mkF m 50 #[.val (.int p0), .val (.int p1), .val (.int p2), .val (.long q3), .second, .val (.int p4), .val (.ref r_20), .val (.ref r_465), .val (.int (((31 : Int32) * (((31 : Int32) * (((31 : Int32) * ((31 : Int32) + p0)) + (hS (tl p1 (p4 &&& (3 : Int32)))))) + (hS (tl p2 (((p4.toUInt32 >>> ((2 : Int32) &&& 31).toUInt32).toInt32) &&& (3 : Int32)))))) + (hB (bl q3 (((p4.toUInt32 >>> ((4 : Int32) &&& 31).toUInt32).toInt32) &&& (3 : Int32)))))), .val (.int (((31 : Int32) * (((31 : Int32) * (((31 : Int32) * ((31 : Int32) + p0)) + (hS (tl p1 (p4 &&& (3 : Int32)))))) + (hS (tl p2 (((p4.toUInt32 >>> ((2 : Int32) &&& 31).toUInt32).toInt32) &&& (3 : Int32)))))) + (hB (bl q3 (((p4.toUInt32 >>> ((4 : Int32) &&& 31).toUInt32).toInt32) &&& (3 : Int32)))))), .val (.int (((31 : Int32) * (((31 : Int32) * (((31 : Int32) * ((31 : Int32) + p0)) + (hS (tl p1 (p4 &&& (3 : Int32)))))) + (hS (tl p2 (((p4.toUInt32 >>> ((2 : Int32) &&& 31).toUInt32).toInt32) &&& (3 : Int32)))))) + (hB (bl q3 (((p4.toUInt32 >>> ((4 : Int32) &&& 31).toUInt32).toInt32) &&& (3 : Int32)))))), .unset] [(.int (1 : Int32))]))
     refine w_istore X767 hx (hb hby at_50) (L' := #[.val (.int p0), .val (.int p1), .val (.int p2), .val (.long q3), .second, .val (.int p4), .val (.ref r_20), .val (.ref r_465), .val (.int (((31 : Int32) * (((31 : Int32) * (((31 : Int32) * ((31 : Int32) + p0)) + (hS (tl p1 (p4 &&& (3 : Int32)))))) + (hS (tl p2 (((p4.toUInt32 >>> ((2 : Int32) &&& 31).toUInt32).toInt32) &&& (3 : Int32)))))) + (hB (bl q3 (((p4.toUInt32 >>> ((4 : Int32) &&& 31).toUInt32).toInt32) &&& (3 : Int32)))))), .val (.int (((31 : Int32) * (((31 : Int32) * (((31 : Int32) * ((31 : Int32) + p0)) + (hS (tl p1 (p4 &&& (3 : Int32)))))) + (hS (tl p2 (((p4.toUInt32 >>> ((2 : Int32) &&& 31).toUInt32).toInt32) &&& (3 : Int32)))))) + (hB (bl q3 (((p4.toUInt32 >>> ((4 : Int32) &&& 31).toUInt32).toInt32) &&& (3 : Int32)))))), .val (.int (((31 : Int32) * (((31 : Int32) * (((31 : Int32) * ((31 : Int32) + p0)) + (hS (tl p1 (p4 &&& (3 : Int32)))))) + (hS (tl p2 (((p4.toUInt32 >>> ((2 : Int32) &&& 31).toUInt32).toInt32) &&& (3 : Int32)))))) + (hB (bl q3 (((p4.toUInt32 >>> ((4 : Int32) &&& 31).toUInt32).toInt32) &&& (3 : Int32)))))), .val (.int (1 : Int32))]) rfl (pc' := 52) rfl ?_
     refine w_iload X767 hx (hb hby at_52) rfl (pc' := 54) rfl ?_
     refine w_iload X767 hx (hb hby at_54) rfl (pc' := 56) rfl ?_
     refine w_icN X767 hx (hb hby at_56) (teq (rfl : (((31 : Int32) * (((31 : Int32) * (((31 : Int32) * ((31 : Int32) + p0)) + (hS (tl p1 (p4 &&& (3 : Int32)))))) + (hS (tl p2 (((p4.toUInt32 >>> ((2 : Int32) &&& 31).toUInt32).toInt32) &&& (3 : Int32)))))) + (hB (bl q3 (((p4.toUInt32 >>> ((4 : Int32) &&& 31).toUInt32).toInt32) &&& (3 : Int32))))) = (((31 : Int32) * (((31 : Int32) * (((31 : Int32) * ((31 : Int32) + p0)) + (hS (tl p1 (p4 &&& (3 : Int32)))))) + (hS (tl p2 (((p4.toUInt32 >>> ((2 : Int32) &&& 31).toUInt32).toInt32) &&& (3 : Int32)))))) + (hB (bl q3 (((p4.toUInt32 >>> ((4 : Int32) &&& 31).toUInt32).toInt32) &&& (3 : Int32))))))).2 (pc' := 59) rfl ?_
     refine w_iload X767 hx (hb hby at_59) rfl (pc' := 61) rfl ?_
     refine w_ifN X767 hx (hb hby at_61) (feq (by decide : ¬ ((1 : Int32) = (0 : Int32)))).1 (pc' := 64) rfl ?_
     refine w_iload X767 hx (hb hby at_64) rfl (pc' := 66) rfl ?_
     refine w_iload X767 hx (hb hby at_66) rfl (pc' := 68) rfl ?_
     refine w_icN X767 hx (hb hby at_68) (teq (rfl : (((31 : Int32) * (((31 : Int32) * (((31 : Int32) * ((31 : Int32) + p0)) + (hS (tl p1 (p4 &&& (3 : Int32)))))) + (hS (tl p2 (((p4.toUInt32 >>> ((2 : Int32) &&& 31).toUInt32).toInt32) &&& (3 : Int32)))))) + (hB (bl q3 (((p4.toUInt32 >>> ((4 : Int32) &&& 31).toUInt32).toInt32) &&& (3 : Int32))))) = (((31 : Int32) * (((31 : Int32) * (((31 : Int32) * ((31 : Int32) + p0)) + (hS (tl p1 (p4 &&& (3 : Int32)))))) + (hS (tl p2 (((p4.toUInt32 >>> ((2 : Int32) &&& 31).toUInt32).toInt32) &&& (3 : Int32)))))) + (hB (bl q3 (((p4.toUInt32 >>> ((4 : Int32) &&& 31).toUInt32).toInt32) &&& (3 : Int32))))))).2 (pc' := 71) rfl ?_
     refine w_iconst X767 hx (hb hby at_71) (v := (1 : Int32)) rfl (pc' := 72) rfl ?_
     refine w_goto X767 hx (hb hby at_72) (pc' := 76) (by decide) (by decide) ?_
     have le770 : T465.heap.size ≤ T587.heap.size := (Nat.le_trans K522.1 K587.1)
     have le771 : T465.heap.size ≤ T698.heap.size := (Nat.le_trans le770 K698.1)
     exact w_doneH X767 hlk (v := some (.int (1 : Int32))) e767 hh hZ465 (own_EW hw) hS465 (Nat.le_trans (Nat.le_refl _) le771) C702 (fun h => by rw [hret] at h; cases h) (fun fs hr => retN X767 hx (t := .boolean) hret (by simp) (hb hby at_76) hr) (by decide) (by decide) (fun hsy => ⟨rfl, N769⟩)
set_option maxRecDepth 65536 in
set_option maxHeartbeats 40000000 in
theorem comes_1 {Post : Tables → Env → Array Value → State → Outcome → State → Prop} (hpost : ∀ tb e args s v u, (limb_1_1.after args s (.returned v) u = true ∧ limb_1_2.after args s (.returned v) u = true ∧ True) → ReturnedEndW s (.returned v) u (Jvm.fieldLocs frame_1_writes args s ++ Jvm.arrayLocs frame_1_arrays args s ++ Jvm.staticLocs frame_1_statics s) 72 2304 → Post tb e args s (.returned v) u) :
    ArmFor flags0 classFile x code maxLocals ret World_1 tables_1 room_1 Calls_1 rest_1 Pre_1 Post := by
  intro l hfl _ _ p e ha hc hk s m args below hf hA hF happ hP
  obtain ⟨hcalls, hrest, hpre⟩ := hP
  obtain ⟨-, -, -, hnamed, -, -, -, hat⟩ := (Spec.applies_iff hf).mp happ
  obtain ⟨hg, hn⟩ := and_e (Cond.before_iff.mp (show (Jvm.Cond.and given_1 narrow_1).before args s = true from hpre))
  obtain ⟨gv1, gv2⟩ := and_e hg
  obtain ⟨gv3, gv4⟩ := and_e gv2
  obtain ⟨gv5, gv6⟩ := and_e gv4
  obtain ⟨gv7, gv8⟩ := and_e gv6
  obtain ⟨gv9, gv10⟩ := and_e gv8
  obtain ⟨w0, w1, w2, w3, w4, rfl⟩ : ∃ w0 w1 w2 w3 w4 : Value, args = #[w0, w1, w2, w3, w4] := by
    have hs : args.size = 5 := by simpa [Cond.value, given_1] using gv1
    obtain ⟨L⟩ := args
    match L, hs with
    | [w0, w1, w2, w3, w4], _ => exact ⟨w0, w1, w2, w3, w4, rfl⟩
  have hw := fun d (hd : d ∈ tables_1) => atoms_spec (ws := Jvm.Cond.code x code maxLocals ret :: tables_1) hat d (List.mem_cons_of_mem _ hd)
  have hfit : Fit s := fun {y c} hc i hi => by
    obtain ⟨ha, rfl⟩ := Array.getElem?_eq_some_iff.mp hc
    have q := List.all_eq_true.mp ((Array.all_eq_true_iff_forall_mem.mp hF) _ (Array.getElem_mem ha)) i (List.mem_range.mpr hi)
    simpa [Array.getElem?_eq_getElem hi] using q
  obtain ⟨hsets, hown0⟩ := atoms_of _ (rest_1_c_eq ▸ (show rest_1_c.before _ s = true from hrest))
  have hr0 := Cond.before_iff.mp hown0
  obtain ⟨i0, ei0⟩ := is_v gv3
  obtain rfl : w0 = (.int i0) := Option.some.inj ei0
  obtain ⟨i1, ei1⟩ := is_v gv5
  obtain rfl : w1 = (.int i1) := Option.some.inj ei1
  obtain ⟨i2, ei2⟩ := is_v gv7
  obtain rfl : w2 = (.int i2) := Option.some.inj ei2
  obtain ⟨i3, ei3⟩ := isL_v gv9
  obtain rfl : w3 = (.long i3) := Option.some.inj ei3
  obtain ⟨i4, ei4⟩ := is_v gv10
  obtain rfl : w4 = (.int i4) := Option.some.inj ei4
  obtain ⟨G_COMPACT_STRINGS, ev_G_COMPACT_STRINGS⟩ := is_v (Cond.before_iff.mp (hsets _ (List.mem_of_getElem? (i := 9) rfl)))
  have S_COMPACT_STRINGS := Sta.start ev_G_COMPACT_STRINGS (Or.inl (hsets _ (List.mem_of_getElem? (i := 8) rfl)))
  have ev_high := eqv_i (Term.int_eval (127)) (Cond.before_iff.mp (hsets _ (List.mem_of_getElem? (i := 3) rfl)))
  have S_high := Sta.start ev_high (Or.inl (hsets _ (List.mem_of_getElem? (i := 1) rfl)))
  obtain ⟨G_cache, ev_G_cache⟩ := exa_v (Cond.before_iff.mp (hsets _ (List.mem_of_getElem? (i := 5) rfl)))
  have S_cache := Sta.start ev_G_cache (Or.inr ⟨(wd_60 hw), (hsets _ (List.mem_of_getElem? (i := 2) rfl))⟩)
  obtain ⟨bxc_G_cache, AB_G_cache⟩ := Arr.start ev_G_cache (Cond.before_iff.mp (hsets _ (List.mem_of_getElem? (i := 4) rfl)))
  obtain ⟨qB_G_cache, eB_G_cache⟩ := own_len ev_G_cache AB_G_cache (Cond.before_iff.mp (hsets _ (List.mem_of_getElem? (i := 6) rfl)))
  have BX_G_cache : Bxs s G_cache bxc_G_cache "java/lang/Integer" "I" (256 : Int32) (fun j => .int (j - 128)) := Bxs.start (fun _ => ev_G_cache) AB_G_cache qB_G_cache eB_G_cache (by decide) (Cond.before_iff.mp (hsets _ (List.mem_of_getElem? (i := 7) rfl))) (fun X j nn h => eqv_i (Term.sub_int (idx_at nn) (Term.int_eval _)) h)
  have hP_2 : ¬ (G_COMPACT_STRINGS = (0 : Int32)) := fun q => by
    have h9 := not_v (Cond.before_iff.mp (hsets _ (List.mem_of_getElem? (i := 10) rfl)))
    rw [eq_i ev_G_COMPACT_STRINGS (Term.int_eval 0) (by rw [q])] at h9
    cases h9
  have hCH : CHv s EL s.vm s.heap := CHv.start (own_EW hw) (fun p hp => hcalls.1 p hp) (hsets _ (List.mem_of_getElem? (i := 10) rfl)) (wd_10 hw) (wd_28 hw)
  obtain ⟨n, o, h1, h2, h3, _, L, rfl, ⟨rfl, N⟩, -, hq⟩ := rm_law l s _ hw tables_1 i0 i1 i2 i3 i4 G_COMPACT_STRINGS G_cache bxc_G_cache s.heap s.heap.size (Nat.le_refl _) S_COMPACT_STRINGS (Old.start s) hP_2 S_high S_cache BX_G_cache p e ha hc hk s m _ below hf ((Spec.applies_iff_loose hf).mp happ).1 ⟨rfl, State.Warmed39.refl s, rfl, hCH, fun x hx => nomatch hx⟩ trivial
  refine ⟨n, _, h1, h2, h3, hpost _ _ _ _ _ _ ⟨Cond.after_iff.mpr rfl, Cond.after_iff.mpr (eq_i res_at (Term.int_eval (1)) rfl), trivial⟩ ⟨hq.1, hq.2.1, hq.2.2.1, (hq.2.2.2.sift fun y hy => Or.inr (N y hy)).mono (by decide) (by decide)⟩⟩
theorem main_1_1 : Claimed_1_1 := comes_1 fun _ _ _ _ _ _ h hF => ⟨h.1, hF⟩
theorem main_1_2 : Claimed_1_2 := comes_1 fun _ _ _ _ _ _ h hF => ⟨h.2.1, hF⟩
end Jvm.Pilot.@@N@@
namespace Jvm.Pilot.@@N@@
open Jvm Jvm.ClassFile Sem Op Lib Jvm.Free Jvm.Stand Jvm.Pilot.@@N@@.Jvm.D
/-! MADE BY PROGRAM (witnessworld.py) out of the Statement's table words and the real class files: 27 classes; the members and pool entries that the words name. The judged class is class 1, her method 1. -/
namespace start1
open Jvm.ClassFile
def u (s : String) : CpInfo := .utf8 (stringToUtf16 s)
/-- a pool by its gaps: so many unusable entries, then the entry; so many at the end -/
def gap : Nat → List CpInfo → List CpInfo
  | 0, r => r
  | n + 1, r => .unusable :: gap n r
def poolList (es : List (Nat × CpInfo)) (last : Nat) : List CpInfo := es.foldr (fun e r => gap e.1 (e.2 :: r)) (gap last [])
def pool (es : List (Nat × CpInfo)) (last : Nat) : Array CpInfo := ⟨poolList es last⟩
def fileOf (pool : Array CpInfo) (this : Nat) (attrs : Array Attribute := #[]) (ms : Array MethodInfo := #[]) (fl : Nat := 33) (sup : Nat := 0) (ifs : Array Nat := #[]) (fds : Array FieldInfo := #[]) : ClassFile where
  minorVersion := 0
  majorVersion := 65
  constantPool := pool
  accessFlags := fl
  thisClass := this
  superClass := sup
  interfaces := ifs
  fields := fds
  methods := ms
  attributes := attrs
def plain (name : String) (sup : Option ClassId) : Class where
  name := name
  kind := .ordinary
  loader := none
  accessFlags := 33
  super := sup
  interfaces := #[]
  cf := none
  fields := #[]
  methods := #[]
  instanceTypes := #[]
  staticTypes := #[]
  resolved := #[]
  callSites := []
  init := .initialized
  statics := none
  mirror := none

def pool0 : Array CpInfo := pool [(5, u "<init>"), (0, u "()V"), (1, .class_ 10), (1, u "java/lang/Object"), (16, u "hashCode"), (0, u "()I"), (63, u "equals"), (0, u "(Ljava/lang/Object;)Z"), (2, u "clone"), (0, u "()Ljava/lang/Object;")] 26

def k0c0 : Code := { maxStack := 0, maxLocals := 1, code := object_method_1_code, exceptionTable := #[], attributes := #[] }
def k0m0 : Method := { name := "<init>", desc := "()V", sig := { parameters := [], returnType := none }, accessFlags := 1, code := some k0c0 }
def k0m1 : Method := { name := "hashCode", desc := "()I", sig := { parameters := [], returnType := some .int }, accessFlags := 257, code := none }
def k0c2 : Code := { maxStack := 2, maxLocals := 2, code := ⟨#[0x2a, 0x2b, 0xa6, 0x00, 0x07, 0x04, 0xa7, 0x00, 0x04, 0x03, 0xac]⟩, exceptionTable := #[], attributes := #[] }
def k0m2 : Method := { name := "equals", desc := "(Ljava/lang/Object;)Z", sig := { parameters := [(.object "java/lang/Object")], returnType := some .boolean }, accessFlags := 1, code := some k0c2 }
def k0m3 : Method := { name := "clone", desc := "()Ljava/lang/Object;", sig := { parameters := [], returnType := some (.object "java/lang/Object") }, accessFlags := 260, code := none }
/-- java/lang/Object -/
def k0 : Class := { plain "java/lang/Object" none with
  accessFlags := 33
  interfaces := #[]
  cf := some (fileOf pool0 8 #[] #[{ accessFlags := 1, nameIndex := 5, descriptorIndex := 6, attributes := #[] }, { accessFlags := 257, nameIndex := 27, descriptorIndex := 28, attributes := #[] }, { accessFlags := 1, nameIndex := 92, descriptorIndex := 93, attributes := #[] }, { accessFlags := 260, nameIndex := 96, descriptorIndex := 97, attributes := #[] }] 33 0 #[] #[])
  fields := #[]
  methods := #[k0m0, k0m1, k0m2, k0m3]
  instanceTypes := #[]
  staticTypes := #[]
  resolved := Array.replicate 124 none
  statics := none }

def pool1 : Array CpInfo := pool [(2, .class_ 4), (1, u "java/lang/Object"), (0, u "<init>"), (0, u "()V"), (0, .methodref 8 9), (0, .class_ 10), (0, .nameAndType 11 12), (0, u "com/example/seshat/seshat/StoredResponseHashCodePinLaw"), (0, u "make"), (0, u "(IIIJI)Lcom/example/seshat/seshat/StoredResponse;"), (0, .methodref 14 15), (0, .class_ 16), (0, .nameAndType 17 18), (0, u "com/example/seshat/seshat/StoredResponse"), (0, u "hashCode"), (0, u "()I"), (0, .methodref 14 20), (0, .nameAndType 21 22), (0, u "equals"), (0, u "(Ljava/lang/Object;)Z"), (0, .methodref 8 24), (0, .nameAndType 25 26), (0, u "text"), (0, u "(II)Ljava/lang/String;"), (0, .methodref 8 28), (0, .nameAndType 29 30), (0, u "bytes"), (0, u "(JI)[B"), (0, .methodref 14 32), (0, .nameAndType 5 33), (0, u "(ILjava/lang/String;Ljava/lang/String;[B)V"), (0, .class_ 35), (0, u "java/lang/String"), (0, .methodref 34 37), (0, .nameAndType 5 38), (0, u "([C)V"), (2, u "law"), (0, u "(IIIJI)Z")] 3

def k1m0 : Method := { name := "<init>", desc := "()V", sig := { parameters := [], returnType := none }, accessFlags := 1, code := none }
def k1c1 : Code := { maxStack := 6, maxLocals := 12, code := code, exceptionTable := #[], attributes := #[] }
def k1m1 : Method := { name := "law", desc := "(IIIJI)Z", sig := { parameters := [.int, .int, .int, .long, .int], returnType := some .boolean }, accessFlags := 9, code := some k1c1 }
def k1c2 : Code := { maxStack := 6, maxLocals := 9, code := method_3_code, exceptionTable := #[], attributes := #[] }
def k1m2 : Method := { name := "make", desc := "(IIIJI)Lcom/example/seshat/seshat/StoredResponse;", sig := { parameters := [.int, .int, .int, .long, .int], returnType := some (.object "com/example/seshat/seshat/StoredResponse") }, accessFlags := 10, code := some k1c2 }
def k1c3 : Code := { maxStack := 4, maxLocals := 3, code := method_4_code, exceptionTable := #[], attributes := #[] }
def k1m3 : Method := { name := "text", desc := "(II)Ljava/lang/String;", sig := { parameters := [.int, .int], returnType := some (.object "java/lang/String") }, accessFlags := 10, code := some k1c3 }
def k1c4 : Code := { maxStack := 5, maxLocals := 4, code := method_5_code, exceptionTable := #[], attributes := #[] }
def k1m4 : Method := { name := "bytes", desc := "(JI)[B", sig := { parameters := [.long, .int], returnType := some (.array .byte) }, accessFlags := 10, code := some k1c4 }
/-- com/example/seshat/seshat/StoredResponseHashCodePinLaw -/
def k1 : Class := { plain "com/example/seshat/seshat/StoredResponseHashCodePinLaw" (some 0) with
  accessFlags := 49
  interfaces := #[]
  cf := some (fileOf pool1 8 #[] #[{ accessFlags := 1, nameIndex := 5, descriptorIndex := 6, attributes := #[] }, { accessFlags := 9, nameIndex := 41, descriptorIndex := 42, attributes := #[] }, { accessFlags := 10, nameIndex := 11, descriptorIndex := 12, attributes := #[] }, { accessFlags := 10, nameIndex := 25, descriptorIndex := 26, attributes := #[] }, { accessFlags := 10, nameIndex := 29, descriptorIndex := 30, attributes := #[] }] 49 2 #[] #[])
  fields := #[]
  methods := #[k1m0, k1m1, k1m2, k1m3, k1m4]
  instanceTypes := #[]
  staticTypes := #[]
  resolved := Array.replicate 46 none
  statics := none }

def pool2 : Array CpInfo := pool [(1, .methodref 2 3), (0, .class_ 4), (0, .nameAndType 5 6), (0, u "java/lang/Object"), (0, u "<init>"), (0, u "()V"), (0, .fieldref 8 9), (0, .class_ 10), (0, .nameAndType 11 12), (0, u "com/example/seshat/seshat/StoredResponse"), (0, u "status"), (0, u "I"), (0, .fieldref 8 14), (0, .nameAndType 15 16), (0, u "contentType"), (0, u "Ljava/lang/String;"), (0, .fieldref 8 18), (0, .nameAndType 19 16), (0, u "location"), (0, .string 21), (0, u "body"), (0, .methodref 23 24), (0, .class_ 25), (0, .nameAndType 26 27), (0, u "java/util/Objects"), (0, u "requireNonNull"), (0, u "(Ljava/lang/Object;Ljava/lang/String;)Ljava/lang/Object;"), (0, .class_ 29), (0, u "[B"), (0, .methodref 28 31), (0, .nameAndType 32 33), (0, u "clone"), (0, u "()Ljava/lang/Object;"), (0, .fieldref 8 35), (0, .nameAndType 21 29), (0, .methodref 23 37), (0, .nameAndType 38 39), (0, u "equals"), (0, u "(Ljava/lang/Object;Ljava/lang/Object;)Z"), (0, .methodref 41 42), (0, .class_ 43), (0, .nameAndType 38 44), (0, u "java/util/Arrays"), (0, u "([B[B)Z"), (0, .methodref 46 47), (0, .class_ 48), (0, .nameAndType 49 50), (0, u "java/lang/Integer"), (0, u "valueOf"), (0, u "(I)Ljava/lang/Integer;"), (0, .methodref 41 52), (0, .nameAndType 53 54), (0, u "hashCode"), (0, u "([B)I"), (0, .methodref 23 56), (0, .nameAndType 57 58), (0, u "hash"), (0, u "([Ljava/lang/Object;)I"), (0, u "(ILjava/lang/String;Ljava/lang/String;[B)V"), (2, u "()I"), (2, u "(Ljava/lang/Object;)Z")] 3

def k2c0 : Code := { maxStack := 3, maxLocals := 5, code := prog_12_method_1_code, exceptionTable := #[], attributes := #[] }
def k2m0 : Method := { name := "<init>", desc := "(ILjava/lang/String;Ljava/lang/String;[B)V", sig := { parameters := [.int, (.object "java/lang/String"), (.object "java/lang/String"), (.array .byte)], returnType := none }, accessFlags := 1, code := some k2c0 }
def k2c1 : Code := { maxStack := 2, maxLocals := 3, code := prog_12_method_6_code, exceptionTable := #[], attributes := #[] }
def k2m1 : Method := { name := "equals", desc := "(Ljava/lang/Object;)Z", sig := { parameters := [(.object "java/lang/Object")], returnType := some .boolean }, accessFlags := 1, code := some k2c1 }
def k2c2 : Code := { maxStack := 4, maxLocals := 1, code := prog_12_method_7_code, exceptionTable := #[], attributes := #[] }
def k2m2 : Method := { name := "hashCode", desc := "()I", sig := { parameters := [], returnType := some .int }, accessFlags := 1, code := some k2c2 }
/-- com/example/seshat/seshat/StoredResponse -/
def k2 : Class := { plain "com/example/seshat/seshat/StoredResponse" (some 0) with
  accessFlags := 49
  interfaces := #[]
  cf := some (fileOf pool2 8 #[] #[{ accessFlags := 1, nameIndex := 5, descriptorIndex := 59, attributes := #[] }, { accessFlags := 1, nameIndex := 38, descriptorIndex := 65, attributes := #[] }, { accessFlags := 1, nameIndex := 53, descriptorIndex := 62, attributes := #[] }] 49 2 #[] #[{ accessFlags := 18, nameIndex := 11, descriptorIndex := 12, attributes := #[] }, { accessFlags := 18, nameIndex := 15, descriptorIndex := 16, attributes := #[] }, { accessFlags := 18, nameIndex := 19, descriptorIndex := 16, attributes := #[] }, { accessFlags := 18, nameIndex := 21, descriptorIndex := 29, attributes := #[] }])
  fields := #[{ name := "status", type := .int, accessFlags := 18, slot := 0, constantValue := 0 }, { name := "contentType", type := (.object "java/lang/String"), accessFlags := 18, slot := 1, constantValue := 0 }, { name := "location", type := (.object "java/lang/String"), accessFlags := 18, slot := 2, constantValue := 0 }, { name := "body", type := (.array .byte), accessFlags := 18, slot := 3, constantValue := 0 }]
  methods := #[k2m0, k2m1, k2m2]
  instanceTypes := #[.int, (.object "java/lang/String"), (.object "java/lang/String"), (.array .byte)]
  staticTypes := #[]
  resolved := Array.replicate 69 none
  statics := none }

def pool3 : Array CpInfo := pool [(1, .class_ 2), (0, u "java/io/Serializable"), (0, .class_ 4), (0, u "java/lang/Object")] 2

/-- java/io/Serializable -/
def k3 : Class := { plain "java/io/Serializable" (some 0) with
  accessFlags := 1537
  interfaces := #[]
  cf := some (fileOf pool3 1 #[] #[] 1537 3 #[] #[])
  fields := #[]
  methods := #[]
  instanceTypes := #[]
  staticTypes := #[]
  resolved := Array.replicate 7 none
  statics := none }

def pool4 : Array CpInfo := pool [(1, .class_ 2), (0, u "java/lang/Comparable"), (0, .class_ 4), (0, u "java/lang/Object")] 7

/-- java/lang/Comparable -/
def k4 : Class := { plain "java/lang/Comparable" (some 0) with
  accessFlags := 1537
  interfaces := #[]
  cf := some (fileOf pool4 1 #[] #[] 1537 3 #[] #[])
  fields := #[]
  methods := #[]
  instanceTypes := #[]
  staticTypes := #[]
  resolved := Array.replicate 12 none
  statics := none }

def pool5 : Array CpInfo := pool [(2, .class_ 4), (1, u "java/lang/CharSequence"), (42, .class_ 48), (0, u "java/lang/CharSequence$1CodePointIterator"), (10, .class_ 60), (0, u "java/lang/CharSequence$1CharIterator"), (5, .class_ 67), (0, u "java/lang/Object")] 63

/-- java/lang/CharSequence -/
def k5 : Class := { plain "java/lang/CharSequence" (some 0) with
  accessFlags := 1537
  interfaces := #[]
  cf := some (fileOf pool5 2 #[.nestMembers #[47, 59]] #[] 1537 66 #[] #[])
  fields := #[]
  methods := #[]
  instanceTypes := #[]
  staticTypes := #[]
  resolved := Array.replicate 131 none
  statics := none }

def pool6 : Array CpInfo := pool [(1, .class_ 2), (0, u "java/lang/constant/Constable"), (0, .class_ 4), (0, u "java/lang/Object")] 6

/-- java/lang/constant/Constable -/
def k6 : Class := { plain "java/lang/constant/Constable" (some 0) with
  accessFlags := 1537
  interfaces := #[]
  cf := some (fileOf pool6 1 #[] #[] 1537 3 #[] #[])
  fields := #[]
  methods := #[]
  instanceTypes := #[]
  staticTypes := #[]
  resolved := Array.replicate 11 none
  statics := none }

def pool7 : Array CpInfo := pool [(1, .class_ 2), (0, u "java/lang/constant/ConstantDesc"), (0, .class_ 4), (0, u "java/lang/Object")] 32

/-- java/lang/constant/ConstantDesc -/
def k7 : Class := { plain "java/lang/constant/ConstantDesc" (some 0) with
  accessFlags := 1537
  interfaces := #[]
  cf := some (fileOf pool7 1 #[] #[] 1537 3 #[] #[])
  fields := #[]
  methods := #[]
  instanceTypes := #[]
  staticTypes := #[]
  resolved := Array.replicate 37 none
  statics := none }

def pool8 : Array CpInfo := pool [(1, .methodref 2 3), (0, .class_ 4), (0, .nameAndType 5 6), (0, u "java/lang/Object"), (0, u "<init>"), (0, u "()V"), (0, .string 8), (0, u ""), (0, .fieldref 10 11), (0, .class_ 12), (0, .nameAndType 13 14), (0, u "java/lang/String"), (0, u "value"), (0, u "[B"), (0, .fieldref 10 16), (0, .nameAndType 17 18), (0, u "coder"), (0, u "B"), (0, .fieldref 10 20), (0, .nameAndType 21 22), (0, u "hash"), (0, u "I"), (0, .fieldref 10 24), (0, .nameAndType 25 26), (0, u "hashIsZero"), (0, u "Z"), (0, .methodref 10 28), (0, .nameAndType 5 29), (0, u "([CIILjava/lang/Void;)V"), (8, .fieldref 10 39), (0, .nameAndType 40 26), (0, u "COMPACT_STRINGS"), (1, .class_ 44), (1, u "java/lang/StringUTF16"), (0, u "compress"), (1, .methodref 42 48), (0, .nameAndType 49 50), (0, u "coderFromArrayLen"), (0, u "([BI)B"), (56, .class_ 109), (1, u "java/lang/StringLatin1"), (32, u "()Z"), (34, .methodref 42 178), (0, .nameAndType 45 179), (0, u "([CII)[B"), (154, u "()I"), (157, .methodref 10 493), (0, .nameAndType 494 142), (0, u "isLatin1"), (46, .methodref 107 542), (0, .nameAndType 543 544), (0, u "equals"), (0, u "([B[B)Z"), (28, u "(Ljava/lang/Object;)Z"), (1, .class_ 576), (0, u "java/lang/CharSequence"), (22, u "CASE_INSENSITIVE_ORDER"), (0, u "Ljava/util/Comparator;"), (27, .methodref 107 629), (0, .nameAndType 630 631), (0, u "hashCode"), (0, u "([B)I"), (378, u "([C)V"), (90, u "serialPersistentFields"), (0, u "[Ljava/io/ObjectStreamField;"), (0, .class_ 1104), (0, u "java/lang/String$CaseInsensitiveComparator"), (1, .class_ 1107), (0, u "java/io/Serializable"), (0, .class_ 1109), (0, u "java/lang/Comparable"), (0, .class_ 1111), (0, u "java/lang/constant/Constable"), (0, .class_ 1113), (0, u "java/lang/constant/ConstantDesc"), (2, u "serialVersionUID"), (0, u "J"), (3, u "REPL"), (0, u "C"), (2, u "LATIN1"), (1, u "UTF16")] 323

def k8m0 : Method := { name := "<init>", desc := "()V", sig := { parameters := [], returnType := none }, accessFlags := 1, code := none }
def k8c1 : Code := { maxStack := 5, maxLocals := 2, code := jdk_42_method_3_code, exceptionTable := #[], attributes := #[] }
def k8m1 : Method := { name := "<init>", desc := "([C)V", sig := { parameters := [(.array .char)], returnType := none }, accessFlags := 1, code := some k8c1 }
def k8c2 : Code := { maxStack := 2, maxLocals := 3, code := jdk_42_method_66_code, exceptionTable := #[], attributes := #[] }
def k8m2 : Method := { name := "equals", desc := "(Ljava/lang/Object;)Z", sig := { parameters := [(.object "java/lang/Object")], returnType := some .boolean }, accessFlags := 1, code := some k8c2 }
def k8c3 : Code := { maxStack := 2, maxLocals := 2, code := jdk_42_method_78_code, exceptionTable := #[], attributes := #[] }
def k8m3 : Method := { name := "hashCode", desc := "()I", sig := { parameters := [], returnType := some .int }, accessFlags := 1, code := some k8c3 }
def k8c4 : Code := { maxStack := 4, maxLocals := 6, code := jdk_42_method_149_code, exceptionTable := #[], attributes := #[] }
def k8m4 : Method := { name := "<init>", desc := "([CIILjava/lang/Void;)V", sig := { parameters := [(.array .char), .int, .int, (.object "java/lang/Void")], returnType := none }, accessFlags := 2, code := some k8c4 }
def k8c5 : Code := { maxStack := 1, maxLocals := 1, code := jdk_42_method_154_code, exceptionTable := #[], attributes := #[] }
def k8m5 : Method := { name := "isLatin1", desc := "()Z", sig := { parameters := [], returnType := some .boolean }, accessFlags := 0, code := some k8c5 }
/-- java/lang/String -/
def k8 : Class := { plain "java/lang/String" (some 0) with
  accessFlags := 49
  interfaces := #[3, 4, 5, 6, 7]
  cf := some (fileOf pool8 10 #[.nestMembers #[1103]] #[{ accessFlags := 1, nameIndex := 5, descriptorIndex := 6, attributes := #[] }, { accessFlags := 1, nameIndex := 5, descriptorIndex := 1010, attributes := #[] }, { accessFlags := 1, nameIndex := 543, descriptorIndex := 573, attributes := #[] }, { accessFlags := 1, nameIndex := 630, descriptorIndex := 334, attributes := #[] }, { accessFlags := 2, nameIndex := 5, descriptorIndex := 29, attributes := #[] }, { accessFlags := 0, nameIndex := 494, descriptorIndex := 142, attributes := #[] }] 49 2 #[1106, 1108, 575, 1110, 1112] #[{ accessFlags := 18, nameIndex := 13, descriptorIndex := 14, attributes := #[] }, { accessFlags := 18, nameIndex := 17, descriptorIndex := 18, attributes := #[] }, { accessFlags := 2, nameIndex := 21, descriptorIndex := 22, attributes := #[] }, { accessFlags := 2, nameIndex := 25, descriptorIndex := 26, attributes := #[] }, { accessFlags := 26, nameIndex := 1116, descriptorIndex := 1117, attributes := #[] }, { accessFlags := 24, nameIndex := 40, descriptorIndex := 26, attributes := #[] }, { accessFlags := 26, nameIndex := 1101, descriptorIndex := 1102, attributes := #[] }, { accessFlags := 26, nameIndex := 1121, descriptorIndex := 1122, attributes := #[] }, { accessFlags := 25, nameIndex := 599, descriptorIndex := 600, attributes := #[] }, { accessFlags := 24, nameIndex := 1125, descriptorIndex := 18, attributes := #[] }, { accessFlags := 24, nameIndex := 1127, descriptorIndex := 18, attributes := #[] }])
  fields := #[{ name := "value", type := (.array .byte), accessFlags := 18, slot := 0, constantValue := 0 }, { name := "coder", type := .byte, accessFlags := 18, slot := 1, constantValue := 0 }, { name := "hash", type := .int, accessFlags := 2, slot := 2, constantValue := 0 }, { name := "hashIsZero", type := .boolean, accessFlags := 2, slot := 3, constantValue := 0 }, { name := "serialVersionUID", type := .long, accessFlags := 26, slot := 0, constantValue := 0 }, { name := "COMPACT_STRINGS", type := .boolean, accessFlags := 24, slot := 1, constantValue := 0 }, { name := "serialPersistentFields", type := (.array (.object "java/io/ObjectStreamField")), accessFlags := 26, slot := 2, constantValue := 0 }, { name := "REPL", type := .char, accessFlags := 26, slot := 3, constantValue := 0 }, { name := "CASE_INSENSITIVE_ORDER", type := (.object "java/util/Comparator"), accessFlags := 25, slot := 4, constantValue := 0 }, { name := "LATIN1", type := .byte, accessFlags := 24, slot := 5, constantValue := 0 }, { name := "UTF16", type := .byte, accessFlags := 24, slot := 6, constantValue := 0 }]
  methods := #[k8m0, k8m1, k8m2, k8m3, k8m4, k8m5]
  instanceTypes := #[(.array .byte), .byte, .int, .boolean]
  staticTypes := #[.long, .boolean, (.array (.object "java/io/ObjectStreamField")), .char, (.object "java/util/Comparator"), .byte, .byte]
  resolved := Array.replicate 1451 none
  statics := some 0 }

def pool9 : Array CpInfo := pool [(2, .class_ 4), (1, u "java/lang/Object"), (0, u "<init>"), (0, u "()V"), (7, .methodref 2 15), (0, .nameAndType 16 17), (0, u "equals"), (0, u "(Ljava/lang/Object;)Z"), (1, .class_ 21), (1, u "java/util/Arrays"), (1, u "(Ljava/lang/Object;Ljava/lang/Object;)Z"), (2, u "hashCode"), (1, .methodref 19 29), (0, .nameAndType 26 30), (0, u "([Ljava/lang/Object;)I"), (11, .class_ 44), (1, u "java/util/Objects"), (0, u "requireNonNull"), (48, u "(Ljava/lang/Object;Ljava/lang/String;)Ljava/lang/Object;"), (42, u "hash")] 46

def k9m0 : Method := { name := "<init>", desc := "()V", sig := { parameters := [], returnType := none }, accessFlags := 2, code := none }
def k9c1 : Code := { maxStack := 2, maxLocals := 2, code := jdk_31_method_2_code, exceptionTable := #[], attributes := #[] }
def k9m1 : Method := { name := "equals", desc := "(Ljava/lang/Object;Ljava/lang/Object;)Z", sig := { parameters := [(.object "java/lang/Object"), (.object "java/lang/Object")], returnType := some .boolean }, accessFlags := 9, code := some k9c1 }
def k9c2 : Code := { maxStack := 1, maxLocals := 1, code := jdk_31_method_5_code, exceptionTable := #[], attributes := #[] }
def k9m2 : Method := { name := "hash", desc := "([Ljava/lang/Object;)I", sig := { parameters := [(.array (.object "java/lang/Object"))], returnType := some .int }, accessFlags := 137, code := some k9c2 }
def k9c3 : Code := { maxStack := 3, maxLocals := 2, code := jdk_31_method_11_code, exceptionTable := #[], attributes := #[] }
def k9m3 : Method := { name := "requireNonNull", desc := "(Ljava/lang/Object;Ljava/lang/String;)Ljava/lang/Object;", sig := { parameters := [(.object "java/lang/Object"), (.object "java/lang/String")], returnType := some (.object "java/lang/Object") }, accessFlags := 9, code := some k9c3 }
/-- java/util/Objects -/
def k9 : Class := { plain "java/util/Objects" (some 0) with
  accessFlags := 49
  interfaces := #[]
  cf := some (fileOf pool9 42 #[] #[{ accessFlags := 2, nameIndex := 5, descriptorIndex := 6, attributes := #[] }, { accessFlags := 9, nameIndex := 16, descriptorIndex := 23, attributes := #[] }, { accessFlags := 137, nameIndex := 137, descriptorIndex := 30, attributes := #[] }, { accessFlags := 9, nameIndex := 45, descriptorIndex := 94, attributes := #[] }] 49 2 #[] #[])
  fields := #[]
  methods := #[k9m0, k9m1, k9m2, k9m3]
  instanceTypes := #[]
  staticTypes := #[]
  resolved := Array.replicate 184 none
  statics := none }

def pool10 : Array CpInfo := pool [(1, .class_ 2), (0, u "java/lang/Cloneable"), (0, .class_ 4), (0, u "java/lang/Object")] 2

/-- java/lang/Cloneable -/
def k10 : Class := { plain "java/lang/Cloneable" (some 0) with
  accessFlags := 1537
  interfaces := #[]
  cf := some (fileOf pool10 1 #[] #[] 1537 3 #[] #[])
  fields := #[]
  methods := #[]
  instanceTypes := #[]
  staticTypes := #[]
  resolved := Array.replicate 7 none
  statics := none }

def pool11 : Array CpInfo := pool [(1, .methodref 2 3), (0, .class_ 4), (0, .nameAndType 5 6), (0, u "java/lang/Object"), (0, u "<init>"), (0, u "()V"), (1, .class_ 10), (1, u "java/lang/Number"), (2, .class_ 14), (0, u "java/io/Serializable"), (0, u "serialVersionUID"), (0, u "J")] 20

def k11c0 : Code := { maxStack := 1, maxLocals := 1, code := jdk_18_method_1_code, exceptionTable := #[], attributes := #[] }
def k11m0 : Method := { name := "<init>", desc := "()V", sig := { parameters := [], returnType := none }, accessFlags := 1, code := some k11c0 }
/-- java/lang/Number -/
def k11 : Class := { plain "java/lang/Number" (some 0) with
  accessFlags := 1057
  interfaces := #[3]
  cf := some (fileOf pool11 8 #[] #[{ accessFlags := 1, nameIndex := 5, descriptorIndex := 6, attributes := #[] }] 1057 2 #[13] #[{ accessFlags := 26, nameIndex := 15, descriptorIndex := 16, attributes := #[] }])
  fields := #[{ name := "serialVersionUID", type := .long, accessFlags := 26, slot := 0, constantValue := 0 }]
  methods := #[k11m0]
  instanceTypes := #[]
  staticTypes := #[.long]
  resolved := Array.replicate 37 none
  statics := none }

def pool12 : Array CpInfo := pool [(1, .class_ 2), (0, u "java/lang/Integer"), (16, u "digits"), (0, u "[C"), (33, u "(I)I"), (12, u "<init>"), (17, u "DigitOnes"), (0, u "[B"), (2, u "DigitTens"), (10, .nameAndType 67 101), (0, u "()V"), (19, u "()I"), (65, u "valueOf"), (0, u "(I)Ljava/lang/Integer;"), (0, .class_ 190), (0, u "java/lang/Integer$IntegerCache"), (0, .fieldref 189 192), (0, .nameAndType 193 194), (0, u "high"), (0, u "I"), (0, .fieldref 189 196), (0, .nameAndType 197 198), (0, u "cache"), (0, u "[Ljava/lang/Integer;"), (0, .methodref 1 200), (0, .nameAndType 67 201), (0, u "(I)V"), (0, .methodref 203 100), (0, .class_ 204), (0, u "java/lang/Number"), (0, .fieldref 1 206), (0, .nameAndType 207 194), (0, u "value"), (0, .methodref 1 209), (0, .nameAndType 210 54), (0, u "hashCode"), (91, u "TYPE"), (0, u "Ljava/lang/Class;"), (0, .class_ 305), (0, u "java/lang/Comparable"), (0, .class_ 307), (0, u "java/lang/constant/Constable"), (0, .class_ 309), (0, u "java/lang/constant/ConstantDesc"), (0, u "MIN_VALUE"), (1, u "MAX_VALUE"), (3, u "SIZE"), (1, u "BYTES"), (1, u "serialVersionUID"), (0, u "J")] 131

def k12c0 : Code := { maxStack := 3, maxLocals := 1, code := jdk_33_method_22_code, exceptionTable := #[], attributes := #[] }
def k12m0 : Method := { name := "valueOf", desc := "(I)Ljava/lang/Integer;", sig := { parameters := [.int], returnType := some (.object "java/lang/Integer") }, accessFlags := 9, code := some k12c0 }
def k12c1 : Code := { maxStack := 2, maxLocals := 2, code := jdk_33_method_23_code, exceptionTable := #[], attributes := #[] }
def k12m1 : Method := { name := "<init>", desc := "(I)V", sig := { parameters := [.int], returnType := none }, accessFlags := 1, code := some k12c1 }
def k12c2 : Code := { maxStack := 1, maxLocals := 1, code := jdk_33_method_32_code, exceptionTable := #[], attributes := #[] }
def k12m2 : Method := { name := "hashCode", desc := "()I", sig := { parameters := [], returnType := some .int }, accessFlags := 1, code := some k12c2 }
def k12c3 : Code := { maxStack := 1, maxLocals := 1, code := jdk_33_method_33_code, exceptionTable := #[], attributes := #[] }
def k12m3 : Method := { name := "hashCode", desc := "(I)I", sig := { parameters := [.int], returnType := some .int }, accessFlags := 9, code := some k12c3 }
/-- java/lang/Integer -/
def k12 : Class := { plain "java/lang/Integer" (some 11) with
  accessFlags := 49
  interfaces := #[4, 6, 7]
  cf := some (fileOf pool12 1 #[.nestMembers #[189]] #[{ accessFlags := 9, nameIndex := 187, descriptorIndex := 188, attributes := #[] }, { accessFlags := 1, nameIndex := 67, descriptorIndex := 201, attributes := #[] }, { accessFlags := 1, nameIndex := 210, descriptorIndex := 121, attributes := #[] }, { accessFlags := 9, nameIndex := 210, descriptorIndex := 54, attributes := #[] }] 49 203 #[304, 306, 308] #[{ accessFlags := 25, nameIndex := 310, descriptorIndex := 194, attributes := #[] }, { accessFlags := 25, nameIndex := 312, descriptorIndex := 194, attributes := #[] }, { accessFlags := 25, nameIndex := 302, descriptorIndex := 303, attributes := #[] }, { accessFlags := 24, nameIndex := 19, descriptorIndex := 20, attributes := #[] }, { accessFlags := 24, nameIndex := 89, descriptorIndex := 86, attributes := #[] }, { accessFlags := 24, nameIndex := 85, descriptorIndex := 86, attributes := #[] }, { accessFlags := 18, nameIndex := 207, descriptorIndex := 194, attributes := #[] }, { accessFlags := 25, nameIndex := 316, descriptorIndex := 194, attributes := #[] }, { accessFlags := 25, nameIndex := 318, descriptorIndex := 194, attributes := #[] }, { accessFlags := 26, nameIndex := 320, descriptorIndex := 321, attributes := #[] }])
  fields := #[{ name := "MIN_VALUE", type := .int, accessFlags := 25, slot := 0, constantValue := 0 }, { name := "MAX_VALUE", type := .int, accessFlags := 25, slot := 1, constantValue := 0 }, { name := "TYPE", type := (.object "java/lang/Class"), accessFlags := 25, slot := 2, constantValue := 0 }, { name := "digits", type := (.array .char), accessFlags := 24, slot := 3, constantValue := 0 }, { name := "DigitTens", type := (.array .byte), accessFlags := 24, slot := 4, constantValue := 0 }, { name := "DigitOnes", type := (.array .byte), accessFlags := 24, slot := 5, constantValue := 0 }, { name := "value", type := .int, accessFlags := 18, slot := 0, constantValue := 0 }, { name := "SIZE", type := .int, accessFlags := 25, slot := 6, constantValue := 0 }, { name := "BYTES", type := .int, accessFlags := 25, slot := 7, constantValue := 0 }, { name := "serialVersionUID", type := .long, accessFlags := 26, slot := 8, constantValue := 0 }]
  methods := #[k12m0, k12m1, k12m2, k12m3]
  instanceTypes := #[.int]
  staticTypes := #[.int, .int, (.object "java/lang/Class"), (.array .char), (.array .byte), (.array .byte), .int, .int, .long]
  resolved := Array.replicate 453 none
  statics := none }

def pool13 : Array CpInfo := pool [(2, .class_ 4), (1, u "java/lang/Object"), (0, u "<init>"), (0, u "()V"), (0, .class_ 8), (0, u "java/lang/Integer"), (7, .class_ 18), (1, u "java/lang/Integer$IntegerCache"), (0, u "$assertionsDisabled"), (0, u "Z"), (26, u "high"), (0, u "I"), (8, u "archivedCache"), (0, u "[Ljava/lang/Integer;"), (12, u "cache"), (0, u "low")] 27

def k13m0 : Method := { name := "<init>", desc := "()V", sig := { parameters := [], returnType := none }, accessFlags := 2, code := none }
/-- java/lang/Integer$IntegerCache -/
def k13 : Class := { plain "java/lang/Integer$IntegerCache" (some 0) with
  accessFlags := 48
  interfaces := #[]
  cf := some (fileOf pool13 16 #[.nestHost 7] #[{ accessFlags := 2, nameIndex := 5, descriptorIndex := 6, attributes := #[] }] 48 2 #[] #[{ accessFlags := 24, nameIndex := 72, descriptorIndex := 48, attributes := #[] }, { accessFlags := 24, nameIndex := 47, descriptorIndex := 48, attributes := #[] }, { accessFlags := 24, nameIndex := 71, descriptorIndex := 58, attributes := #[] }, { accessFlags := 8, nameIndex := 57, descriptorIndex := 58, attributes := #[] }, { accessFlags := 4120, nameIndex := 19, descriptorIndex := 20, attributes := #[] }])
  fields := #[{ name := "low", type := .int, accessFlags := 24, slot := 0, constantValue := 0 }, { name := "high", type := .int, accessFlags := 24, slot := 1, constantValue := 0 }, { name := "cache", type := (.array (.object "java/lang/Integer")), accessFlags := 24, slot := 2, constantValue := 0 }, { name := "archivedCache", type := (.array (.object "java/lang/Integer")), accessFlags := 8, slot := 3, constantValue := 0 }, { name := "$assertionsDisabled", type := .boolean, accessFlags := 4120, slot := 4, constantValue := 0 }]
  methods := #[k13m0]
  instanceTypes := #[]
  staticTypes := #[.int, .int, (.array (.object "java/lang/Integer")), (.array (.object "java/lang/Integer")), .boolean]
  resolved := Array.replicate 100 none
  statics := some 1 }

def pool14 : Array CpInfo := pool [(2, .class_ 4), (1, u "java/lang/Object"), (0, u "<init>"), (0, u "()V"), (7, .class_ 16), (1, u "java/util/Arrays"), (25, u "()I"), (31, .class_ 76), (1, u "java/util/Arrays$NaturalOrder"), (36, .class_ 115), (1, u "java/util/Arrays$LegacyMergeSort"), (1, u "Z"), (128, .class_ 248), (1, u "jdk/internal/util/ArraysSupport"), (0, u "mismatch"), (22, .methodref 246 273), (0, .nameAndType 249 274), (0, u "([B[BI)I"), (23, u "equals"), (76, .class_ 376), (0, u "java/util/Arrays$ArrayList"), (2, .methodref 246 380), (0, .nameAndType 381 382), (0, u "vectorizedHashCode"), (0, u "(Ljava/lang/Object;IIII)I"), (0, .methodref 2 384), (0, .nameAndType 385 42), (0, u "hashCode"), (3, u "([Ljava/lang/Object;)I"), (12, u "([B)I"), (42, u "$assertionsDisabled"), (9, u "([B[B)Z"), (259, u "MIN_ARRAY_SORT_GRAN"), (0, u "I"), (2, u "INSERTIONSORT_THRESHOLD"), (255, .class_ 976), (0, u "java/util/Arrays$ArrayItr")] 52

def k14m0 : Method := { name := "<init>", desc := "()V", sig := { parameters := [], returnType := none }, accessFlags := 2, code := none }
def k14c1 : Code := { maxStack := 3, maxLocals := 3, code := jdk_65_method_89_code, exceptionTable := #[], attributes := #[] }
def k14m1 : Method := { name := "equals", desc := "([B[B)Z", sig := { parameters := [(.array .byte), (.array .byte)], returnType := some .boolean }, accessFlags := 9, code := some k14c1 }
def k14c2 : Code := { maxStack := 5, maxLocals := 1, code := jdk_65_method_153_code, exceptionTable := #[], attributes := #[] }
def k14m2 : Method := { name := "hashCode", desc := "([B)I", sig := { parameters := [(.array .byte)], returnType := some .int }, accessFlags := 9, code := some k14c2 }
def k14c3 : Code := { maxStack := 2, maxLocals := 6, code := jdk_65_method_157_code, exceptionTable := #[], attributes := #[] }
def k14m3 : Method := { name := "hashCode", desc := "([Ljava/lang/Object;)I", sig := { parameters := [(.array (.object "java/lang/Object"))], returnType := some .int }, accessFlags := 9, code := some k14c3 }
/-- java/util/Arrays -/
def k14 : Class := { plain "java/util/Arrays" (some 0) with
  accessFlags := 49
  interfaces := #[]
  cf := some (fileOf pool14 14 #[.nestMembers #[975, 375, 113, 74]] #[{ accessFlags := 2, nameIndex := 5, descriptorIndex := 6, attributes := #[] }, { accessFlags := 9, nameIndex := 298, descriptorIndex := 455, attributes := #[] }, { accessFlags := 9, nameIndex := 385, descriptorIndex := 402, attributes := #[] }, { accessFlags := 9, nameIndex := 385, descriptorIndex := 389, attributes := #[] }] 49 2 #[] #[{ accessFlags := 26, nameIndex := 715, descriptorIndex := 716, attributes := #[] }, { accessFlags := 26, nameIndex := 719, descriptorIndex := 716, attributes := #[] }, { accessFlags := 4120, nameIndex := 445, descriptorIndex := 117, attributes := #[] }])
  fields := #[{ name := "MIN_ARRAY_SORT_GRAN", type := .int, accessFlags := 26, slot := 0, constantValue := 0 }, { name := "INSERTIONSORT_THRESHOLD", type := .int, accessFlags := 26, slot := 1, constantValue := 0 }, { name := "$assertionsDisabled", type := .boolean, accessFlags := 4120, slot := 2, constantValue := 0 }]
  methods := #[k14m0, k14m1, k14m2, k14m3]
  instanceTypes := #[]
  staticTypes := #[.int, .int, .boolean]
  resolved := Array.replicate 1029 none
  statics := none }

def pool15 : Array CpInfo := pool [(9, u "<init>"), (6, .class_ 18), (1, u "java/lang/Object"), (0, u "()V"), (1, .class_ 23), (1, u "jdk/internal/util/ArraysSupport"), (0, u "LOG2_ARRAY_LONG_INDEX_SCALE"), (0, u "I"), (2, u "U"), (0, u "Ljdk/internal/misc/Unsafe;"), (8, u "BIG_ENDIAN"), (0, u "Z"), (8, u "LOG2_BYTE_BIT_SIZE"), (4, u "LOG2_ARRAY_INT_INDEX_SCALE"), (6, .class_ 61), (0, u "[B"), (0, .methodref 21 63), (0, .nameAndType 64 65), (0, u "signedHashCode"), (0, u "(I[BII)I"), (7, u "hashCode"), (1, .methodref 21 76), (0, .nameAndType 73 65), (31, u "JLA"), (0, u "Ljdk/internal/access/JavaLangAccess;"), (11, u "LOG2_ARRAY_BOOLEAN_INDEX_SCALE"), (9, u "LOG2_ARRAY_BYTE_INDEX_SCALE"), (5, u "LOG2_ARRAY_CHAR_INDEX_SCALE"), (5, u "LOG2_ARRAY_SHORT_INDEX_SCALE"), (5, u "mismatch"), (12, u "LOG2_ARRAY_FLOAT_INDEX_SCALE"), (24, u "LOG2_ARRAY_DOUBLE_INDEX_SCALE"), (89, u "T_BOOLEAN"), (2, u "T_CHAR"), (1, u "T_FLOAT"), (1, u "T_DOUBLE"), (1, u "T_BYTE"), (1, u "T_SHORT"), (1, u "T_INT"), (1, u "T_LONG"), (1, u "SOFT_MAX_ARRAY_LENGTH"), (26, u "vectorizedHashCode"), (0, u "(Ljava/lang/Object;IIII)I"), (13, u "([B[BI)I")] 41

def k15m0 : Method := { name := "<init>", desc := "()V", sig := { parameters := [], returnType := none }, accessFlags := 2, code := none }
def k15c1 : Code := { maxStack := 4, maxLocals := 5, code := jdk_48_method_4_code, exceptionTable := #[], attributes := #[] }
def k15m1 : Method := { name := "vectorizedHashCode", desc := "(Ljava/lang/Object;IIII)I", sig := { parameters := [(.object "java/lang/Object"), .int, .int, .int, .int], returnType := some .int }, accessFlags := 9, code := some k15c1 }
def k15c2 : Code := { maxStack := 3, maxLocals := 6, code := jdk_48_method_5_code, exceptionTable := #[], attributes := #[] }
def k15m2 : Method := { name := "signedHashCode", desc := "(I[BII)I", sig := { parameters := [.int, (.array .byte), .int, .int], returnType := some .int }, accessFlags := 10, code := some k15c2 }
def k15c3 : Code := { maxStack := 3, maxLocals := 6, code := jdk_48_method_6_code, exceptionTable := #[], attributes := #[] }
def k15m3 : Method := { name := "hashCode", desc := "(I[BII)I", sig := { parameters := [.int, (.array .byte), .int, .int], returnType := some .int }, accessFlags := 10, code := some k15c3 }
def k15c4 : Code := { maxStack := 8, maxLocals := 4, code := jdk_48_method_13_code, exceptionTable := #[], attributes := #[] }
def k15m4 : Method := { name := "mismatch", desc := "([B[BI)I", sig := { parameters := [(.array .byte), (.array .byte), .int], returnType := some .int }, accessFlags := 9, code := some k15c4 }
/-- jdk/internal/util/ArraysSupport -/
def k15 : Class := { plain "jdk/internal/util/ArraysSupport" (some 0) with
  accessFlags := 33
  interfaces := #[]
  cf := some (fileOf pool15 21 #[] #[{ accessFlags := 2, nameIndex := 9, descriptorIndex := 19, attributes := #[] }, { accessFlags := 9, nameIndex := 321, descriptorIndex := 322, attributes := #[] }, { accessFlags := 10, nameIndex := 64, descriptorIndex := 65, attributes := #[] }, { accessFlags := 10, nameIndex := 73, descriptorIndex := 65, attributes := #[] }, { accessFlags := 9, nameIndex := 149, descriptorIndex := 336, attributes := #[] }] 33 16 #[] #[{ accessFlags := 24, nameIndex := 28, descriptorIndex := 29, attributes := #[] }, { accessFlags := 26, nameIndex := 38, descriptorIndex := 39, attributes := #[] }, { accessFlags := 25, nameIndex := 121, descriptorIndex := 25, attributes := #[] }, { accessFlags := 25, nameIndex := 131, descriptorIndex := 25, attributes := #[] }, { accessFlags := 25, nameIndex := 137, descriptorIndex := 25, attributes := #[] }, { accessFlags := 25, nameIndex := 143, descriptorIndex := 25, attributes := #[] }, { accessFlags := 25, nameIndex := 53, descriptorIndex := 25, attributes := #[] }, { accessFlags := 25, nameIndex := 24, descriptorIndex := 25, attributes := #[] }, { accessFlags := 25, nameIndex := 162, descriptorIndex := 25, attributes := #[] }, { accessFlags := 25, nameIndex := 187, descriptorIndex := 25, attributes := #[] }, { accessFlags := 26, nameIndex := 48, descriptorIndex := 25, attributes := #[] }, { accessFlags := 25, nameIndex := 277, descriptorIndex := 25, attributes := #[] }, { accessFlags := 25, nameIndex := 280, descriptorIndex := 25, attributes := #[] }, { accessFlags := 25, nameIndex := 282, descriptorIndex := 25, attributes := #[] }, { accessFlags := 25, nameIndex := 284, descriptorIndex := 25, attributes := #[] }, { accessFlags := 25, nameIndex := 286, descriptorIndex := 25, attributes := #[] }, { accessFlags := 25, nameIndex := 288, descriptorIndex := 25, attributes := #[] }, { accessFlags := 25, nameIndex := 290, descriptorIndex := 25, attributes := #[] }, { accessFlags := 25, nameIndex := 292, descriptorIndex := 25, attributes := #[] }, { accessFlags := 26, nameIndex := 108, descriptorIndex := 109, attributes := #[] }, { accessFlags := 25, nameIndex := 294, descriptorIndex := 25, attributes := #[] }])
  fields := #[{ name := "U", type := (.object "jdk/internal/misc/Unsafe"), accessFlags := 24, slot := 0, constantValue := 0 }, { name := "BIG_ENDIAN", type := .boolean, accessFlags := 26, slot := 1, constantValue := 0 }, { name := "LOG2_ARRAY_BOOLEAN_INDEX_SCALE", type := .int, accessFlags := 25, slot := 2, constantValue := 0 }, { name := "LOG2_ARRAY_BYTE_INDEX_SCALE", type := .int, accessFlags := 25, slot := 3, constantValue := 0 }, { name := "LOG2_ARRAY_CHAR_INDEX_SCALE", type := .int, accessFlags := 25, slot := 4, constantValue := 0 }, { name := "LOG2_ARRAY_SHORT_INDEX_SCALE", type := .int, accessFlags := 25, slot := 5, constantValue := 0 }, { name := "LOG2_ARRAY_INT_INDEX_SCALE", type := .int, accessFlags := 25, slot := 6, constantValue := 0 }, { name := "LOG2_ARRAY_LONG_INDEX_SCALE", type := .int, accessFlags := 25, slot := 7, constantValue := 0 }, { name := "LOG2_ARRAY_FLOAT_INDEX_SCALE", type := .int, accessFlags := 25, slot := 8, constantValue := 0 }, { name := "LOG2_ARRAY_DOUBLE_INDEX_SCALE", type := .int, accessFlags := 25, slot := 9, constantValue := 0 }, { name := "LOG2_BYTE_BIT_SIZE", type := .int, accessFlags := 26, slot := 10, constantValue := 0 }, { name := "T_BOOLEAN", type := .int, accessFlags := 25, slot := 11, constantValue := 0 }, { name := "T_CHAR", type := .int, accessFlags := 25, slot := 12, constantValue := 0 }, { name := "T_FLOAT", type := .int, accessFlags := 25, slot := 13, constantValue := 0 }, { name := "T_DOUBLE", type := .int, accessFlags := 25, slot := 14, constantValue := 0 }, { name := "T_BYTE", type := .int, accessFlags := 25, slot := 15, constantValue := 0 }, { name := "T_SHORT", type := .int, accessFlags := 25, slot := 16, constantValue := 0 }, { name := "T_INT", type := .int, accessFlags := 25, slot := 17, constantValue := 0 }, { name := "T_LONG", type := .int, accessFlags := 25, slot := 18, constantValue := 0 }, { name := "JLA", type := (.object "jdk/internal/access/JavaLangAccess"), accessFlags := 26, slot := 19, constantValue := 0 }, { name := "SOFT_MAX_ARRAY_LENGTH", type := .int, accessFlags := 25, slot := 20, constantValue := 0 }]
  methods := #[k15m0, k15m1, k15m2, k15m3, k15m4]
  instanceTypes := #[]
  staticTypes := #[(.object "jdk/internal/misc/Unsafe"), .boolean, .int, .int, .int, .int, .int, .int, .int, .int, .int, .int, .int, .int, .int, .int, .int, .int, .int, (.object "jdk/internal/access/JavaLangAccess"), .int]
  resolved := Array.replicate 378 none
  statics := none }

def pool16 : Array CpInfo := pool [(6, .class_ 8), (1, u "java/lang/Object"), (0, u "<init>"), (0, u "()V"), (1, .class_ 14), (1, u "java/lang/StringUTF16"), (31, u "$assertionsDisabled"), (0, u "Z"), (13, u "HI_BYTE_SHIFT"), (0, u "I"), (2, u "LO_BYTE_SHIFT"), (49, .methodref 12 116), (0, .nameAndType 117 118), (0, u "compress"), (0, u "([CI[BII)I"), (3, u "([CII)[B"), (138, u "coderFromArrayLen"), (0, u "([BI)B"), (106, .class_ 371), (1, u "java/lang/StringUTF16$LinesSpliterator"), (58, u "MAX_LENGTH"), (196, .class_ 628), (0, u "java/lang/StringUTF16$CodePointsSpliterator"), (0, .class_ 630), (0, u "java/lang/StringUTF16$CharsSpliterator")] 4

def k16m0 : Method := { name := "<init>", desc := "()V", sig := { parameters := [], returnType := none }, accessFlags := 0, code := none }
def k16c1 : Code := { maxStack := 2, maxLocals := 2, code := jdk_52_method_15_code, exceptionTable := #[], attributes := #[] }
def k16m1 : Method := { name := "coderFromArrayLen", desc := "([BI)B", sig := { parameters := [(.array .byte), .int], returnType := some .byte }, accessFlags := 8, code := some k16c1 }
def k16c2 : Code := { maxStack := 5, maxLocals := 6, code := jdk_52_method_16_code, exceptionTable := #[], attributes := #[] }
def k16m2 : Method := { name := "compress", desc := "([CII)[B", sig := { parameters := [(.array .char), .int, .int], returnType := some (.array .byte) }, accessFlags := 9, code := some k16c2 }
def k16c3 : Code := { maxStack := 3, maxLocals := 7, code := jdk_52_method_21_code, exceptionTable := #[], attributes := #[] }
def k16m3 : Method := { name := "compress", desc := "([CI[BII)I", sig := { parameters := [(.array .char), .int, (.array .byte), .int, .int], returnType := some .int }, accessFlags := 9, code := some k16c3 }
/-- java/lang/StringUTF16 -/
def k16 : Class := { plain "java/lang/StringUTF16" (some 0) with
  accessFlags := 48
  interfaces := #[]
  cf := some (fileOf pool16 12 #[.nestMembers #[627, 629, 369]] #[{ accessFlags := 0, nameIndex := 9, descriptorIndex := 10, attributes := #[] }, { accessFlags := 8, nameIndex := 261, descriptorIndex := 262, attributes := #[] }, { accessFlags := 9, nameIndex := 117, descriptorIndex := 122, attributes := #[] }, { accessFlags := 9, nameIndex := 117, descriptorIndex := 118, attributes := #[] }] 48 6 #[] #[{ accessFlags := 26, nameIndex := 61, descriptorIndex := 62, attributes := #[] }, { accessFlags := 26, nameIndex := 65, descriptorIndex := 62, attributes := #[] }, { accessFlags := 24, nameIndex := 430, descriptorIndex := 62, attributes := #[] }, { accessFlags := 4120, nameIndex := 46, descriptorIndex := 47, attributes := #[] }])
  fields := #[{ name := "HI_BYTE_SHIFT", type := .int, accessFlags := 26, slot := 0, constantValue := 0 }, { name := "LO_BYTE_SHIFT", type := .int, accessFlags := 26, slot := 1, constantValue := 0 }, { name := "MAX_LENGTH", type := .int, accessFlags := 24, slot := 2, constantValue := 0 }, { name := "$assertionsDisabled", type := .boolean, accessFlags := 4120, slot := 3, constantValue := 0 }]
  methods := #[k16m0, k16m1, k16m2, k16m3]
  instanceTypes := #[]
  staticTypes := #[.int, .int, .int, .boolean]
  resolved := Array.replicate 635 none
  statics := none }

def pool17 : Array CpInfo := pool [(4, .class_ 6), (1, u "java/lang/Object"), (0, u "<init>"), (0, u "()V"), (5, .class_ 16), (1, u "java/lang/StringLatin1"), (28, .class_ 47), (1, u "jdk/internal/util/ArraysSupport"), (9, u "([B)I"), (26, .methodref 45 85), (0, .nameAndType 86 87), (0, u "vectorizedHashCode"), (0, u "(Ljava/lang/Object;IIII)I"), (33, u "$assertionsDisabled"), (0, u "Z"), (98, .class_ 223), (1, u "java/lang/StringLatin1$LinesSpliterator"), (57, u "equals"), (0, u "([B[B)Z"), (15, u "hashCode"), (91, .class_ 391), (0, u "java/lang/StringLatin1$CharsSpliterator")] 3

def k17m0 : Method := { name := "<init>", desc := "()V", sig := { parameters := [], returnType := none }, accessFlags := 0, code := none }
def k17c1 : Code := { maxStack := 3, maxLocals := 3, code := jdk_43_method_13_code, exceptionTable := #[], attributes := #[] }
def k17m1 : Method := { name := "equals", desc := "([B[B)Z", sig := { parameters := [(.array .byte), (.array .byte)], returnType := some .boolean }, accessFlags := 9, code := some k17c1 }
def k17c2 : Code := { maxStack := 5, maxLocals := 1, code := jdk_43_method_21_code, exceptionTable := #[], attributes := #[] }
def k17m2 : Method := { name := "hashCode", desc := "([B)I", sig := { parameters := [(.array .byte)], returnType := some .int }, accessFlags := 9, code := some k17c2 }
/-- java/lang/StringLatin1 -/
def k17 : Class := { plain "java/lang/StringLatin1" (some 0) with
  accessFlags := 48
  interfaces := #[]
  cf := some (fileOf pool17 14 #[.nestMembers #[390, 221]] #[{ accessFlags := 0, nameIndex := 7, descriptorIndex := 8, attributes := #[] }, { accessFlags := 9, nameIndex := 281, descriptorIndex := 282, attributes := #[] }, { accessFlags := 9, nameIndex := 298, descriptorIndex := 57, attributes := #[] }] 48 4 #[] #[{ accessFlags := 4120, nameIndex := 121, descriptorIndex := 122, attributes := #[] }])
  fields := #[{ name := "$assertionsDisabled", type := .boolean, accessFlags := 4120, slot := 0, constantValue := 0 }]
  methods := #[k17m0, k17m1, k17m2]
  instanceTypes := #[]
  staticTypes := #[.boolean]
  resolved := Array.replicate 395 none
  statics := none }

def pool18 : Array CpInfo := pool [(2, .class_ 4), (1, u "java/lang/Object"), (0, u "<init>"), (0, u "()V"), (17, .class_ 26), (1, u "jdk/internal/util/Preconditions"), (28, .class_ 56), (0, u "jdk/internal/util/Preconditions$4"), (57, .class_ 115), (0, u "jdk/internal/util/Preconditions$1"), (7, u "SIOOBE_FORMATTER"), (0, u "Ljava/util/function/BiFunction;"), (0, .class_ 126), (0, u "jdk/internal/util/Preconditions$2"), (3, u "AIOOBE_FORMATTER"), (0, .class_ 132), (0, u "jdk/internal/util/Preconditions$3"), (3, u "IOOBE_FORMATTER")] 57

def k18m0 : Method := { name := "<init>", desc := "()V", sig := { parameters := [], returnType := none }, accessFlags := 1, code := none }
/-- jdk/internal/util/Preconditions -/
def k18 : Class := { plain "jdk/internal/util/Preconditions" (some 0) with
  accessFlags := 33
  interfaces := #[]
  cf := some (fileOf pool18 24 #[.nestMembers #[55, 131, 125, 114]] #[{ accessFlags := 1, nameIndex := 5, descriptorIndex := 6, attributes := #[] }] 33 2 #[] #[{ accessFlags := 25, nameIndex := 123, descriptorIndex := 124, attributes := #[] }, { accessFlags := 25, nameIndex := 130, descriptorIndex := 124, attributes := #[] }, { accessFlags := 25, nameIndex := 136, descriptorIndex := 124, attributes := #[] }])
  fields := #[{ name := "SIOOBE_FORMATTER", type := (.object "java/util/function/BiFunction"), accessFlags := 25, slot := 0, constantValue := 0 }, { name := "AIOOBE_FORMATTER", type := (.object "java/util/function/BiFunction"), accessFlags := 25, slot := 1, constantValue := 0 }, { name := "IOOBE_FORMATTER", type := (.object "java/util/function/BiFunction"), accessFlags := 25, slot := 2, constantValue := 0 }]
  methods := #[k18m0]
  instanceTypes := #[]
  staticTypes := #[(.object "java/util/function/BiFunction"), (.object "java/util/function/BiFunction"), (.object "java/util/function/BiFunction")]
  resolved := Array.replicate 194 none
  statics := some 2 }

/-- the primitive byte -/
def k19 : Class := { plain "byte" none with kind := .primitive 'B', accessFlags := 0x411 }
/-- [B -/
def k20 : Class := { plain "[B" (some 0) with kind := .array 19 .byte, interfaces := #[10, 3], accessFlags := 1041 }

/-- the primitive char -/
def k21 : Class := { plain "char" none with kind := .primitive 'C', accessFlags := 0x411 }
/-- [C -/
def k22 : Class := { plain "[C" (some 0) with kind := .array 21 .char, interfaces := #[10, 3], accessFlags := 1041 }

/-- the primitive int -/
def k23 : Class := { plain "int" none with kind := .primitive 'I', accessFlags := 0x411 }
/-- [I -/
def k24 : Class := { plain "[I" (some 0) with kind := .array 23 .int, interfaces := #[10, 3], accessFlags := 1041 }

/-- [Ljava/lang/Integer; -/
def k25 : Class := { plain "[Ljava/lang/Integer;" (some 0) with kind := .array 12 (.object "java/lang/Integer"), interfaces := #[10, 3], accessFlags := 1041 }

/-- [Ljava/lang/Object; -/
def k26 : Class := { plain "[Ljava/lang/Object;" (some 0) with kind := .array 0 (.object "java/lang/Object"), interfaces := #[10, 3], accessFlags := 1041 }

def heap : Heap := #[{ cls := 8, slots := #[.long 0, .int 1, .null, .int 0, .null, .int 0, .int 0], vm := .statics 8 },
  { cls := 13, slots := #[.int 0, .int 127, .ref 3, .null, .int 0], vm := .statics 13 },
  { cls := 18, slots := #[.null, .null, .null], vm := .statics 18 },
  { cls := 25, slots := #[.ref 4, .ref 5, .ref 6, .ref 7, .ref 8, .ref 9, .ref 10, .ref 11, .ref 12, .ref 13, .ref 14, .ref 15, .ref 16, .ref 17, .ref 18, .ref 19, .ref 20, .ref 21, .ref 22, .ref 23, .ref 24, .ref 25, .ref 26, .ref 27, .ref 28, .ref 29, .ref 30, .ref 31, .ref 32, .ref 33, .ref 34, .ref 35, .ref 36, .ref 37, .ref 38, .ref 39, .ref 40, .ref 41, .ref 42, .ref 43, .ref 44, .ref 45, .ref 46, .ref 47, .ref 48, .ref 49, .ref 50, .ref 51, .ref 52, .ref 53, .ref 54, .ref 55, .ref 56, .ref 57, .ref 58, .ref 59, .ref 60, .ref 61, .ref 62, .ref 63, .ref 64, .ref 65, .ref 66, .ref 67, .ref 68, .ref 69, .ref 70, .ref 71, .ref 72, .ref 73, .ref 74, .ref 75, .ref 76, .ref 77, .ref 78, .ref 79, .ref 80, .ref 81, .ref 82, .ref 83, .ref 84, .ref 85, .ref 86, .ref 87, .ref 88, .ref 89, .ref 90, .ref 91, .ref 92, .ref 93, .ref 94, .ref 95, .ref 96, .ref 97, .ref 98, .ref 99, .ref 100, .ref 101, .ref 102, .ref 103, .ref 104, .ref 105, .ref 106, .ref 107, .ref 108, .ref 109, .ref 110, .ref 111, .ref 112, .ref 113, .ref 114, .ref 115, .ref 116, .ref 117, .ref 118, .ref 119, .ref 120, .ref 121, .ref 122, .ref 123, .ref 124, .ref 125, .ref 126, .ref 127, .ref 128, .ref 129, .ref 130, .ref 131, .ref 132, .ref 133, .ref 134, .ref 135, .ref 136, .ref 137, .ref 138, .ref 139, .ref 140, .ref 141, .ref 142, .ref 143, .ref 144, .ref 145, .ref 146, .ref 147, .ref 148, .ref 149, .ref 150, .ref 151, .ref 152, .ref 153, .ref 154, .ref 155, .ref 156, .ref 157, .ref 158, .ref 159, .ref 160, .ref 161, .ref 162, .ref 163, .ref 164, .ref 165, .ref 166, .ref 167, .ref 168, .ref 169, .ref 170, .ref 171, .ref 172, .ref 173, .ref 174, .ref 175, .ref 176, .ref 177, .ref 178, .ref 179, .ref 180, .ref 181, .ref 182, .ref 183, .ref 184, .ref 185, .ref 186, .ref 187, .ref 188, .ref 189, .ref 190, .ref 191, .ref 192, .ref 193, .ref 194, .ref 195, .ref 196, .ref 197, .ref 198, .ref 199, .ref 200, .ref 201, .ref 202, .ref 203, .ref 204, .ref 205, .ref 206, .ref 207, .ref 208, .ref 209, .ref 210, .ref 211, .ref 212, .ref 213, .ref 214, .ref 215, .ref 216, .ref 217, .ref 218, .ref 219, .ref 220, .ref 221, .ref 222, .ref 223, .ref 224, .ref 225, .ref 226, .ref 227, .ref 228, .ref 229, .ref 230, .ref 231, .ref 232, .ref 233, .ref 234, .ref 235, .ref 236, .ref 237, .ref 238, .ref 239, .ref 240, .ref 241, .ref 242, .ref 243, .ref 244, .ref 245, .ref 246, .ref 247, .ref 248, .ref 249, .ref 250, .ref 251, .ref 252, .ref 253, .ref 254, .ref 255, .ref 256, .ref 257, .ref 258, .ref 259], vm := .none },
  { cls := 12, slots := #[.int (-128)], vm := .none },
  { cls := 12, slots := #[.int (-127)], vm := .none },
  { cls := 12, slots := #[.int (-126)], vm := .none },
  { cls := 12, slots := #[.int (-125)], vm := .none },
  { cls := 12, slots := #[.int (-124)], vm := .none },
  { cls := 12, slots := #[.int (-123)], vm := .none },
  { cls := 12, slots := #[.int (-122)], vm := .none },
  { cls := 12, slots := #[.int (-121)], vm := .none },
  { cls := 12, slots := #[.int (-120)], vm := .none },
  { cls := 12, slots := #[.int (-119)], vm := .none },
  { cls := 12, slots := #[.int (-118)], vm := .none },
  { cls := 12, slots := #[.int (-117)], vm := .none },
  { cls := 12, slots := #[.int (-116)], vm := .none },
  { cls := 12, slots := #[.int (-115)], vm := .none },
  { cls := 12, slots := #[.int (-114)], vm := .none },
  { cls := 12, slots := #[.int (-113)], vm := .none },
  { cls := 12, slots := #[.int (-112)], vm := .none },
  { cls := 12, slots := #[.int (-111)], vm := .none },
  { cls := 12, slots := #[.int (-110)], vm := .none },
  { cls := 12, slots := #[.int (-109)], vm := .none },
  { cls := 12, slots := #[.int (-108)], vm := .none },
  { cls := 12, slots := #[.int (-107)], vm := .none },
  { cls := 12, slots := #[.int (-106)], vm := .none },
  { cls := 12, slots := #[.int (-105)], vm := .none },
  { cls := 12, slots := #[.int (-104)], vm := .none },
  { cls := 12, slots := #[.int (-103)], vm := .none },
  { cls := 12, slots := #[.int (-102)], vm := .none },
  { cls := 12, slots := #[.int (-101)], vm := .none },
  { cls := 12, slots := #[.int (-100)], vm := .none },
  { cls := 12, slots := #[.int (-99)], vm := .none },
  { cls := 12, slots := #[.int (-98)], vm := .none },
  { cls := 12, slots := #[.int (-97)], vm := .none },
  { cls := 12, slots := #[.int (-96)], vm := .none },
  { cls := 12, slots := #[.int (-95)], vm := .none },
  { cls := 12, slots := #[.int (-94)], vm := .none },
  { cls := 12, slots := #[.int (-93)], vm := .none },
  { cls := 12, slots := #[.int (-92)], vm := .none },
  { cls := 12, slots := #[.int (-91)], vm := .none },
  { cls := 12, slots := #[.int (-90)], vm := .none },
  { cls := 12, slots := #[.int (-89)], vm := .none },
  { cls := 12, slots := #[.int (-88)], vm := .none },
  { cls := 12, slots := #[.int (-87)], vm := .none },
  { cls := 12, slots := #[.int (-86)], vm := .none },
  { cls := 12, slots := #[.int (-85)], vm := .none },
  { cls := 12, slots := #[.int (-84)], vm := .none },
  { cls := 12, slots := #[.int (-83)], vm := .none },
  { cls := 12, slots := #[.int (-82)], vm := .none },
  { cls := 12, slots := #[.int (-81)], vm := .none },
  { cls := 12, slots := #[.int (-80)], vm := .none },
  { cls := 12, slots := #[.int (-79)], vm := .none },
  { cls := 12, slots := #[.int (-78)], vm := .none },
  { cls := 12, slots := #[.int (-77)], vm := .none },
  { cls := 12, slots := #[.int (-76)], vm := .none },
  { cls := 12, slots := #[.int (-75)], vm := .none },
  { cls := 12, slots := #[.int (-74)], vm := .none },
  { cls := 12, slots := #[.int (-73)], vm := .none },
  { cls := 12, slots := #[.int (-72)], vm := .none },
  { cls := 12, slots := #[.int (-71)], vm := .none },
  { cls := 12, slots := #[.int (-70)], vm := .none },
  { cls := 12, slots := #[.int (-69)], vm := .none },
  { cls := 12, slots := #[.int (-68)], vm := .none },
  { cls := 12, slots := #[.int (-67)], vm := .none },
  { cls := 12, slots := #[.int (-66)], vm := .none },
  { cls := 12, slots := #[.int (-65)], vm := .none },
  { cls := 12, slots := #[.int (-64)], vm := .none },
  { cls := 12, slots := #[.int (-63)], vm := .none },
  { cls := 12, slots := #[.int (-62)], vm := .none },
  { cls := 12, slots := #[.int (-61)], vm := .none },
  { cls := 12, slots := #[.int (-60)], vm := .none },
  { cls := 12, slots := #[.int (-59)], vm := .none },
  { cls := 12, slots := #[.int (-58)], vm := .none },
  { cls := 12, slots := #[.int (-57)], vm := .none },
  { cls := 12, slots := #[.int (-56)], vm := .none },
  { cls := 12, slots := #[.int (-55)], vm := .none },
  { cls := 12, slots := #[.int (-54)], vm := .none },
  { cls := 12, slots := #[.int (-53)], vm := .none },
  { cls := 12, slots := #[.int (-52)], vm := .none },
  { cls := 12, slots := #[.int (-51)], vm := .none },
  { cls := 12, slots := #[.int (-50)], vm := .none },
  { cls := 12, slots := #[.int (-49)], vm := .none },
  { cls := 12, slots := #[.int (-48)], vm := .none },
  { cls := 12, slots := #[.int (-47)], vm := .none },
  { cls := 12, slots := #[.int (-46)], vm := .none },
  { cls := 12, slots := #[.int (-45)], vm := .none },
  { cls := 12, slots := #[.int (-44)], vm := .none },
  { cls := 12, slots := #[.int (-43)], vm := .none },
  { cls := 12, slots := #[.int (-42)], vm := .none },
  { cls := 12, slots := #[.int (-41)], vm := .none },
  { cls := 12, slots := #[.int (-40)], vm := .none },
  { cls := 12, slots := #[.int (-39)], vm := .none },
  { cls := 12, slots := #[.int (-38)], vm := .none },
  { cls := 12, slots := #[.int (-37)], vm := .none },
  { cls := 12, slots := #[.int (-36)], vm := .none },
  { cls := 12, slots := #[.int (-35)], vm := .none },
  { cls := 12, slots := #[.int (-34)], vm := .none },
  { cls := 12, slots := #[.int (-33)], vm := .none },
  { cls := 12, slots := #[.int (-32)], vm := .none },
  { cls := 12, slots := #[.int (-31)], vm := .none },
  { cls := 12, slots := #[.int (-30)], vm := .none },
  { cls := 12, slots := #[.int (-29)], vm := .none },
  { cls := 12, slots := #[.int (-28)], vm := .none },
  { cls := 12, slots := #[.int (-27)], vm := .none },
  { cls := 12, slots := #[.int (-26)], vm := .none },
  { cls := 12, slots := #[.int (-25)], vm := .none },
  { cls := 12, slots := #[.int (-24)], vm := .none },
  { cls := 12, slots := #[.int (-23)], vm := .none },
  { cls := 12, slots := #[.int (-22)], vm := .none },
  { cls := 12, slots := #[.int (-21)], vm := .none },
  { cls := 12, slots := #[.int (-20)], vm := .none },
  { cls := 12, slots := #[.int (-19)], vm := .none },
  { cls := 12, slots := #[.int (-18)], vm := .none },
  { cls := 12, slots := #[.int (-17)], vm := .none },
  { cls := 12, slots := #[.int (-16)], vm := .none },
  { cls := 12, slots := #[.int (-15)], vm := .none },
  { cls := 12, slots := #[.int (-14)], vm := .none },
  { cls := 12, slots := #[.int (-13)], vm := .none },
  { cls := 12, slots := #[.int (-12)], vm := .none },
  { cls := 12, slots := #[.int (-11)], vm := .none },
  { cls := 12, slots := #[.int (-10)], vm := .none },
  { cls := 12, slots := #[.int (-9)], vm := .none },
  { cls := 12, slots := #[.int (-8)], vm := .none },
  { cls := 12, slots := #[.int (-7)], vm := .none },
  { cls := 12, slots := #[.int (-6)], vm := .none },
  { cls := 12, slots := #[.int (-5)], vm := .none },
  { cls := 12, slots := #[.int (-4)], vm := .none },
  { cls := 12, slots := #[.int (-3)], vm := .none },
  { cls := 12, slots := #[.int (-2)], vm := .none },
  { cls := 12, slots := #[.int (-1)], vm := .none },
  { cls := 12, slots := #[.int 0], vm := .none },
  { cls := 12, slots := #[.int 1], vm := .none },
  { cls := 12, slots := #[.int 2], vm := .none },
  { cls := 12, slots := #[.int 3], vm := .none },
  { cls := 12, slots := #[.int 4], vm := .none },
  { cls := 12, slots := #[.int 5], vm := .none },
  { cls := 12, slots := #[.int 6], vm := .none },
  { cls := 12, slots := #[.int 7], vm := .none },
  { cls := 12, slots := #[.int 8], vm := .none },
  { cls := 12, slots := #[.int 9], vm := .none },
  { cls := 12, slots := #[.int 10], vm := .none },
  { cls := 12, slots := #[.int 11], vm := .none },
  { cls := 12, slots := #[.int 12], vm := .none },
  { cls := 12, slots := #[.int 13], vm := .none },
  { cls := 12, slots := #[.int 14], vm := .none },
  { cls := 12, slots := #[.int 15], vm := .none },
  { cls := 12, slots := #[.int 16], vm := .none },
  { cls := 12, slots := #[.int 17], vm := .none },
  { cls := 12, slots := #[.int 18], vm := .none },
  { cls := 12, slots := #[.int 19], vm := .none },
  { cls := 12, slots := #[.int 20], vm := .none },
  { cls := 12, slots := #[.int 21], vm := .none },
  { cls := 12, slots := #[.int 22], vm := .none },
  { cls := 12, slots := #[.int 23], vm := .none },
  { cls := 12, slots := #[.int 24], vm := .none },
  { cls := 12, slots := #[.int 25], vm := .none },
  { cls := 12, slots := #[.int 26], vm := .none },
  { cls := 12, slots := #[.int 27], vm := .none },
  { cls := 12, slots := #[.int 28], vm := .none },
  { cls := 12, slots := #[.int 29], vm := .none },
  { cls := 12, slots := #[.int 30], vm := .none },
  { cls := 12, slots := #[.int 31], vm := .none },
  { cls := 12, slots := #[.int 32], vm := .none },
  { cls := 12, slots := #[.int 33], vm := .none },
  { cls := 12, slots := #[.int 34], vm := .none },
  { cls := 12, slots := #[.int 35], vm := .none },
  { cls := 12, slots := #[.int 36], vm := .none },
  { cls := 12, slots := #[.int 37], vm := .none },
  { cls := 12, slots := #[.int 38], vm := .none },
  { cls := 12, slots := #[.int 39], vm := .none },
  { cls := 12, slots := #[.int 40], vm := .none },
  { cls := 12, slots := #[.int 41], vm := .none },
  { cls := 12, slots := #[.int 42], vm := .none },
  { cls := 12, slots := #[.int 43], vm := .none },
  { cls := 12, slots := #[.int 44], vm := .none },
  { cls := 12, slots := #[.int 45], vm := .none },
  { cls := 12, slots := #[.int 46], vm := .none },
  { cls := 12, slots := #[.int 47], vm := .none },
  { cls := 12, slots := #[.int 48], vm := .none },
  { cls := 12, slots := #[.int 49], vm := .none },
  { cls := 12, slots := #[.int 50], vm := .none },
  { cls := 12, slots := #[.int 51], vm := .none },
  { cls := 12, slots := #[.int 52], vm := .none },
  { cls := 12, slots := #[.int 53], vm := .none },
  { cls := 12, slots := #[.int 54], vm := .none },
  { cls := 12, slots := #[.int 55], vm := .none },
  { cls := 12, slots := #[.int 56], vm := .none },
  { cls := 12, slots := #[.int 57], vm := .none },
  { cls := 12, slots := #[.int 58], vm := .none },
  { cls := 12, slots := #[.int 59], vm := .none },
  { cls := 12, slots := #[.int 60], vm := .none },
  { cls := 12, slots := #[.int 61], vm := .none },
  { cls := 12, slots := #[.int 62], vm := .none },
  { cls := 12, slots := #[.int 63], vm := .none },
  { cls := 12, slots := #[.int 64], vm := .none },
  { cls := 12, slots := #[.int 65], vm := .none },
  { cls := 12, slots := #[.int 66], vm := .none },
  { cls := 12, slots := #[.int 67], vm := .none },
  { cls := 12, slots := #[.int 68], vm := .none },
  { cls := 12, slots := #[.int 69], vm := .none },
  { cls := 12, slots := #[.int 70], vm := .none },
  { cls := 12, slots := #[.int 71], vm := .none },
  { cls := 12, slots := #[.int 72], vm := .none },
  { cls := 12, slots := #[.int 73], vm := .none },
  { cls := 12, slots := #[.int 74], vm := .none },
  { cls := 12, slots := #[.int 75], vm := .none },
  { cls := 12, slots := #[.int 76], vm := .none },
  { cls := 12, slots := #[.int 77], vm := .none },
  { cls := 12, slots := #[.int 78], vm := .none },
  { cls := 12, slots := #[.int 79], vm := .none },
  { cls := 12, slots := #[.int 80], vm := .none },
  { cls := 12, slots := #[.int 81], vm := .none },
  { cls := 12, slots := #[.int 82], vm := .none },
  { cls := 12, slots := #[.int 83], vm := .none },
  { cls := 12, slots := #[.int 84], vm := .none },
  { cls := 12, slots := #[.int 85], vm := .none },
  { cls := 12, slots := #[.int 86], vm := .none },
  { cls := 12, slots := #[.int 87], vm := .none },
  { cls := 12, slots := #[.int 88], vm := .none },
  { cls := 12, slots := #[.int 89], vm := .none },
  { cls := 12, slots := #[.int 90], vm := .none },
  { cls := 12, slots := #[.int 91], vm := .none },
  { cls := 12, slots := #[.int 92], vm := .none },
  { cls := 12, slots := #[.int 93], vm := .none },
  { cls := 12, slots := #[.int 94], vm := .none },
  { cls := 12, slots := #[.int 95], vm := .none },
  { cls := 12, slots := #[.int 96], vm := .none },
  { cls := 12, slots := #[.int 97], vm := .none },
  { cls := 12, slots := #[.int 98], vm := .none },
  { cls := 12, slots := #[.int 99], vm := .none },
  { cls := 12, slots := #[.int 100], vm := .none },
  { cls := 12, slots := #[.int 101], vm := .none },
  { cls := 12, slots := #[.int 102], vm := .none },
  { cls := 12, slots := #[.int 103], vm := .none },
  { cls := 12, slots := #[.int 104], vm := .none },
  { cls := 12, slots := #[.int 105], vm := .none },
  { cls := 12, slots := #[.int 106], vm := .none },
  { cls := 12, slots := #[.int 107], vm := .none },
  { cls := 12, slots := #[.int 108], vm := .none },
  { cls := 12, slots := #[.int 109], vm := .none },
  { cls := 12, slots := #[.int 110], vm := .none },
  { cls := 12, slots := #[.int 111], vm := .none },
  { cls := 12, slots := #[.int 112], vm := .none },
  { cls := 12, slots := #[.int 113], vm := .none },
  { cls := 12, slots := #[.int 114], vm := .none },
  { cls := 12, slots := #[.int 115], vm := .none },
  { cls := 12, slots := #[.int 116], vm := .none },
  { cls := 12, slots := #[.int 117], vm := .none },
  { cls := 12, slots := #[.int 118], vm := .none },
  { cls := 12, slots := #[.int 119], vm := .none },
  { cls := 12, slots := #[.int 120], vm := .none },
  { cls := 12, slots := #[.int 121], vm := .none },
  { cls := 12, slots := #[.int 122], vm := .none },
  { cls := 12, slots := #[.int 123], vm := .none },
  { cls := 12, slots := #[.int 124], vm := .none },
  { cls := 12, slots := #[.int 125], vm := .none },
  { cls := 12, slots := #[.int 126], vm := .none },
  { cls := 12, slots := #[.int 127], vm := .none }]
def classes : Array Class := #[k0, k1, k2, k3, k4, k5, k6, k7, k8, k9, k10, k11, k12, k13, k14, k15, k16, k17, k18, k19, k20, k21, k22, k23, k24, k25, k26]
def interned : List (Array UInt16 × Addr) := []
def slotsUsed : Nat := 527
def theMethod : MethodId := ⟨1, 1⟩
def args0 : Array Value := #[.int 5, .int 5, .int 5, .long 5, .int 5]
def aboutOver (below : List Frame) : State where
  vm := { classes := classes, interned := interned.toArray }
  heap := heap
  slotsUsed := slotsUsed
  threads := #[{ frames := .invoking theMethod args0 :: below }]
def below0 : List Frame := [.native { method := ⟨0, 0⟩, args := #[] }]
def about1 : State := aboutOver below0
def p0 : Program := .bare "" "" ""
def e0 : Env := launch0.env 0 0 0
theorem w_frames : about1.frames = Frame.invoking theMethod args0 :: below0 := rfl
set_option maxRecDepth 65536 in
theorem w_args : argsFit about1.vm theMethod args0 = true := by decide +kernel
set_option maxRecDepth 65536 in
theorem w_heap : heapFits about1 = true := by decide +kernel
set_option maxRecDepth 65536 in
theorem w_runnable : about1.curStatus? = some .runnable := by decide +kernel
set_option maxRecDepth 65536 in
theorem w_alone : about1.alone = true := by decide +kernel
set_option maxRecDepth 65536 in
theorem w_named : about1.methodNamed? x = some theMethod := by decide +kernel
set_option maxRecDepth 65536 in
theorem w_hears : about1.hears theMethod below0 = true := by decide +kernel
set_option maxRecDepth 65536 in
theorem w_ripe : about1.ripe theMethod args0 below0 = true := by decide +kernel
theorem w_running : about1.status = .running := rfl
set_option maxRecDepth 65536 in
theorem w_room : about1.hasRoom e0.platform room_1 = true :=
  launch0.hasRoom_least _ room_1 (by decide +kernel) (by decide +kernel) (by decide +kernel) (by decide +kernel) (by decide +kernel) (by decide +kernel)
theorem allAtoms_all (ts : List Jvm.Cond) (a : Array Jvm.Value) (st : Jvm.State) : (allAtoms ts).before a st = ts.all (fun c => c.before a st) := by
  induction ts with
  | nil => rfl
  | cons c t ih =>
    show (Jvm.Cond.and c (allAtoms t)).before a st = _
    rw [Jvm.Cond.before_and, ih, List.all_cons]
def words1 : List Jvm.Cond := Jvm.Cond.code x code maxLocals ret :: tables_1
/-- a 'code' word, met by the world's own term for the bytes: nothing is compared byte by byte -/
theorem code_word {y : MethodName} {bytes : ByteArray} {mx : Nat} {rt : Option FieldType} {a : Array Value} {s : State} {m : MethodId} {meth : Method} {c : Code} (h1 : s.methodNamed? y = some m) (h2 : s.vm.method? m = some meth) (h3 : meth.code = some c) (h4 : c.code = bytes)
    (h5 : (c.maxLocals == mx && c.exceptionTable.isEmpty && decide (c.maxStack ≤ mostOperands) && decide (meth.sig.returnType = rt) && !meth.locks && decide (parseMethodDescriptor y.desc = some meth.sig)) = true) : (Jvm.Cond.code y bytes mx rt).before a s = true := by
  simp only [Bool.and_eq_true, beq_iff_eq, Bool.not_eq_true', decide_eq_true_eq] at h5
  obtain ⟨⟨⟨⟨⟨g1, g2⟩, g3⟩, g4⟩, g5⟩, g6⟩ := h5
  simp [Cond.before, Cond.holds, Cond.value, h1, h2, h3, h4, g1, g2, g3, g4, g5, g6]
def isCode : Jvm.Cond → Bool
  | .code _ _ _ _ => true
  | _ => false
theorem all_split {L : List Jvm.Cond} {P : Jvm.Cond → Bool} (h1 : L.all (fun c => isCode c || P c) = true) (h2 : ∀ c ∈ L.filter isCode, P c = true) : L.all P = true := by
  refine List.all_eq_true.mpr fun c hc => ?_
  have h := List.all_eq_true.mp h1 c hc
  rcases Bool.eq_false_or_eq_true (isCode c) with hi | hi
  · exact h2 c (List.mem_filter.mpr ⟨hc, hi⟩)
  · simpa [hi] using h
set_option maxRecDepth 65536 in
theorem w_c0 : (Jvm.Cond.code x code maxLocals ret).before args0 about1 = true := code_word (m := ⟨1, 1⟩) (meth := k1m1) (c := k1c1) (by decide +kernel) rfl rfl rfl (by decide +kernel)
set_option maxRecDepth 65536 in
theorem w_c1 : (Jvm.Cond.code ({ cls := "com/example/seshat/seshat/StoredResponseHashCodePinLaw", name := "make", desc := "(IIIJI)Lcom/example/seshat/seshat/StoredResponse;" } : Jvm.MethodName) method_3_code (9 : Nat) (Option.some (Jvm.ClassFile.FieldType.object "com/example/seshat/seshat/StoredResponse"))).before args0 about1 = true := code_word (m := ⟨1, 2⟩) (meth := k1m2) (c := k1c2) (by decide +kernel) rfl rfl rfl (by decide +kernel)
set_option maxRecDepth 65536 in
theorem w_c2 : (Jvm.Cond.code ({ cls := "com/example/seshat/seshat/StoredResponseHashCodePinLaw", name := "text", desc := "(II)Ljava/lang/String;" } : Jvm.MethodName) method_4_code (3 : Nat) (Option.some (Jvm.ClassFile.FieldType.object "java/lang/String"))).before args0 about1 = true := code_word (m := ⟨1, 3⟩) (meth := k1m3) (c := k1c3) (by decide +kernel) rfl rfl rfl (by decide +kernel)
set_option maxRecDepth 65536 in
theorem w_c3 : (Jvm.Cond.code ({ cls := "com/example/seshat/seshat/StoredResponseHashCodePinLaw", name := "bytes", desc := "(JI)[B" } : Jvm.MethodName) method_5_code (4 : Nat) (Option.some (Jvm.ClassFile.FieldType.array Jvm.ClassFile.FieldType.byte))).before args0 about1 = true := code_word (m := ⟨1, 4⟩) (meth := k1m4) (c := k1c4) (by decide +kernel) rfl rfl rfl (by decide +kernel)
set_option maxRecDepth 65536 in
theorem w_c4 : (Jvm.Cond.code ({ cls := "com/example/seshat/seshat/StoredResponse", name := "<init>", desc := "(ILjava/lang/String;Ljava/lang/String;[B)V" } : Jvm.MethodName) prog_12_method_1_code (5 : Nat) (Option.none : Option Jvm.ClassFile.FieldType)).before args0 about1 = true := code_word (m := ⟨2, 0⟩) (meth := k2m0) (c := k2c0) (by decide +kernel) rfl rfl rfl (by decide +kernel)
set_option maxRecDepth 65536 in
theorem w_c5 : (Jvm.Cond.code ({ cls := "java/lang/Object", name := "<init>", desc := "()V" } : Jvm.MethodName) object_method_1_code (1 : Nat) (Option.none : Option Jvm.ClassFile.FieldType)).before args0 about1 = true := code_word (m := ⟨0, 0⟩) (meth := k0m0) (c := k0c0) (by decide +kernel) rfl rfl rfl (by decide +kernel)
set_option maxRecDepth 65536 in
theorem w_c6 : (Jvm.Cond.code ({ cls := "java/util/Objects", name := "requireNonNull", desc := "(Ljava/lang/Object;Ljava/lang/String;)Ljava/lang/Object;" } : Jvm.MethodName) jdk_31_method_11_code (2 : Nat) (Option.some (Jvm.ClassFile.FieldType.object "java/lang/Object"))).before args0 about1 = true := code_word (m := ⟨9, 3⟩) (meth := k9m3) (c := k9c3) (by decide +kernel) rfl rfl rfl (by decide +kernel)
set_option maxRecDepth 65536 in
theorem w_c7 : (Jvm.Cond.code ({ cls := "com/example/seshat/seshat/StoredResponse", name := "hashCode", desc := "()I" } : Jvm.MethodName) prog_12_method_7_code (1 : Nat) (Option.some Jvm.ClassFile.FieldType.int)).before args0 about1 = true := code_word (m := ⟨2, 2⟩) (meth := k2m2) (c := k2c2) (by decide +kernel) rfl rfl rfl (by decide +kernel)
set_option maxRecDepth 65536 in
theorem w_c8 : (Jvm.Cond.code ({ cls := "java/lang/Integer", name := "valueOf", desc := "(I)Ljava/lang/Integer;" } : Jvm.MethodName) jdk_33_method_22_code (1 : Nat) (Option.some (Jvm.ClassFile.FieldType.object "java/lang/Integer"))).before args0 about1 = true := code_word (m := ⟨12, 0⟩) (meth := k12m0) (c := k12c0) (by decide +kernel) rfl rfl rfl (by decide +kernel)
set_option maxRecDepth 65536 in
theorem w_c9 : (Jvm.Cond.code ({ cls := "java/util/Arrays", name := "hashCode", desc := "([B)I" } : Jvm.MethodName) jdk_65_method_153_code (1 : Nat) (Option.some Jvm.ClassFile.FieldType.int)).before args0 about1 = true := code_word (m := ⟨14, 2⟩) (meth := k14m2) (c := k14c2) (by decide +kernel) rfl rfl rfl (by decide +kernel)
set_option maxRecDepth 65536 in
theorem w_c10 : (Jvm.Cond.code ({ cls := "java/util/Objects", name := "hash", desc := "([Ljava/lang/Object;)I" } : Jvm.MethodName) jdk_31_method_5_code (1 : Nat) (Option.some Jvm.ClassFile.FieldType.int)).before args0 about1 = true := code_word (m := ⟨9, 2⟩) (meth := k9m2) (c := k9c2) (by decide +kernel) rfl rfl rfl (by decide +kernel)
set_option maxRecDepth 65536 in
theorem w_c11 : (Jvm.Cond.code ({ cls := "java/util/Arrays", name := "hashCode", desc := "([Ljava/lang/Object;)I" } : Jvm.MethodName) jdk_65_method_157_code (6 : Nat) (Option.some Jvm.ClassFile.FieldType.int)).before args0 about1 = true := code_word (m := ⟨14, 3⟩) (meth := k14m3) (c := k14c3) (by decide +kernel) rfl rfl rfl (by decide +kernel)
set_option maxRecDepth 65536 in
theorem w_c12 : (Jvm.Cond.code ({ cls := "java/lang/Integer", name := "hashCode", desc := "()I" } : Jvm.MethodName) jdk_33_method_32_code (1 : Nat) (Option.some Jvm.ClassFile.FieldType.int)).before args0 about1 = true := code_word (m := ⟨12, 2⟩) (meth := k12m2) (c := k12c2) (by decide +kernel) rfl rfl rfl (by decide +kernel)
set_option maxRecDepth 65536 in
theorem w_c13 : (Jvm.Cond.code ({ cls := "java/lang/Integer", name := "hashCode", desc := "(I)I" } : Jvm.MethodName) jdk_33_method_33_code (1 : Nat) (Option.some Jvm.ClassFile.FieldType.int)).before args0 about1 = true := code_word (m := ⟨12, 3⟩) (meth := k12m3) (c := k12c3) (by decide +kernel) rfl rfl rfl (by decide +kernel)
set_option maxRecDepth 65536 in
theorem w_c14 : (Jvm.Cond.code ({ cls := "com/example/seshat/seshat/StoredResponse", name := "equals", desc := "(Ljava/lang/Object;)Z" } : Jvm.MethodName) prog_12_method_6_code (3 : Nat) (Option.some Jvm.ClassFile.FieldType.boolean)).before args0 about1 = true := code_word (m := ⟨2, 1⟩) (meth := k2m1) (c := k2c1) (by decide +kernel) rfl rfl rfl (by decide +kernel)
set_option maxRecDepth 65536 in
theorem w_c15 : (Jvm.Cond.code ({ cls := "java/util/Objects", name := "equals", desc := "(Ljava/lang/Object;Ljava/lang/Object;)Z" } : Jvm.MethodName) jdk_31_method_2_code (2 : Nat) (Option.some Jvm.ClassFile.FieldType.boolean)).before args0 about1 = true := code_word (m := ⟨9, 1⟩) (meth := k9m1) (c := k9c1) (by decide +kernel) rfl rfl rfl (by decide +kernel)
set_option maxRecDepth 65536 in
theorem w_c16 : (Jvm.Cond.code ({ cls := "java/util/Arrays", name := "equals", desc := "([B[B)Z" } : Jvm.MethodName) jdk_65_method_89_code (3 : Nat) (Option.some Jvm.ClassFile.FieldType.boolean)).before args0 about1 = true := code_word (m := ⟨14, 1⟩) (meth := k14m1) (c := k14c1) (by decide +kernel) rfl rfl rfl (by decide +kernel)
set_option maxRecDepth 65536 in
theorem w_c17 : (Jvm.Cond.code ({ cls := "jdk/internal/util/ArraysSupport", name := "mismatch", desc := "([B[BI)I" } : Jvm.MethodName) jdk_48_method_13_code (4 : Nat) (Option.some Jvm.ClassFile.FieldType.int)).before args0 about1 = true := code_word (m := ⟨15, 4⟩) (meth := k15m4) (c := k15c4) (by decide +kernel) rfl rfl rfl (by decide +kernel)
set_option maxRecDepth 65536 in
theorem w_c18 : (Jvm.Cond.code ({ cls := "java/lang/String", name := "<init>", desc := "([C)V" } : Jvm.MethodName) jdk_42_method_3_code (2 : Nat) (Option.none : Option Jvm.ClassFile.FieldType)).before args0 about1 = true := code_word (m := ⟨8, 1⟩) (meth := k8m1) (c := k8c1) (by decide +kernel) rfl rfl rfl (by decide +kernel)
set_option maxRecDepth 65536 in
theorem w_c19 : (Jvm.Cond.code ({ cls := "java/lang/String", name := "<init>", desc := "([CIILjava/lang/Void;)V" } : Jvm.MethodName) jdk_42_method_149_code (6 : Nat) (Option.none : Option Jvm.ClassFile.FieldType)).before args0 about1 = true := code_word (m := ⟨8, 4⟩) (meth := k8m4) (c := k8c4) (by decide +kernel) rfl rfl rfl (by decide +kernel)
set_option maxRecDepth 65536 in
theorem w_c20 : (Jvm.Cond.code ({ cls := "java/lang/StringUTF16", name := "compress", desc := "([CII)[B" } : Jvm.MethodName) jdk_52_method_16_code (6 : Nat) (Option.some (Jvm.ClassFile.FieldType.array Jvm.ClassFile.FieldType.byte))).before args0 about1 = true := code_word (m := ⟨16, 2⟩) (meth := k16m2) (c := k16c2) (by decide +kernel) rfl rfl rfl (by decide +kernel)
set_option maxRecDepth 65536 in
theorem w_c21 : (Jvm.Cond.code ({ cls := "java/lang/StringUTF16", name := "compress", desc := "([CI[BII)I" } : Jvm.MethodName) jdk_52_method_21_code (7 : Nat) (Option.some Jvm.ClassFile.FieldType.int)).before args0 about1 = true := code_word (m := ⟨16, 3⟩) (meth := k16m3) (c := k16c3) (by decide +kernel) rfl rfl rfl (by decide +kernel)
set_option maxRecDepth 65536 in
theorem w_c22 : (Jvm.Cond.code ({ cls := "java/lang/StringUTF16", name := "coderFromArrayLen", desc := "([BI)B" } : Jvm.MethodName) jdk_52_method_15_code (2 : Nat) (Option.some Jvm.ClassFile.FieldType.byte)).before args0 about1 = true := code_word (m := ⟨16, 1⟩) (meth := k16m1) (c := k16c1) (by decide +kernel) rfl rfl rfl (by decide +kernel)
set_option maxRecDepth 65536 in
theorem w_c23 : (Jvm.Cond.code ({ cls := "java/lang/String", name := "hashCode", desc := "()I" } : Jvm.MethodName) jdk_42_method_78_code (2 : Nat) (Option.some Jvm.ClassFile.FieldType.int)).before args0 about1 = true := code_word (m := ⟨8, 3⟩) (meth := k8m3) (c := k8c3) (by decide +kernel) rfl rfl rfl (by decide +kernel)
set_option maxRecDepth 65536 in
theorem w_c24 : (Jvm.Cond.code ({ cls := "java/lang/String", name := "isLatin1", desc := "()Z" } : Jvm.MethodName) jdk_42_method_154_code (1 : Nat) (Option.some Jvm.ClassFile.FieldType.boolean)).before args0 about1 = true := code_word (m := ⟨8, 5⟩) (meth := k8m5) (c := k8c5) (by decide +kernel) rfl rfl rfl (by decide +kernel)
set_option maxRecDepth 65536 in
theorem w_c25 : (Jvm.Cond.code ({ cls := "java/lang/StringLatin1", name := "hashCode", desc := "([B)I" } : Jvm.MethodName) jdk_43_method_21_code (1 : Nat) (Option.some Jvm.ClassFile.FieldType.int)).before args0 about1 = true := code_word (m := ⟨17, 2⟩) (meth := k17m2) (c := k17c2) (by decide +kernel) rfl rfl rfl (by decide +kernel)
set_option maxRecDepth 65536 in
theorem w_c26 : (Jvm.Cond.code ({ cls := "jdk/internal/util/ArraysSupport", name := "vectorizedHashCode", desc := "(Ljava/lang/Object;IIII)I" } : Jvm.MethodName) jdk_48_method_4_code (5 : Nat) (Option.some Jvm.ClassFile.FieldType.int)).before args0 about1 = true := code_word (m := ⟨15, 1⟩) (meth := k15m1) (c := k15c1) (by decide +kernel) rfl rfl rfl (by decide +kernel)
set_option maxRecDepth 65536 in
theorem w_c27 : (Jvm.Cond.code ({ cls := "jdk/internal/util/ArraysSupport", name := "signedHashCode", desc := "(I[BII)I" } : Jvm.MethodName) jdk_48_method_5_code (6 : Nat) (Option.some Jvm.ClassFile.FieldType.int)).before args0 about1 = true := code_word (m := ⟨15, 2⟩) (meth := k15m2) (c := k15c2) (by decide +kernel) rfl rfl rfl (by decide +kernel)
set_option maxRecDepth 65536 in
theorem w_c28 : (Jvm.Cond.code ({ cls := "java/lang/String", name := "equals", desc := "(Ljava/lang/Object;)Z" } : Jvm.MethodName) jdk_42_method_66_code (3 : Nat) (Option.some Jvm.ClassFile.FieldType.boolean)).before args0 about1 = true := code_word (m := ⟨8, 2⟩) (meth := k8m2) (c := k8c2) (by decide +kernel) rfl rfl rfl (by decide +kernel)
set_option maxRecDepth 65536 in
theorem w_c29 : (Jvm.Cond.code ({ cls := "java/lang/StringLatin1", name := "equals", desc := "([B[B)Z" } : Jvm.MethodName) jdk_43_method_13_code (3 : Nat) (Option.some Jvm.ClassFile.FieldType.boolean)).before args0 about1 = true := code_word (m := ⟨17, 1⟩) (meth := k17m1) (c := k17c1) (by decide +kernel) rfl rfl rfl (by decide +kernel)
set_option maxRecDepth 65536 in
theorem w_c30 : (Jvm.Cond.code ({ cls := "java/lang/Integer", name := "<init>", desc := "(I)V" } : Jvm.MethodName) jdk_33_method_23_code (2 : Nat) (Option.none : Option Jvm.ClassFile.FieldType)).before args0 about1 = true := code_word (m := ⟨12, 1⟩) (meth := k12m1) (c := k12c1) (by decide +kernel) rfl rfl rfl (by decide +kernel)
set_option maxRecDepth 65536 in
theorem w_c31 : (Jvm.Cond.code ({ cls := "java/lang/Number", name := "<init>", desc := "()V" } : Jvm.MethodName) jdk_18_method_1_code (1 : Nat) (Option.none : Option Jvm.ClassFile.FieldType)).before args0 about1 = true := code_word (m := ⟨11, 0⟩) (meth := k11m0) (c := k11c0) (by decide +kernel) rfl rfl rfl (by decide +kernel)
set_option maxRecDepth 65536 in
theorem w_c32 : (Jvm.Cond.code ({ cls := "jdk/internal/util/ArraysSupport", name := "hashCode", desc := "(I[BII)I" } : Jvm.MethodName) jdk_48_method_6_code (6 : Nat) (Option.some Jvm.ClassFile.FieldType.int)).before args0 about1 = true := code_word (m := ⟨15, 3⟩) (meth := k15m3) (c := k15c3) (by decide +kernel) rfl rfl rfl (by decide +kernel)
def codes1 : List Jvm.Cond := [Jvm.Cond.code x code maxLocals ret, Jvm.Cond.code ({ cls := "com/example/seshat/seshat/StoredResponseHashCodePinLaw", name := "make", desc := "(IIIJI)Lcom/example/seshat/seshat/StoredResponse;" } : Jvm.MethodName) method_3_code (9 : Nat) (Option.some (Jvm.ClassFile.FieldType.object "com/example/seshat/seshat/StoredResponse")), Jvm.Cond.code ({ cls := "com/example/seshat/seshat/StoredResponseHashCodePinLaw", name := "text", desc := "(II)Ljava/lang/String;" } : Jvm.MethodName) method_4_code (3 : Nat) (Option.some (Jvm.ClassFile.FieldType.object "java/lang/String")), Jvm.Cond.code ({ cls := "com/example/seshat/seshat/StoredResponseHashCodePinLaw", name := "bytes", desc := "(JI)[B" } : Jvm.MethodName) method_5_code (4 : Nat) (Option.some (Jvm.ClassFile.FieldType.array Jvm.ClassFile.FieldType.byte)), Jvm.Cond.code ({ cls := "com/example/seshat/seshat/StoredResponse", name := "<init>", desc := "(ILjava/lang/String;Ljava/lang/String;[B)V" } : Jvm.MethodName) prog_12_method_1_code (5 : Nat) (Option.none : Option Jvm.ClassFile.FieldType), Jvm.Cond.code ({ cls := "java/lang/Object", name := "<init>", desc := "()V" } : Jvm.MethodName) object_method_1_code (1 : Nat) (Option.none : Option Jvm.ClassFile.FieldType), Jvm.Cond.code ({ cls := "java/util/Objects", name := "requireNonNull", desc := "(Ljava/lang/Object;Ljava/lang/String;)Ljava/lang/Object;" } : Jvm.MethodName) jdk_31_method_11_code (2 : Nat) (Option.some (Jvm.ClassFile.FieldType.object "java/lang/Object")), Jvm.Cond.code ({ cls := "com/example/seshat/seshat/StoredResponse", name := "hashCode", desc := "()I" } : Jvm.MethodName) prog_12_method_7_code (1 : Nat) (Option.some Jvm.ClassFile.FieldType.int), Jvm.Cond.code ({ cls := "java/lang/Integer", name := "valueOf", desc := "(I)Ljava/lang/Integer;" } : Jvm.MethodName) jdk_33_method_22_code (1 : Nat) (Option.some (Jvm.ClassFile.FieldType.object "java/lang/Integer")), Jvm.Cond.code ({ cls := "java/util/Arrays", name := "hashCode", desc := "([B)I" } : Jvm.MethodName) jdk_65_method_153_code (1 : Nat) (Option.some Jvm.ClassFile.FieldType.int), Jvm.Cond.code ({ cls := "java/util/Objects", name := "hash", desc := "([Ljava/lang/Object;)I" } : Jvm.MethodName) jdk_31_method_5_code (1 : Nat) (Option.some Jvm.ClassFile.FieldType.int), Jvm.Cond.code ({ cls := "java/util/Arrays", name := "hashCode", desc := "([Ljava/lang/Object;)I" } : Jvm.MethodName) jdk_65_method_157_code (6 : Nat) (Option.some Jvm.ClassFile.FieldType.int), Jvm.Cond.code ({ cls := "java/lang/Integer", name := "hashCode", desc := "()I" } : Jvm.MethodName) jdk_33_method_32_code (1 : Nat) (Option.some Jvm.ClassFile.FieldType.int), Jvm.Cond.code ({ cls := "java/lang/Integer", name := "hashCode", desc := "(I)I" } : Jvm.MethodName) jdk_33_method_33_code (1 : Nat) (Option.some Jvm.ClassFile.FieldType.int), Jvm.Cond.code ({ cls := "com/example/seshat/seshat/StoredResponse", name := "equals", desc := "(Ljava/lang/Object;)Z" } : Jvm.MethodName) prog_12_method_6_code (3 : Nat) (Option.some Jvm.ClassFile.FieldType.boolean), Jvm.Cond.code ({ cls := "java/util/Objects", name := "equals", desc := "(Ljava/lang/Object;Ljava/lang/Object;)Z" } : Jvm.MethodName) jdk_31_method_2_code (2 : Nat) (Option.some Jvm.ClassFile.FieldType.boolean), Jvm.Cond.code ({ cls := "java/util/Arrays", name := "equals", desc := "([B[B)Z" } : Jvm.MethodName) jdk_65_method_89_code (3 : Nat) (Option.some Jvm.ClassFile.FieldType.boolean), Jvm.Cond.code ({ cls := "jdk/internal/util/ArraysSupport", name := "mismatch", desc := "([B[BI)I" } : Jvm.MethodName) jdk_48_method_13_code (4 : Nat) (Option.some Jvm.ClassFile.FieldType.int), Jvm.Cond.code ({ cls := "java/lang/String", name := "<init>", desc := "([C)V" } : Jvm.MethodName) jdk_42_method_3_code (2 : Nat) (Option.none : Option Jvm.ClassFile.FieldType), Jvm.Cond.code ({ cls := "java/lang/String", name := "<init>", desc := "([CIILjava/lang/Void;)V" } : Jvm.MethodName) jdk_42_method_149_code (6 : Nat) (Option.none : Option Jvm.ClassFile.FieldType), Jvm.Cond.code ({ cls := "java/lang/StringUTF16", name := "compress", desc := "([CII)[B" } : Jvm.MethodName) jdk_52_method_16_code (6 : Nat) (Option.some (Jvm.ClassFile.FieldType.array Jvm.ClassFile.FieldType.byte)), Jvm.Cond.code ({ cls := "java/lang/StringUTF16", name := "compress", desc := "([CI[BII)I" } : Jvm.MethodName) jdk_52_method_21_code (7 : Nat) (Option.some Jvm.ClassFile.FieldType.int), Jvm.Cond.code ({ cls := "java/lang/StringUTF16", name := "coderFromArrayLen", desc := "([BI)B" } : Jvm.MethodName) jdk_52_method_15_code (2 : Nat) (Option.some Jvm.ClassFile.FieldType.byte), Jvm.Cond.code ({ cls := "java/lang/String", name := "hashCode", desc := "()I" } : Jvm.MethodName) jdk_42_method_78_code (2 : Nat) (Option.some Jvm.ClassFile.FieldType.int), Jvm.Cond.code ({ cls := "java/lang/String", name := "isLatin1", desc := "()Z" } : Jvm.MethodName) jdk_42_method_154_code (1 : Nat) (Option.some Jvm.ClassFile.FieldType.boolean), Jvm.Cond.code ({ cls := "java/lang/StringLatin1", name := "hashCode", desc := "([B)I" } : Jvm.MethodName) jdk_43_method_21_code (1 : Nat) (Option.some Jvm.ClassFile.FieldType.int), Jvm.Cond.code ({ cls := "jdk/internal/util/ArraysSupport", name := "vectorizedHashCode", desc := "(Ljava/lang/Object;IIII)I" } : Jvm.MethodName) jdk_48_method_4_code (5 : Nat) (Option.some Jvm.ClassFile.FieldType.int), Jvm.Cond.code ({ cls := "jdk/internal/util/ArraysSupport", name := "signedHashCode", desc := "(I[BII)I" } : Jvm.MethodName) jdk_48_method_5_code (6 : Nat) (Option.some Jvm.ClassFile.FieldType.int), Jvm.Cond.code ({ cls := "java/lang/String", name := "equals", desc := "(Ljava/lang/Object;)Z" } : Jvm.MethodName) jdk_42_method_66_code (3 : Nat) (Option.some Jvm.ClassFile.FieldType.boolean), Jvm.Cond.code ({ cls := "java/lang/StringLatin1", name := "equals", desc := "([B[B)Z" } : Jvm.MethodName) jdk_43_method_13_code (3 : Nat) (Option.some Jvm.ClassFile.FieldType.boolean), Jvm.Cond.code ({ cls := "java/lang/Integer", name := "<init>", desc := "(I)V" } : Jvm.MethodName) jdk_33_method_23_code (2 : Nat) (Option.none : Option Jvm.ClassFile.FieldType), Jvm.Cond.code ({ cls := "java/lang/Number", name := "<init>", desc := "()V" } : Jvm.MethodName) jdk_18_method_1_code (1 : Nat) (Option.none : Option Jvm.ClassFile.FieldType), Jvm.Cond.code ({ cls := "jdk/internal/util/ArraysSupport", name := "hashCode", desc := "(I[BII)I" } : Jvm.MethodName) jdk_48_method_6_code (6 : Nat) (Option.some Jvm.ClassFile.FieldType.int)]
set_option maxRecDepth 65536 in
theorem codes_eq : words1.filter isCode = codes1 := rfl
theorem w_codes : ∀ c ∈ words1.filter isCode, c.before args0 about1 = true := by
  rw [codes_eq]
  intro c hc
  simp only [codes1, List.mem_cons, List.not_mem_nil, or_false] at hc
  rcases hc with rfl | rfl | rfl | rfl | rfl | rfl | rfl | rfl | rfl | rfl | rfl | rfl | rfl | rfl | rfl | rfl | rfl | rfl | rfl | rfl | rfl | rfl | rfl | rfl | rfl | rfl | rfl | rfl | rfl | rfl | rfl | rfl | rfl
  · exact w_c0
  · exact w_c1
  · exact w_c2
  · exact w_c3
  · exact w_c4
  · exact w_c5
  · exact w_c6
  · exact w_c7
  · exact w_c8
  · exact w_c9
  · exact w_c10
  · exact w_c11
  · exact w_c12
  · exact w_c13
  · exact w_c14
  · exact w_c15
  · exact w_c16
  · exact w_c17
  · exact w_c18
  · exact w_c19
  · exact w_c20
  · exact w_c21
  · exact w_c22
  · exact w_c23
  · exact w_c24
  · exact w_c25
  · exact w_c26
  · exact w_c27
  · exact w_c28
  · exact w_c29
  · exact w_c30
  · exact w_c31
  · exact w_c32
set_option maxRecDepth 65536 in
theorem w_t1 : (words1.take 24).all (fun c => isCode c || c.before args0 about1) = true := by decide +kernel
set_option maxRecDepth 65536 in
theorem w_t2 : ((words1.drop 24).take 24).all (fun c => isCode c || c.before args0 about1) = true := by decide +kernel
set_option maxRecDepth 65536 in
theorem w_t3 : (((words1.drop 24).drop 24).take 24).all (fun c => isCode c || c.before args0 about1) = true := by decide +kernel
set_option maxRecDepth 65536 in
theorem w_t4 : ((((words1.drop 24).drop 24).drop 24).take 24).all (fun c => isCode c || c.before args0 about1) = true := by decide +kernel
set_option maxRecDepth 65536 in
theorem w_t5 : (((((words1.drop 24).drop 24).drop 24).drop 24).take 24).all (fun c => isCode c || c.before args0 about1) = true := by decide +kernel
set_option maxRecDepth 65536 in
theorem w_t6 : ((((((words1.drop 24).drop 24).drop 24).drop 24).drop 24).take 24).all (fun c => isCode c || c.before args0 about1) = true := by decide +kernel
set_option maxRecDepth 65536 in
theorem w_t7 : (((((((words1.drop 24).drop 24).drop 24).drop 24).drop 24).drop 24).take 24).all (fun c => isCode c || c.before args0 about1) = true := by decide +kernel
set_option maxRecDepth 65536 in
theorem w_t8 : (((((((words1.drop 24).drop 24).drop 24).drop 24).drop 24).drop 24).drop 24).all (fun c => isCode c || c.before args0 about1) = true := by decide +kernel
theorem w_tables : (allAtoms (Jvm.Cond.code x code maxLocals ret :: tables_1)).before args0 about1 = true := by
  rw [allAtoms_all]
  show words1.all (fun c => c.before args0 about1) = true
  refine all_split ?_ w_codes
  rw [← List.take_append_drop 24 words1, List.all_append, w_t1, ← List.take_append_drop 24 (words1.drop 24), List.all_append, w_t2, ← List.take_append_drop 24 ((words1.drop 24).drop 24), List.all_append, w_t3, ← List.take_append_drop 24 (((words1.drop 24).drop 24).drop 24), List.all_append, w_t4, ← List.take_append_drop 24 ((((words1.drop 24).drop 24).drop 24).drop 24), List.all_append, w_t5, ← List.take_append_drop 24 (((((words1.drop 24).drop 24).drop 24).drop 24).drop 24), List.all_append, w_t6, ← List.take_append_drop 24 ((((((words1.drop 24).drop 24).drop 24).drop 24).drop 24).drop 24), List.all_append, w_t7, w_t8]
  rfl
set_option maxRecDepth 65536 in
theorem w_rest : rest_1_c.before args0 about1 = true := by decide +kernel
set_option maxRecDepth 65536 in
theorem w_case : (Jvm.Cond.and given_1 narrow_1).before args0 about1 = true := by decide +kernel
set_option maxRecDepth 65536 in
theorem w_consts : constsHeld consts_1 about1 := Jvm.Lit.constsHeldB_iff.mp (by decide +kernel)
theorem w_applies : (headSpec (Jvm.Cond.code x code maxLocals ret :: tables_1) room_1).applies x e0.platform about1 = true :=
  (Spec.applies_iff w_frames).mpr ⟨w_running, w_runnable, w_alone, w_named, w_hears, w_ripe, w_room, w_tables⟩
theorem atStart : AtStart classFile x code maxLocals ret World_1 tables_1 room_1 Calls_1 rest_1 Pre_1 launch0 p0 e0 about1 theMethod args0 below0 :=
  ⟨lists_1, trivial, launch0.admits_env _ _ _, launch0.least_env, fairChoices_fair.cas, fairChoices_fair.clock, w_frames, w_args, w_heap, w_applies, ⟨w_consts, trivial⟩, w_rest, w_case⟩
end start1
theorem witness_1 : WitnessClaimed_1 := ⟨start1.p0, start1.e0, start1.about1, start1.theMethod, start1.args0, start1.below0, start1.atStart⟩
end Jvm.Pilot.@@N@@
