import JvmDerived
import JvmDerived.Pilot.@@N@@Statement
import JvmDerived.Pilot.@@N@@Code
set_option linter.unusedVariables false
set_option linter.unusedSimpArgs false
namespace Jvm.RoadKit
open Sem ClassFile Op Lib Jvm.Stand Jvm.Free Jvm.LawKit
section Own
variable {p : Program} {l : Launch} {e : Env} {R : Room} {s : State} {m : MethodId} {args : Array Value} {below : List Frame} {meth : Method} {c : Code} {T : State} {locs : List Loc} {cells slots : Nat}
theorem retI (X : Stand p l e R s m args below meth c T locs cells slots) (hx : p.tables.exec = Jvm.exec) {pc : Nat} {Ls : Array Slot} {z : Int32} {rest : List Value} (hret : meth.sig.returnType = some .int) (hd : decode c.code pc = .ok (.ireturn, 1)) {fs : List Frame}
    (hl : ∀ (f : JFrame) (acts : List Action), f.method = m → f.locked = none → f.entered = [] → (doReturn e (T.setTop f) acts (some (.int z))).1 = T.setFrames fs) : Steps p.tables e below (T.setTop (mkF m pc Ls (.int z :: rest))) (T.setFrames fs) :=
  retOut X hx hret rfl (Or.inl ⟨rfl, Or.inl rfl, _, rfl⟩) hd hl
variable {Q : Option Value → Heap → List Loc → Prop} {kc ks : Nat} {S S' : State}
section H
variable {Z : State} {EL : List (String × Nat)} {QH : Option Value → Heap → List Loc → (Addr → Prop) → Prop} {a0 : Array Value} {h : Heap} {vm0 : Vm}
/-- a callee that may intern, at a site: what is Safe there goes in, what is Safe at its end comes out -/
theorem backOfY {y : MethodName} {bytes : ByteArray} {maxL : Nat} {ret : Option FieldType} {rm : Room} {len W : Nat} {as' : Array Value} {sf : List Addr}
    (hM : MetFree l y (head1 [Cond.code y bytes maxL ret] rm) (fun a U => a = as' ∧ Z.Warmed39 U.vm ∧ U.heap = h ∧ CHv Z EL U.vm h ∧ ∀ x ∈ sf, Safe Z EL U.vm h x) (fun _ _ _ _ _ => True) (fun _ U o U' => ∃ v L, o = .returned v ∧ QH v U'.heap L (Safe Z EL U'.vm U'.heap) ∧ CHr Z EL U.vm U.heap U'.vm U'.heap ∧ ReturnedEndW U o U' L rm.cells rm.slots))
    (hZ : Z.Warmed39 vm0) (wc : (Cond.code y bytes maxL ret).before a0 Z = true) (wz : (Cond.initialized y.cls).before a0 Z = true) (hf : rm.frames + 1 ≤ R.frames) (hl : W + (maxL + 11) + rm.locals ≤ R.locals) (hEL : EW Z a0 EL) (H : CHv Z EL vm0 h) (hs : ∀ x ∈ sf, Safe Z EL vm0 h x) (hlt : ∀ x ∈ sf, x < h.size) :
    BackS l R p e below (s.setVm vm0) args y len W (fun A a => a = as' ∧ A.U.heap = h ∧ A.cells + rm.cells ≤ R.cells ∧ A.slots + rm.slots ≤ R.slots)
      (fun A _ v B => ∃ L, QH v B.U.heap L (Safe Z EL B.U.vm B.U.heap) ∧ B.locs = A.locs ++ L ∧ B.cells = A.cells + rm.cells ∧ B.slots = A.slots + rm.slots ∧ CHr Z EL vm0 h B.U.vm B.U.heap) := by
  refine BackS.of_freeW (bytes := bytes) (maxL := maxL) (ret := ret) (E := fun _ first o t L k n => k = rm.cells ∧ n = rm.slots ∧ (∃ v, o = .returned v ∧ QH v t.heap L (Safe Z EL t.vm t.heap)) ∧ CHr Z EL first.vm first.heap t.vm t.heap) hM hf hl ?_ ?_ (fun _ _ _ _ _ _ _ _ _ => trivial) ?_ ?_
  · intro m meth c A a Y hp
    have hU : Z.Warmed39 A.U.vm := wtrans (s := s.setVm vm0) hZ Y.warmed
    exact ⟨by show (Cond.and _ .tt).before a A.U = true; rw [Cond.before_and, mv hU wc]; rfl, mv hU wc, mv hU wz, hp.2.2.1, hp.2.2.2⟩
  · intro m meth c A a g mk Y hp
    have q := CHv.at Y hZ hEL H
    exact ⟨hp.1, wtrans (s := s.setVm vm0) hZ Y.warmed, hp.2.1, q.1, fun x hx => q.safe (hlt x hx) (hs x hx)⟩
  · rintro _ _ _ _ ⟨v, L, h1, h2, h3, h4⟩
    exact ⟨L, _, _, h4, rfl, rfl, ⟨v, h1, h2⟩, h3⟩
  · rintro m meth c A a g mk v t L k n Y hp - - ⟨e1, e2, ⟨v', e3, e4⟩, e5⟩
    cases e3; subst e1 e2
    refine ⟨L, e4, rfl, rfl, rfl, (CHv.at Y hZ hEL H).trans ?_⟩
    rw [← hp.2.1]; exact e5
end H
theorem own_len {Z : State} {args : Array Value} {t : Term} {a : Addr} {c : Cell} {ty : FieldType} {z : Int32} (ev : t.eval args Z none [] Z = some (.ref a)) (A : Arr Z Z.heap a c ty) (h : (Cond.eq (.length t) (.int z)).value args Z none Z [] = some true) : c.slots.size < 2 ^ 31 ∧ c.slots.size.toInt32 = z := by
  have ha := A.fin (U := Z) (Vm.Alike.refl _)
  by_cases q : c.slots.size < 2 ^ 31
  · exact ⟨q, gotT (Cond.eq_ints (len_f ev ha q) (Term.int_eval z)) h⟩
  · simp [Cond.value, Term.eval, ev, ha, q] at h
theorem own_narref {t : FieldType} {w : Value} (h : w.isRef = true) : narrow t w = w := by
  rcases XT.refc h with rfl | ⟨r, rfl⟩ <;> cases t <;> rfl
theorem own_fitsref {t : FieldType} {w : Value} (ht : t.isReference = true) (h : w.isRef = true) : fits t w = true := by
  rcases XT.refc h with rfl | ⟨r, rfl⟩ <;> cases t <;> first | rfl | (cases ht)
theorem nar_c (x : Int32) : nar .char x.toUInt32.toUInt16.toUInt32.toInt32 = x.toUInt32.toUInt16.toUInt32.toInt32 := by
  have := XT.narrow_c x
  simpa [narrow, nar] using this
theorem nar_b (x : Int32) : nar .byte x.toInt8.toInt32 = x.toInt8.toInt32 := by
  have := XT.narrow_b x
  simpa [narrow, nar] using this
theorem nar_ite {P : Prop} [Decidable P] : nar .boolean (if P then (1 : Int32) else 0) = (if P then (1 : Int32) else 0) := by split <;> decide
theorem nar_ite' {P : Prop} [Decidable P] : nar .boolean (if P then (0 : Int32) else 1) = (if P then (0 : Int32) else 1) := by split <;> decide
theorem narrow_nar {t : FieldType} {z : Int32} (ht : t = .boolean ∨ t = .byte ∨ t = .char ∨ t = .short) (h : nar t z = z) : narrow t (.int z) = .int z := by
  have hn : narrow t (.int z) = .int (nar t z) := by rcases ht with rfl | rfl | rfl | rfl <;> rfl
  rw [hn, h]
end Own
/-- the run that stands in S ends as E says -/
def Runs (p : Program) (e : Env) (below : List Frame) (E : State → Outcome → Prop) (S : State) : Prop :=
  ∃ s₂ o, Steps p.tables e below S s₂ ∧ s₂.status = .running ∧ Ended s₂ below o ∧ E s₂ o
theorem Runs.by {p : Program} {e : Env} {below : List Frame} {E : State → Outcome → Prop} {S S' : State} (k : Runs p e below E S') (st : ∀ t, Steps p.tables e below S' t → Steps p.tables e below S t) : Runs p e below E S := by
  obtain ⟨s₂, o, h1, h2⟩ := k
  exact ⟨s₂, o, st _ h1, h2⟩
theorem Runs.tr {p : Program} {e : Env} {below : List Frame} {E : State → Outcome → Prop} {S S' : State} (k : Runs p e below E S') (st : Steps p.tables e below S S') : Runs p e below E S := by
  obtain ⟨s₂, o, h1, h2⟩ := k
  exact ⟨s₂, o, st.trans h1, h2⟩
def EndN (s : State) (Q : Option Value → Heap → List Loc → Prop) (kc ks : Nat) : State → Outcome → Prop := fun s₂ o => ∃ v L, o = .returned v ∧ Q v s₂.heap L ∧ FrameEnd s o s₂ L kc ks
def EndH (s Z : State) (EL : List (String × Nat)) (Q : Option Value → Heap → List Loc → (Addr → Prop) → Prop) (kc ks : Nat) : State → Outcome → Prop := fun s₂ o => ∃ v L, o = .returned v ∧ Q v s₂.heap L (Safe Z EL s₂.vm s₂.heap) ∧ CHr Z EL s.vm s.heap s₂.vm s₂.heap ∧ ReturnedEndW s o s₂ L kc ks
section W
variable {p : Program} {l : Launch} {e : Env} {Rm : Room} {s : State} {m : MethodId} {args : Array Value} {below : List Frame} {meth : Method} {c : Code} {T : State} {locs : List Loc} {cells slots : Nat} {E : State → Outcome → Prop} {pc pc' : Nat} {Ls : Array Slot} {st : List Value}
theorem w_done (X : Stand p l e Rm s m args below meth c T locs cells slots) (hlk : meth.locks = false) {Q : Option Value → Heap → List Loc → Prop} {kc ks : Nat} {h : Heap} {v : Option Value} {g : JFrame} (eT : T.heap = h) (hv : meth.sig.returnType = none → v = none)
    (hr : ∀ fs, (∀ (f : JFrame) (acts : List Action), f.method = m → f.locked = none → f.entered = [] → (doReturn e (T.setTop f) acts v).1 = T.setFrames fs) → Steps p.tables e below (T.setTop g) (T.setFrames fs)) (hc : cells ≤ kc) (hn : slots ≤ ks) (hQ : Q v h locs) : Runs p e below (EndN s Q kc ks) (T.setTop g) := by
  obtain ⟨fs, h1, hrun, hended, hW, hsame⟩ := X.leave hv hlk
  subst eT
  exact ⟨_, _, hr fs h1, hrun, hended, v, locs, rfl, hQ, ⟨_, rfl⟩, hW, hsame.mono hc hn⟩
theorem w_doneH {vm₁ : Vm} (X : Stand p l e Rm (s.setVm vm₁) m args below meth c T locs cells slots) (hlk : meth.locks = false) {Z : State} {a0 : Array Value} {EL : List (String × Nat)} {Q : Option Value → Heap → List Loc → (Addr → Prop) → Prop} {kc ks k0 : Nat} {h h0 : Heap} {v : Option Value} {g : JFrame} (eT : T.heap = h) (hh : s.heap = h0) (hZ : Z.Warmed39 vm₁) (hEL : EW Z a0 EL) (hS : s.Since vm₁ k0) (hk : k0 ≤ h.size) (C : CHr Z EL s.vm h0 vm₁ h) (hv : meth.sig.returnType = none → v = none)
    (hr : ∀ fs, (∀ (f : JFrame) (acts : List Action), f.method = m → f.locked = none → f.entered = [] → (doReturn e (T.setTop f) acts v).1 = T.setFrames fs) → Steps p.tables e below (T.setTop g) (T.setFrames fs)) (hc : cells ≤ kc) (hn : slots ≤ ks) (hQ : (∀ x, x < h.size → Safe Z EL vm₁ h x → Safe Z EL T.vm h x) → Q v h locs (Safe Z EL T.vm h)) : Runs p e below (EndH s Z EL Q kc ks) (T.setTop g) := by
  subst eT hh
  obtain ⟨fs, h1, hrun, hended, q1, q2, q3, q4⟩ := X.leaveW hS hk hv hlk
  have A := CHv.at X hZ hEL C.1
  exact ⟨_, _, hr fs h1, hrun, hended, v, locs, rfl, hQ (fun x hx S => A.safe hx S), C.trans A, q1, q2, q3, q4.mono hc hn⟩
theorem w_aload (X : Stand p l e Rm s m args below meth c T locs cells slots) (hx : p.tables.exec = Jvm.exec) {k : Nat} {v : Value} (hd : decode c.code pc = .ok (.aload k, 2)) (hl : Ls[k]? = some (.val v)) (hv : v.isRef = true) (hp : pc + 2 = pc') (K : Runs p e below E (T.setTop (mkF m pc' Ls (v :: st)))) : Runs p e below E (T.setTop (mkF m pc Ls st)) := by
  subst hp; exact K.by fun _ k => XS.aload X.here hx rfl hd hl hv k
theorem w_aloadN (X : Stand p l e Rm s m args below meth c T locs cells slots) (hx : p.tables.exec = Jvm.exec) {k : Fin 4} {v : Value} (hd : decode c.code pc = .ok (.aload_n k, 1)) (hl : Ls[k.val]? = some (.val v)) (hv : v.isRef = true) (hp : pc + 1 = pc') (K : Runs p e below E (T.setTop (mkF m pc' Ls (v :: st)))) : Runs p e below E (T.setTop (mkF m pc Ls st)) := by
  subst hp; exact K.by fun _ k => XS.aloadN X.here hx rfl hd hl hv k
theorem w_iload (X : Stand p l e Rm s m args below meth c T locs cells slots) (hx : p.tables.exec = Jvm.exec) {k : Nat} {v : Int32} (hd : decode c.code pc = .ok (.iload k, 2)) (hl : Ls[k]? = some (.val (.int v))) (hp : pc + 2 = pc') (K : Runs p e below E (T.setTop (mkF m pc' Ls (.int v :: st)))) : Runs p e below E (T.setTop (mkF m pc Ls st)) := by
  subst hp; exact K.by fun _ k => XS.iload X.here hx rfl hd hl k
theorem w_iloadN (X : Stand p l e Rm s m args below meth c T locs cells slots) (hx : p.tables.exec = Jvm.exec) {k : Fin 4} {v : Int32} (hd : decode c.code pc = .ok (.iload_n k, 1)) (hl : Ls[k.val]? = some (.val (.int v))) (hp : pc + 1 = pc') (K : Runs p e below E (T.setTop (mkF m pc' Ls (.int v :: st)))) : Runs p e below E (T.setTop (mkF m pc Ls st)) := by
  subst hp; exact K.by fun _ k => XS.iloadN X.here hx rfl hd hl k
theorem w_istore (X : Stand p l e Rm s m args below meth c T locs cells slots) (hx : p.tables.exec = Jvm.exec) {k : Nat} {x : Int32} {L' : Array Slot} (hd : decode c.code pc = .ok (.istore k, 2)) (hl : storeLocals Ls k (.int x) = some L') (hp : pc + 2 = pc') (K : Runs p e below E (T.setTop (mkF m pc' L' st))) : Runs p e below E (T.setTop (mkF m pc Ls (.int x :: st))) := by
  subst hp; exact K.by fun _ k => XS.istore X.here hx rfl hd rfl hl k
theorem w_istoreN (X : Stand p l e Rm s m args below meth c T locs cells slots) (hx : p.tables.exec = Jvm.exec) {k : Fin 4} {x : Int32} {L' : Array Slot} (hd : decode c.code pc = .ok (.istore_n k, 1)) (hl : storeLocals Ls k.val (.int x) = some L') (hp : pc + 1 = pc') (K : Runs p e below E (T.setTop (mkF m pc' L' st))) : Runs p e below E (T.setTop (mkF m pc Ls (.int x :: st))) := by
  subst hp; exact K.by fun _ k => XS.istoreN X.here hx rfl hd rfl hl k
theorem w_astore (X : Stand p l e Rm s m args below meth c T locs cells slots) (hx : p.tables.exec = Jvm.exec) {k : Nat} {x : Value} {L' : Array Slot} (hd : decode c.code pc = .ok (.astore k, 2)) (hv : x.isRef = true) (hl : storeLocals Ls k x = some L') (hp : pc + 2 = pc') (K : Runs p e below E (T.setTop (mkF m pc' L' st))) : Runs p e below E (T.setTop (mkF m pc Ls (x :: st))) := by
  subst hp; exact K.by fun _ k => XS.astore X.here hx rfl hd rfl hv hl k
theorem w_astoreN (X : Stand p l e Rm s m args below meth c T locs cells slots) (hx : p.tables.exec = Jvm.exec) {k : Fin 4} {x : Value} {L' : Array Slot} (hd : decode c.code pc = .ok (.astore_n k, 1)) (hv : x.isRef = true) (hl : storeLocals Ls k.val x = some L') (hp : pc + 1 = pc') (K : Runs p e below E (T.setTop (mkF m pc' L' st))) : Runs p e below E (T.setTop (mkF m pc Ls (x :: st))) := by
  subst hp; exact K.by fun _ k => XS.astoreN X.here hx rfl hd rfl hv hl k
theorem w_iconst (X : Stand p l e Rm s m args below meth c T locs cells slots) (hx : p.tables.exec = Jvm.exec) {i : Int} {v : Int32} (hd : decode c.code pc = .ok (.iconst i, 1)) (hv : Int32.ofInt i = v) (hp : pc + 1 = pc') (K : Runs p e below E (T.setTop (mkF m pc' Ls (.int v :: st)))) : Runs p e below E (T.setTop (mkF m pc Ls st)) := by
  subst hp; exact K.by fun _ k => XT.iconstV X.here hx rfl v hd hv k
theorem w_bipush (X : Stand p l e Rm s m args below meth c T locs cells slots) (hx : p.tables.exec = Jvm.exec) {i : Int} {v : Int32} (hd : decode c.code pc = .ok (.bipush i, 2)) (hv : (Int8.ofInt i).toInt32 = v) (hp : pc + 2 = pc') (K : Runs p e below E (T.setTop (mkF m pc' Ls (.int v :: st)))) : Runs p e below E (T.setTop (mkF m pc Ls st)) := by
  subst hp; exact K.by fun _ k => XT.bipushV X.here hx rfl v hd hv k
theorem w_sipush (X : Stand p l e Rm s m args below meth c T locs cells slots) (hx : p.tables.exec = Jvm.exec) {i : Int} {v : Int32} (hd : decode c.code pc = .ok (.sipush i, 3)) (hv : (Int16.ofInt i).toInt32 = v) (hp : pc + 3 = pc') (K : Runs p e below E (T.setTop (mkF m pc' Ls (.int v :: st)))) : Runs p e below E (T.setTop (mkF m pc Ls st)) := by
  subst hp; exact K.by fun _ k => XT.sipushV X.here hx rfl v hd hv k
theorem w_null (X : Stand p l e Rm s m args below meth c T locs cells slots) (hx : p.tables.exec = Jvm.exec)  (hd : decode c.code pc = .ok (.aconst_null, 1))  (hp : pc + 1 = pc') (K : Runs p e below E (T.setTop (mkF m pc' Ls (.null :: st)))) : Runs p e below E (T.setTop (mkF m pc Ls st)) := by
  subst hp; exact K.by fun _ k => XS.aconstNull X.here hx rfl hd k
theorem w_iadd (X : Stand p l e Rm s m args below meth c T locs cells slots) (hx : p.tables.exec = Jvm.exec) {x y : Int32} (hd : decode c.code pc = .ok (.iadd, 1))  (hp : pc + 1 = pc') (K : Runs p e below E (T.setTop (mkF m pc' Ls (.int (x + y) :: st)))) : Runs p e below E (T.setTop (mkF m pc Ls (.int y :: .int x :: st))) := by
  subst hp; exact K.by fun _ k => XS.iadd X.here hx rfl hd rfl k
theorem w_isub (X : Stand p l e Rm s m args below meth c T locs cells slots) (hx : p.tables.exec = Jvm.exec) {x y : Int32} (hd : decode c.code pc = .ok (.isub, 1))  (hp : pc + 1 = pc') (K : Runs p e below E (T.setTop (mkF m pc' Ls (.int (x - y) :: st)))) : Runs p e below E (T.setTop (mkF m pc Ls (.int y :: .int x :: st))) := by
  subst hp; exact K.by fun _ k => XS.isub X.here hx rfl hd rfl k
theorem w_iand (X : Stand p l e Rm s m args below meth c T locs cells slots) (hx : p.tables.exec = Jvm.exec) {x y : Int32} (hd : decode c.code pc = .ok (.iand, 1))  (hp : pc + 1 = pc') (K : Runs p e below E (T.setTop (mkF m pc' Ls (.int (x &&& y) :: st)))) : Runs p e below E (T.setTop (mkF m pc Ls (.int y :: .int x :: st))) := by
  subst hp; exact K.by fun _ k => XS.iand X.here hx rfl hd rfl k
theorem w_ior (X : Stand p l e Rm s m args below meth c T locs cells slots) (hx : p.tables.exec = Jvm.exec) {x y : Int32} (hd : decode c.code pc = .ok (.ior, 1))  (hp : pc + 1 = pc') (K : Runs p e below E (T.setTop (mkF m pc' Ls (.int (x ||| y) :: st)))) : Runs p e below E (T.setTop (mkF m pc Ls (.int y :: .int x :: st))) := by
  subst hp; exact K.by fun _ k => XS.ior X.here hx rfl hd rfl k
theorem w_ixor (X : Stand p l e Rm s m args below meth c T locs cells slots) (hx : p.tables.exec = Jvm.exec) {x y : Int32} (hd : decode c.code pc = .ok (.ixor, 1))  (hp : pc + 1 = pc') (K : Runs p e below E (T.setTop (mkF m pc' Ls (.int (x ^^^ y) :: st)))) : Runs p e below E (T.setTop (mkF m pc Ls (.int y :: .int x :: st))) := by
  subst hp; exact K.by fun _ k => XS.ixor X.here hx rfl hd rfl k
theorem w_irem (X : Stand p l e Rm s m args below meth c T locs cells slots) (hx : p.tables.exec = Jvm.exec) {x y : Int32} (hd : decode c.code pc = .ok (.irem, 1)) (hy : ¬ y = 0) (hp : pc + 1 = pc') (K : Runs p e below E (T.setTop (mkF m pc' Ls (.int (x % y) :: st)))) : Runs p e below E (T.setTop (mkF m pc Ls (.int y :: .int x :: st))) := by
  subst hp; exact K.by fun _ k => iremM (g := mkF m pc Ls _) X hx rfl hd rfl hy k
theorem w_i2b (X : Stand p l e Rm s m args below meth c T locs cells slots) (hx : p.tables.exec = Jvm.exec) {x : Int32} (hd : decode c.code pc = .ok (.i2b, 1))  (hp : pc + 1 = pc') (K : Runs p e below E (T.setTop (mkF m pc' Ls (.int (x.toInt8.toInt32) :: st)))) : Runs p e below E (T.setTop (mkF m pc Ls (.int x :: st))) := by
  subst hp; exact K.by fun _ k => XS.i2b X.here hx rfl hd rfl k
theorem w_i2c (X : Stand p l e Rm s m args below meth c T locs cells slots) (hx : p.tables.exec = Jvm.exec) {x : Int32} (hd : decode c.code pc = .ok (.i2c, 1))  (hp : pc + 1 = pc') (K : Runs p e below E (T.setTop (mkF m pc' Ls (.int (x.toUInt32.toUInt16.toUInt32.toInt32) :: st)))) : Runs p e below E (T.setTop (mkF m pc Ls (.int x :: st))) := by
  subst hp; exact K.by fun _ k => XS.i2c X.here hx rfl hd rfl k
theorem w_ishl (X : Stand p l e Rm s m args below meth c T locs cells slots) (hx : p.tables.exec = Jvm.exec) {x y : Int32} (hd : decode c.code pc = .ok (.ishl, 1))  (hp : pc + 1 = pc') (K : Runs p e below E (T.setTop (mkF m pc' Ls (.int (x <<< (y &&& 31)) :: st)))) : Runs p e below E (T.setTop (mkF m pc Ls (.int y :: .int x :: st))) := by
  subst hp; exact K.by fun _ k => XS.ishl X.here hx rfl hd rfl k
theorem w_ishr (X : Stand p l e Rm s m args below meth c T locs cells slots) (hx : p.tables.exec = Jvm.exec) {x y : Int32} (hd : decode c.code pc = .ok (.ishr, 1))  (hp : pc + 1 = pc') (K : Runs p e below E (T.setTop (mkF m pc' Ls (.int (x >>> (y &&& 31)) :: st)))) : Runs p e below E (T.setTop (mkF m pc Ls (.int y :: .int x :: st))) := by
  subst hp; exact K.by fun _ k => XS.ishr X.here hx rfl hd rfl k
theorem w_iushr (X : Stand p l e Rm s m args below meth c T locs cells slots) (hx : p.tables.exec = Jvm.exec) {x y : Int32} (hd : decode c.code pc = .ok (.iushr, 1))  (hp : pc + 1 = pc') (K : Runs p e below E (T.setTop (mkF m pc' Ls (.int ((x.toUInt32 >>> (y &&& 31).toUInt32).toInt32) :: st)))) : Runs p e below E (T.setTop (mkF m pc Ls (.int y :: .int x :: st))) := by
  subst hp; exact K.by fun _ k => XS.iushr X.here hx rfl hd rfl k
theorem w_iinc (X : Stand p l e Rm s m args below meth c T locs cells slots) (hx : p.tables.exec = Jvm.exec) {k : Nat} {cst : Int} {x v : Int32} {L' : Array Slot} (hd : decode c.code pc = .ok (.iinc k cst, 3)) (hv : Int32.ofInt cst = v) (hl : Ls[k]? = some (.val (.int x))) (hl' : storeLocals Ls k (.int (x + v)) = some L') (hp : pc + 3 = pc') (K : Runs p e below E (T.setTop (mkF m pc' L' st))) : Runs p e below E (T.setTop (mkF m pc Ls st)) := by
  subst hp; exact K.by fun _ k => XT.iincV X.here hx rfl v hd hv hl hl' k
theorem w_dup (X : Stand p l e Rm s m args below meth c T locs cells slots) (hx : p.tables.exec = Jvm.exec) {x : Value} (hd : decode c.code pc = .ok (.dup, 1)) (hc : x.category = 1) (hp : pc + 1 = pc') (K : Runs p e below E (T.setTop (mkF m pc' Ls (x :: x :: st)))) : Runs p e below E (T.setTop (mkF m pc Ls (x :: st))) := by
  subst hp; exact K.by fun _ k => XS.dup X.here hx rfl hd rfl hc k
theorem w_pop (X : Stand p l e Rm s m args below meth c T locs cells slots) (hx : p.tables.exec = Jvm.exec) {x : Value} (hd : decode c.code pc = .ok (.pop, 1)) (hc : x.category = 1) (hp : pc + 1 = pc') (K : Runs p e below E (T.setTop (mkF m pc' Ls st))) : Runs p e below E (T.setTop (mkF m pc Ls (x :: st))) := by
  subst hp; exact K.by fun _ k => XS.pop X.here hx rfl hd rfl hc k
theorem w_goto (X : Stand p l e Rm s m args below meth c T locs cells slots) (hx : p.tables.exec = Jvm.exec) {o : Int} (hd : decode c.code pc = .ok (.goto o, 3))  (ho : 0 ≤ (pc : Int) + o) (hp : ((pc : Int) + o).toNat = pc') (K : Runs p e below E (T.setTop (mkF m pc' Ls st))) : Runs p e below E (T.setTop (mkF m pc Ls st)) := by
  exact K.by fun _ k => XS.goto X.here hx rfl rfl hd ho hp k
theorem w_ifY (X : Stand p l e Rm s m args below meth c T locs cells slots) (hx : p.tables.exec = Jvm.exec) {cd : ClassFile.Cond} {x : Int32} {o : Int} (hd : decode c.code pc = .ok (.ifCond cd o, 3)) (hc : if_icmp.holds cd x 0 = true) (ho : 0 ≤ (pc : Int) + o) (hp : ((pc : Int) + o).toNat = pc') (K : Runs p e below E (T.setTop (mkF m pc' Ls st))) : Runs p e below E (T.setTop (mkF m pc Ls (.int x :: st))) := by
  exact K.by fun _ k => XS.ifYes X.here hx rfl rfl hd rfl ((if0 _ _).trans hc) ho hp k
theorem w_ifN (X : Stand p l e Rm s m args below meth c T locs cells slots) (hx : p.tables.exec = Jvm.exec) {cd : ClassFile.Cond} {x : Int32} {o : Int} (hd : decode c.code pc = .ok (.ifCond cd o, 3)) (hc : if_icmp.holds cd x 0 = false) (hp : pc + 3 = pc') (K : Runs p e below E (T.setTop (mkF m pc' Ls st))) : Runs p e below E (T.setTop (mkF m pc Ls (.int x :: st))) := by
  subst hp; exact K.by fun _ k => XS.ifNo X.here hx rfl hd rfl ((if0 _ _).trans hc) k
theorem w_icY (X : Stand p l e Rm s m args below meth c T locs cells slots) (hx : p.tables.exec = Jvm.exec) {cd : ClassFile.Cond} {x y : Int32} {o : Int} (hd : decode c.code pc = .ok (.if_icmp cd o, 3)) (hc : if_icmp.holds cd x y = true) (ho : 0 ≤ (pc : Int) + o) (hp : ((pc : Int) + o).toNat = pc') (K : Runs p e below E (T.setTop (mkF m pc' Ls st))) : Runs p e below E (T.setTop (mkF m pc Ls (.int y :: .int x :: st))) := by
  exact K.by fun _ k => XS.icmpYes X.here hx rfl rfl hd rfl hc ho hp k
theorem w_icN (X : Stand p l e Rm s m args below meth c T locs cells slots) (hx : p.tables.exec = Jvm.exec) {cd : ClassFile.Cond} {x y : Int32} {o : Int} (hd : decode c.code pc = .ok (.if_icmp cd o, 3)) (hc : if_icmp.holds cd x y = false) (hp : pc + 3 = pc') (K : Runs p e below E (T.setTop (mkF m pc' Ls st))) : Runs p e below E (T.setTop (mkF m pc Ls (.int y :: .int x :: st))) := by
  subst hp; exact K.by fun _ k => XS.icmpNo X.here hx rfl hd rfl hc k
theorem w_ifnullY (X : Stand p l e Rm s m args below meth c T locs cells slots) (hx : p.tables.exec = Jvm.exec) {o : Int} (hd : decode c.code pc = .ok (.ifnull o, 3))  (ho : 0 ≤ (pc : Int) + o) (hp : ((pc : Int) + o).toNat = pc') (K : Runs p e below E (T.setTop (mkF m pc' Ls st))) : Runs p e below E (T.setTop (mkF m pc Ls (.null :: st))) := by
  exact K.by fun _ k => XS.ifnullYes X.here hx rfl rfl hd rfl ho hp k
theorem w_ifnullN (X : Stand p l e Rm s m args below meth c T locs cells slots) (hx : p.tables.exec = Jvm.exec) {b : Addr} {o : Int} (hd : decode c.code pc = .ok (.ifnull o, 3))  (hp : pc + 3 = pc') (K : Runs p e below E (T.setTop (mkF m pc' Ls st))) : Runs p e below E (T.setTop (mkF m pc Ls (.ref b :: st))) := by
  subst hp; exact K.by fun _ k => XS.ifnullNo X.here hx rfl hd rfl k
theorem w_getF (X : Stand p l e Rm s m args below meth c T locs cells slots) (hx : p.tables.exec = Jvm.exec) {Z : State} {a0 : Array Value} {h : Heap} {own R0 O n d : String} (host : String) {index : Nat} {a : Addr} {v : Value} (hZ : Z.Warmed39 s.vm) (hown : s.vm.findClass own = some m.cls) (w : (Cond.fieldLink own index R0 n d).before a0 Z = true ∨ (Cond.fieldLinkNest own index R0 n d host).before a0 Z = true) (via : Via Z R0 O n d) (eT : T.heap = h) (F : Fld Z h a O n d v) (hd : decode c.code pc = .ok (.getfield index, 3)) (hp : pc + 3 = pc') (K : ∀ T' : State, Stand p l e Rm s m args below meth c T' locs cells slots → T'.heap = h → Runs p e below E (T'.setTop (mkF m pc' Ls (v :: st)))) : Runs p e below E (T.setTop (mkF m pc Ls (.ref a :: st))) := by
  subst hp
  obtain ⟨T1, X1, e1, st1⟩ := getF X hx hZ hown (host := host) w via eT F (g := mkF m pc Ls (.ref a :: st)) rfl rfl hd
  exact (K T1 X1 e1).by st1
theorem w_getS (X : Stand p l e Rm s m args below meth c T locs cells slots) (hx : p.tables.exec = Jvm.exec) {Z : State} {a0 : Array Value} {h : Heap} {own R0 O n d : String} (host : String) {index : Nat} {v : Value} (hZ : Z.Warmed39 s.vm) (hown : s.vm.findClass own = some m.cls) (w : (Cond.fieldLink own index R0 n d).before a0 Z = true ∨ (Cond.fieldLinkNest own index R0 n d host).before a0 Z = true) (via : Via Z R0 O n d) (eT : T.heap = h) (F : Sta Z h O n d v) (hd : decode c.code pc = .ok (.getstatic index, 3)) (hp : pc + 3 = pc') (K : ∀ T' : State, Stand p l e Rm s m args below meth c T' locs cells slots → T'.heap = h → Runs p e below E (T'.setTop (mkF m pc' Ls (v :: st)))) : Runs p e below E (T.setTop (mkF m pc Ls st)) := by
  subst hp
  obtain ⟨T1, X1, e1, st1⟩ := getS2 X hx hZ hown (host := host) w via eT F (g := mkF m pc Ls st) rfl hd
  exact (K T1 X1 e1).by st1
theorem w_putF (X : Stand p l e Rm s m args below meth c T locs cells slots) (hx : p.tables.exec = Jvm.exec) {Z : State} {a0 : Array Value} {h : Heap} {own R0 O n d C : String} (host : String) {index kk : Nat} {ty : FieldType} {a : Addr} {v old : Value} (hZ : Z.Warmed39 s.vm) (hown : s.vm.findClass own = some m.cls) (w : (Cond.fieldLink own index R0 n d).before a0 Z = true ∨ (Cond.fieldLinkNest own index R0 n d host).before a0 Z = true) (via : Via Z R0 O n d) (eT : T.heap = h) (F : Fld Z h a O n d old) (Ex : Exa Z h a C) (Ly : (Cond.lays C O n d).before a0 Z = true ∨ ((Cond.laysFinal C O n d).before a0 Z = true ∧ own = O ∧ meth.name = "<init>")) (wi : (Cond.instantiable C kk).before a0 Z = true) (hty : parseFieldDescriptor d = some ty) (hn : narrow ty v = v) (hf : fits ty v = true) (hd : decode c.code pc = .ok (.putfield index, 3)) (hp : pc + 3 = pc') (K : ∀ (T' : State) (h' : Heap), Stand p l e Rm s m args below meth c T' (locs ++ [⟨a, slotOf Z O n d⟩]) cells slots → T'.heap = h' → Wr h h' a (slotOf Z O n d) v → Runs p e below E (T'.setTop (mkF m pc' Ls st))) : Runs p e below E (T.setTop (mkF m pc Ls (v :: .ref a :: st))) := by
  subst hp
  obtain ⟨T1, h1, X1, e1, W1, st1⟩ := putF X hx hZ hown (host := host) w via eT F Ex Ly wi hty hn hf (g := mkF m pc Ls (v :: .ref a :: st)) rfl rfl hd
  exact (K T1 h1 X1 e1 W1).by st1
theorem w_new (X : Stand p l e Rm s m args below meth c T locs cells slots) (hx : p.tables.exec = Jvm.exec) {Z : State} {a0 : Array Value} {h : Heap} {own C : String} {index n : Nat} (hZ : Z.Warmed39 s.vm) (hown : s.vm.findClass own = some m.cls) (w : (Cond.classLink own index C).before a0 Z = true) (wi : (Cond.instantiable C n).before a0 Z = true) (wz : (Cond.initialized C).before a0 Z = true) (eT : T.heap = h) (hd : decode c.code pc = .ok (.new index, 3)) (hc : cells + 1 ≤ Rm.cells) (hl : slots + n ≤ Rm.slots) (hp : pc + 3 = pc') (K : ∀ (T' : State) (h' : Heap) (b : Addr), Stand p l e Rm s m args below meth c T' locs (cells + 1) (slots + n) → T'.heap = h' → Ext h h' → b = h.size → Exa Z h' b C → (∀ {O nm d : String} {ty : FieldType}, Laid Z a0 C O nm d → parseFieldDescriptor d = some ty → Fld Z h' b O nm d (defaultValue ty)) → Runs p e below E (T'.setTop (mkF m pc' Ls (.ref b :: st)))) : Runs p e below E (T.setTop (mkF m pc Ls st)) := by
  subst hp
  obtain ⟨T1, h1, X1, e1, E1, A1, D1, -, st1⟩ := newO X hx hZ hown w wi wz eT (g := mkF m pc Ls st) rfl hd hc hl
  exact (K T1 h1 _ X1 e1 E1 rfl A1 D1).by st1
theorem w_newP (X : Stand p l e Rm s m args below meth c T locs cells slots) (hx : p.tables.exec = Jvm.exec) {Z : State} {a0 : Array Value} {h : Heap} (aty : ArrayType) (ty : FieldType) {n : Int32} (cap : Nat) (hty : newarray.typeOf aty = ty) (hZ : Z.Warmed39 s.vm) (w : (Cond.arrayClass ty).before a0 Z = true) (eT : T.heap = h) (hd : decode c.code pc = .ok (.newarray aty, 2)) (hn : ¬ n < 0) (hcap : n.toNatClampNeg ≤ cap) (hb : cap * 8 ≤ 536870912) (hc : cells + 1 ≤ Rm.cells) (hl : slots + cap ≤ Rm.slots) (hp : pc + 2 = pc') (K : ∀ (T' : State) (h' : Heap) (k : ClassId) (b : Addr), Stand p l e Rm s m args below meth c T' locs (cells + 1) (slots + cap) → T'.heap = h' → Ext h h' → b = h.size → Arr Z h' b (newA k ty n) ty → Runs p e below E (T'.setTop (mkF m pc' Ls (.ref b :: st)))) : Runs p e below E (T.setTop (mkF m pc Ls (.int n :: st))) := by
  subst hp
  subst hty
  obtain ⟨T1, h1, k1, X1, e1, E1, A1, st1⟩ := newP X hx hZ w eT (g := mkF m pc Ls (.int n :: st)) rfl hd rfl hn hcap hb hc hl
  exact (K T1 h1 k1 _ X1 e1 E1 rfl A1).by st1
theorem w_stC (X : Stand p l e Rm s m args below meth c T locs cells slots) (hx : p.tables.exec = Jvm.exec) {Z : State} {h : Heap} {a : Addr} {cl : Cell} {j : Int32} {x : Int32} (hZ : Z.Warmed39 s.vm) (eT : T.heap = h) (A : Arr Z h a cl .char) (hj : ¬ (j < 0 ∨ cl.slots.size ≤ j.toNatClampNeg)) (hd : decode c.code pc = .ok (.castore, 1)) (hp : pc + 1 = pc') (K : ∀ (T' : State) (h' : Heap), Stand p l e Rm s m args below meth c T' (locs ++ [⟨a, j.toNatClampNeg⟩]) cells slots → T'.heap = h' → Wr h h' a j.toNatClampNeg (.int (nar .char x)) → Runs p e below E (T'.setTop (mkF m pc' Ls st))) : Runs p e below E (T.setTop (mkF m pc Ls (.int x :: .int j :: .ref a :: st))) := by
  subst hp
  obtain ⟨T1, h1, X1, e1, W1, st1⟩ := stC X hx hZ eT A (j := j) hj (g := mkF m pc Ls (.int x :: .int j :: .ref a :: st)) rfl rfl hd
  exact (K T1 h1 X1 e1 W1).by st1
theorem w_stB (X : Stand p l e Rm s m args below meth c T locs cells slots) (hx : p.tables.exec = Jvm.exec) {Z : State} {h : Heap} {a : Addr} {cl : Cell} {j : Int32} {x : Int32} (hZ : Z.Warmed39 s.vm) (eT : T.heap = h) (A : Arr Z h a cl .byte) (hj : ¬ (j < 0 ∨ cl.slots.size ≤ j.toNatClampNeg)) (hd : decode c.code pc = .ok (.bastore, 1)) (hp : pc + 1 = pc') (K : ∀ (T' : State) (h' : Heap), Stand p l e Rm s m args below meth c T' (locs ++ [⟨a, j.toNatClampNeg⟩]) cells slots → T'.heap = h' → Wr h h' a j.toNatClampNeg (.int (nar .byte x)) → Runs p e below E (T'.setTop (mkF m pc' Ls st))) : Runs p e below E (T.setTop (mkF m pc Ls (.int x :: .int j :: .ref a :: st))) := by
  subst hp
  obtain ⟨T1, h1, X1, e1, W1, st1⟩ := stB X hx hZ eT A (j := j) hj (g := mkF m pc Ls (.int x :: .int j :: .ref a :: st)) rfl rfl hd
  exact (K T1 h1 X1 e1 W1).by st1
theorem w_caload (X : Stand p l e Rm s m args below meth c T locs cells slots) (hx : p.tables.exec = Jvm.exec) {Z : State} {h : Heap} {a : Addr} {cl : Cell} {j : Int32} {v : Int32} (hZ : Z.Warmed39 s.vm) (eT : T.heap = h) (A : Arr Z h a cl .char) (hj : ¬ (j < 0 ∨ cl.slots.size ≤ j.toNatClampNeg)) (hv : cl.slots[j.toNatClampNeg]? = some (.int v)) (hd : decode c.code pc = .ok (.caload, 1)) (hp : pc + 1 = pc') (K : Runs p e below E (T.setTop (mkF m pc' Ls (.int v :: st)))) : Runs p e below E (T.setTop (mkF m pc Ls (.int j :: .ref a :: st))) := by
  subst hp
  exact K.by fun t k => X.caload hx (j := j) (v := .int v) (by rw [eT]; exact A.1) (State.isArrayOf_alike hZ.alike A.2.1) A.2.2 hj hv (g := mkF m pc Ls (.int j :: .ref a :: st)) rfl rfl hd t k
theorem w_baload (X : Stand p l e Rm s m args below meth c T locs cells slots) (hx : p.tables.exec = Jvm.exec) {Z : State} {h : Heap} {a : Addr} {cl : Cell} {j : Int32} {v : Int32} (hZ : Z.Warmed39 s.vm) (eT : T.heap = h) (A : Arr Z h a cl .byte) (hj : ¬ (j < 0 ∨ cl.slots.size ≤ j.toNatClampNeg)) (hv : cl.slots[j.toNatClampNeg]? = some (.int v)) (hd : decode c.code pc = .ok (.baload, 1)) (hp : pc + 1 = pc') (K : Runs p e below E (T.setTop (mkF m pc' Ls (.int v :: st)))) : Runs p e below E (T.setTop (mkF m pc Ls (.int j :: .ref a :: st))) := by
  subst hp
  exact K.by fun t k => X.baloadBytes hx (j := j) (v := .int v) (by rw [eT]; exact A.1) (State.isArrayOf_alike hZ.alike A.2.1) A.2.2 hj hv (g := mkF m pc Ls (.int j :: .ref a :: st)) rfl rfl hd t k
theorem w_alen (X : Stand p l e Rm s m args below meth c T locs cells slots) (hx : p.tables.exec = Jvm.exec) {Z : State} {h : Heap} {a : Addr} {k : ClassId} {ty : FieldType} {z : Int32} {vs : List Value} {dv : Value} (hZ : Z.Warmed39 s.vm) (eT : T.heap = h) (F : Arv Z h a k ty z vs dv) (hd : decode c.code pc = .ok (.arraylength, 1)) (hp : pc + 1 = pc') (K : Runs p e below E (T.setTop (mkF m pc' Ls (.int z :: st)))) : Runs p e below E (T.setTop (mkF m pc Ls (.ref a :: st))) := by
  subst hp
  obtain ⟨cl, A, q, S, N, H, G⟩ := F
  rw [← len_of S N] at K
  exact K.by fun t k => X.arraylength hx (by rw [eT]; exact A.1) (State.isArrayOf_alike hZ.alike A.2.1) (g := mkF m pc Ls (.ref a :: st)) rfl rfl hd t k
theorem w_ldcI (X : Stand p l e Rm s m args below meth c T locs cells slots) (hx : p.tables.exec = Jvm.exec) {Z : State} {a0 : Array Value} {own : String} {index : Nat} {v : Int32} (hZ : Z.Warmed39 s.vm) (hown : s.vm.findClass own = some m.cls) (w : (Cond.constant own index v).before a0 Z = true) (hd : decode c.code pc = .ok (.ldc index, 2)) (hp : pc + 2 = pc') (K : Runs p e below E (T.setTop (mkF m pc' Ls (.int v :: st)))) : Runs p e below E (T.setTop (mkF m pc Ls st)) := by
  subst hp
  exact K.by fun t k => X.ldcInt hx hown (mvT hZ w) (g := mkF m pc Ls st) rfl hd t k
theorem w_initO (X : Stand p l e Rm s m args below meth c T locs cells slots) (hx : p.tables.exec = Jvm.exec) {Z : State} {a0 : Array Value} {h : Heap} {own : String} {index : Nat} {a : Addr} (W : Nat) (hZ : Z.Warmed39 s.vm) (hown : s.vm.findClass own = some m.cls) (w1 : (Cond.methodLink own index Lib.objectInit).before a0 Z = true) (w2 : (Cond.instanceMethod Lib.objectInit).before a0 Z = true) (w3 : (Cond.code Lib.objectInit ⟨#[0xb1]⟩ 1 none).before a0 Z = true) (eT : T.heap = h) (hsz : Ls.size = c.maxLocals) (hd : decode c.code pc = .ok (.invokespecial index, 3)) (hf : 1 ≤ Rm.frames) (hW : (st.map fun v => v.category).sum ≤ W) (hl : W + 12 ≤ Rm.locals) (hp : pc + 3 = pc') (K : ∀ T' : State, Stand p l e Rm s m args below meth c T' locs cells slots → T'.heap = h → Runs p e below E (T'.setTop (mkF m pc' Ls st))) : Runs p e below E (T.setTop (mkF m pc Ls (.ref a :: st))) := by
  subst hp
  obtain ⟨T1, X1, e1, st1⟩ := initO X hx hZ hown w1 w2 w3 eT (g := mkF m pc Ls (.ref a :: st)) rfl hsz rfl hd hf (W := W) (by show 2 * 0 + _ ≤ _; omega) hl
  exact (K T1 X1 e1).by st1
theorem w_static (X : Stand p l e Rm s m args below meth c T locs cells slots) (hx : p.tables.exec = Jvm.exec) {stk : List Value} {own : String} {index : Nat} {y : MethodName} {bytes : ByteArray} {maxL : Nat} {ret : Option FieldType} {W : Nat} {Pre : Pt → Array Value → Prop} {Post : Pt → Array Value → Option Value → Pt → Prop} (hown : s.vm.findClass own = some m.cls) (hlink : (Cond.methodLink own index y).before args s = true) (hstat : (Cond.static y).before args s = true) (hinit : (Cond.initialized y.cls).before args s = true) (hcode : (Cond.code y bytes maxL ret).before args s = true) (hy : y.cls ≠ "java/lang/invoke/MethodHandle" ∧ y.cls ≠ "java/lang/invoke/VarHandle") (hK : Back l Rm p e below s args y 3 W Pre Post) (hsz : Ls.size = c.maxLocals) (argsL : List Value) (hlen : ∀ sig, parseMethodDescriptor y.desc = some sig → argsL.length = sig.parameters.length) (hst : stk = argsL.reverse ++ st) (hW : (st.map fun v => v.category).sum ≤ W) (hd : decode c.code pc = .ok (.invokestatic index, 3)) (hpre : ∀ vm₁, s.WarmedH vm₁ → Pre ⟨T.setVm vm₁, locs, cells, slots⟩ argsL.toArray) (hp : pc + 3 = pc') (K : ∀ (v : Option Value) (vm₁ : Vm) (B : Pt), Stand p l e Rm s m args below meth c B.U B.locs B.cells B.slots → Post ⟨T.setVm vm₁, locs, cells, slots⟩ argsL.toArray v B → Runs p e below E (B.U.setTop (mkF m pc' Ls (v.toList ++ st)))) : Runs p e below E (T.setTop (mkF m pc Ls stk)) := by
  subst hp
  obtain ⟨v1, vm1, B1, -, X1, q1, st1⟩ := Jvm.LawKit.callS X hx hown hlink hstat hinit hcode hy hK (g := mkF m pc Ls stk) rfl hsz (argsL := argsL) (rest := st) hlen hst (by show 2 * 0 + _ ≤ _; omega) hd hpre
  exact (K v1 vm1 B1 X1 q1).by st1
theorem w_special (X : Stand p l e Rm s m args below meth c T locs cells slots) (hx : p.tables.exec = Jvm.exec) {stk : List Value} {own : String} {index : Nat} {y : MethodName} {bytes : ByteArray} {maxL : Nat} {a : Addr} {W : Nat} {Pre : Pt → Array Value → Prop} {Post : Pt → Array Value → Option Value → Pt → Prop} (hy1 : y.name = "<init>") (hown : s.vm.findClass own = some m.cls) (hlink : (Cond.methodLink own index y).before args s = true) (hinst : (Cond.instanceMethod y).before args s = true) (hcode : (Cond.code y bytes maxL none).before args s = true) (hy : y.cls ≠ "java/lang/invoke/MethodHandle" ∧ y.cls ≠ "java/lang/invoke/VarHandle") (hK : Back l Rm p e below s args y 3 W Pre Post) (hsz : Ls.size = c.maxLocals) (argsL : List Value) (hlen : ∀ sig, parseMethodDescriptor y.desc = some sig → argsL.length = sig.parameters.length) (hst : stk = argsL.reverse ++ .ref a :: st) (hW : (st.map fun v => v.category).sum ≤ W) (hd : decode c.code pc = .ok (.invokespecial index, 3)) (hpre : ∀ vm₁, s.WarmedH vm₁ → Pre ⟨T.setVm vm₁, locs, cells, slots⟩ (.ref a :: argsL).toArray) (hp : pc + 3 = pc') (K : ∀ (v : Option Value) (vm₁ : Vm) (B : Pt), Stand p l e Rm s m args below meth c B.U B.locs B.cells B.slots → Post ⟨T.setVm vm₁, locs, cells, slots⟩ (.ref a :: argsL).toArray v B → Runs p e below E (B.U.setTop (mkF m pc' Ls (v.toList ++ st)))) : Runs p e below E (T.setTop (mkF m pc Ls stk)) := by
  subst hp
  obtain ⟨v1, vm1, B1, -, X1, q1, st1⟩ := X.specialBack hx hy1 hown hlink hinst hcode hy hK (g := mkF m pc Ls stk) rfl hsz (Steps.refl _) (a := a) (argsL := argsL) (rest := st) hlen hst (by show 2 * 0 + _ ≤ _; omega) hd hpre
  exact (K v1 vm1 B1 X1 q1).tr st1
theorem w_virtual (X : Stand p l e Rm s m args below meth c T locs cells slots) (hx : p.tables.exec = Jvm.exec) {stk : List Value} {own C : String} {index : Nat} {y z : MethodName} {b : Addr} {cB : ClassId} {W : Nat} {Pre : Pt → Array Value → Prop} {Post : Pt → Array Value → Option Value → Pt → Prop} (hown : s.vm.findClass own = some m.cls) (hlink : (Cond.methodLink own index y).before args s = true) (hdecl : (Cond.declares y).before args s = true) (hnf : NotFace s y) (hsel : (Cond.selects C y z).before args s = true) (hinst : (Cond.instanceMethod z).before args s = true) (hy : y.cls ≠ "java/lang/invoke/MethodHandle" ∧ y.cls ≠ "java/lang/invoke/VarHandle") (hK : Back l Rm p e below s args z 3 W Pre Post) (hcB : s.vm.findClass C = some cB) (hrecv : IsOf cB T b) (hsz : Ls.size = c.maxLocals) (argsL : List Value) (hlen : ∀ sig, parseMethodDescriptor y.desc = some sig → argsL.length = sig.parameters.length) (hst : stk = argsL.reverse ++ .ref b :: st) (hW : (st.map fun v => v.category).sum ≤ W) (hd : decode c.code pc = .ok (.invokevirtual index, 3)) (hpre : ∀ vm₁, s.WarmedH vm₁ → Pre ⟨T.setVm vm₁, locs, cells, slots⟩ (.ref b :: argsL).toArray) (hp : pc + 3 = pc') (K : ∀ (v : Option Value) (vm₁ : Vm) (B : Pt), Stand p l e Rm s m args below meth c B.U B.locs B.cells B.slots → Post ⟨T.setVm vm₁, locs, cells, slots⟩ (.ref b :: argsL).toArray v B → Runs p e below E (B.U.setTop (mkF m pc' Ls (v.toList ++ st)))) : Runs p e below E (T.setTop (mkF m pc Ls stk)) := by
  subst hp
  obtain ⟨v1, vm1, B1, -, X1, q1, st1⟩ := X.virtualBack hx hown hlink hdecl hnf hsel hinst hy hK hcB hrecv (g := mkF m pc Ls stk) rfl hsz (Steps.refl _) (argsL := argsL) (rest := st) hlen hst (by show 2 * 0 + _ ≤ _; omega) hd hpre
  exact (K v1 vm1 B1 X1 q1).tr st1
theorem w_staticS (X : Stand p l e Rm s m args below meth c T locs cells slots) (hx : p.tables.exec = Jvm.exec) {stk : List Value} {own : String} {index : Nat} {y : MethodName} {bytes : ByteArray} {maxL : Nat} {ret : Option FieldType} {W : Nat} {Pre : Pt → Array Value → Prop} {Post : Pt → Array Value → Option Value → Pt → Prop} (hown : s.vm.findClass own = some m.cls) (hlink : (Cond.methodLink own index y).before args s = true) (hstat : (Cond.static y).before args s = true) (hinit : (Cond.initialized y.cls).before args s = true) (hcode : (Cond.code y bytes maxL ret).before args s = true) (hy : y.cls ≠ "java/lang/invoke/MethodHandle" ∧ y.cls ≠ "java/lang/invoke/VarHandle") (hK : BackS l Rm p e below s args y 3 W Pre Post) (hsz : Ls.size = c.maxLocals) (argsL : List Value) (hlen : ∀ sig, parseMethodDescriptor y.desc = some sig → argsL.length = sig.parameters.length) (hst : stk = argsL.reverse ++ st) (hW : (st.map fun v => v.category).sum ≤ W) (hd : decode c.code pc = .ok (.invokestatic index, 3)) (hpre : ∀ vm₁, s.WarmedH vm₁ → Pre ⟨T.setVm vm₁, locs, cells, slots⟩ argsL.toArray) (hp : pc + 3 = pc') (K : ∀ (v : Option Value) (vm₁ : Vm) (B : Pt), Stand p l e Rm (s.setVm B.U.vm) m args below meth c B.U B.locs B.cells B.slots → s.Since B.U.vm B.U.heap.size → T.heap.size ≤ B.U.heap.size → Post ⟨T.setVm vm₁, locs, cells, slots⟩ argsL.toArray v B → Runs p e below E (B.U.setTop (mkF m pc' Ls (v.toList ++ st)))) : Runs p e below E (T.setTop (mkF m pc Ls stk)) := by
  subst hp
  obtain ⟨v1, vm1, B1, -, X1, s1, g1, q1, st1⟩ := callSS X hx hown hlink hstat hinit hcode hy hK (g := mkF m pc Ls stk) rfl hsz (argsL := argsL) (rest := st) hlen hst (by show 2 * 0 + _ ≤ _; omega) hd hpre
  exact (K v1 vm1 B1 X1 s1 g1 q1).tr st1
theorem w_specialS (X : Stand p l e Rm s m args below meth c T locs cells slots) (hx : p.tables.exec = Jvm.exec) {stk : List Value} {own : String} {index : Nat} {y : MethodName} {bytes : ByteArray} {maxL : Nat} {a : Addr} {W : Nat} {Pre : Pt → Array Value → Prop} {Post : Pt → Array Value → Option Value → Pt → Prop} (hy1 : y.name = "<init>") (hown : s.vm.findClass own = some m.cls) (hlink : (Cond.methodLink own index y).before args s = true) (hinst : (Cond.instanceMethod y).before args s = true) (hcode : (Cond.code y bytes maxL none).before args s = true) (hy : y.cls ≠ "java/lang/invoke/MethodHandle" ∧ y.cls ≠ "java/lang/invoke/VarHandle") (hK : BackS l Rm p e below s args y 3 W Pre Post) (hsz : Ls.size = c.maxLocals) (argsL : List Value) (hlen : ∀ sig, parseMethodDescriptor y.desc = some sig → argsL.length = sig.parameters.length) (hst : stk = argsL.reverse ++ .ref a :: st) (hW : (st.map fun v => v.category).sum ≤ W) (hd : decode c.code pc = .ok (.invokespecial index, 3)) (hpre : ∀ vm₁, s.WarmedH vm₁ → Pre ⟨T.setVm vm₁, locs, cells, slots⟩ (.ref a :: argsL).toArray) (hp : pc + 3 = pc') (K : ∀ (v : Option Value) (vm₁ : Vm) (B : Pt), Stand p l e Rm (s.setVm B.U.vm) m args below meth c B.U B.locs B.cells B.slots → s.Since B.U.vm B.U.heap.size → T.heap.size ≤ B.U.heap.size → Post ⟨T.setVm vm₁, locs, cells, slots⟩ (.ref a :: argsL).toArray v B → Runs p e below E (B.U.setTop (mkF m pc' Ls (v.toList ++ st)))) : Runs p e below E (T.setTop (mkF m pc Ls stk)) := by
  subst hp
  obtain ⟨v1, vm1, B1, -, X1, s1, g1, q1, st1⟩ := X.specialBackS hx hy1 hown hlink hinst hcode hy hK (g := mkF m pc Ls stk) rfl hsz (Steps.refl _) (a := a) (argsL := argsL) (rest := st) hlen hst (by show 2 * 0 + _ ≤ _; omega) hd hpre
  exact (K v1 vm1 B1 X1 s1 g1 q1).tr st1
end W

/-- a body's contract, and how a walk shows it -/
abbrev MetN (l : Launch) (Z : State) (y : MethodName) (bytes : ByteArray) (maxL : Nat) (ret : Option FieldType) (ws : List Cond) (rm : Room) (as' : Array Value) (h : Heap) (Q : Option Value → Heap → List Loc → Prop) : Prop :=
  MetFree l y (head1 (Cond.code y bytes maxL ret :: ws) rm) (fun a U => a = as' ∧ Z.Warmed39 U.vm ∧ U.heap = h) (fun _ _ _ _ _ => True) (fun _ U o U' => ∃ v L, o = .returned v ∧ Q v U'.heap L ∧ FrameEnd U o U' L rm.cells rm.slots)
theorem MetN.of {l : Launch} {Z : State} {y : MethodName} {bytes : ByteArray} {maxL : Nat} {ret : Option FieldType} {ws : List Cond} {rm : Room} {as' : Array Value} {h : Heap} {Q : Option Value → Heap → List Loc → Prop} (hp : plainFor y = true)
    (H : ∀ (p : Program) (e : Env) (s : State) (m : MethodId) (below : List Frame) (meth : Method) (c : Code) (s₁ : State), meth.sig.returnType = ret → p.tables.exec = Jvm.exec → c.code = bytes → c.maxLocals = maxL → s.vm.findClass y.cls = some m.cls → meth.name = y.name → meth.locks = false → Z.Warmed39 s.vm → Stand p l e rm s m as' below meth c s₁ [] 0 0 → s₁.heap = h → Runs p e below (EndN s Q rm.cells rm.slots) (s₁.setTop (entryFrame m as' maxL))) :
    MetN l Z y bytes maxL ret ws rm as' h Q := by
  refine MetFree.of_bodySF hp hisR ?_
  intro p e s m args below meth c s₁ Bd hml hP hK
  obtain ⟨rfl, hZ, hh⟩ := hP
  exact H p e s m below meth c s₁ Bd.returns Bd.exec Bd.bytes hml (findClass_of_methodNamed Bd.named) (name_of_methodNamed Bd.named Bd.method).1 Bd.notSynchronized hZ (Stand.of_body Bd) (by rw [← hh, Bd.state]; rfl)
abbrev MetH (l : Launch) (Z : State) (EL : List (String × Nat)) (y : MethodName) (bytes : ByteArray) (maxL : Nat) (ret : Option FieldType) (ws : List Cond) (rm : Room) (as' : Array Value) (h : Heap) (Q : Option Value → Heap → List Loc → (Addr → Prop) → Prop) (sf : List Addr) : Prop :=
  MetFree l y (head1 (Cond.code y bytes maxL ret :: ws) rm) (fun a U => a = as' ∧ Z.Warmed39 U.vm ∧ U.heap = h ∧ CHv Z EL U.vm h ∧ ∀ x ∈ sf, Safe Z EL U.vm h x) (fun _ _ _ _ _ => True) (fun _ U o U' => ∃ v L, o = .returned v ∧ Q v U'.heap L (Safe Z EL U'.vm U'.heap) ∧ CHr Z EL U.vm U.heap U'.vm U'.heap ∧ ReturnedEndW U o U' L rm.cells rm.slots)
theorem MetH.of {l : Launch} {Z : State} {EL : List (String × Nat)} {y : MethodName} {bytes : ByteArray} {maxL : Nat} {ret : Option FieldType} {ws : List Cond} {rm : Room} {as' : Array Value} {h : Heap} {Q : Option Value → Heap → List Loc → (Addr → Prop) → Prop} {sf : List Addr} (hp : plainFor y = true)
    (H : ∀ (p : Program) (e : Env) (s : State) (m : MethodId) (below : List Frame) (meth : Method) (c : Code) (s₁ : State), meth.sig.returnType = ret → p.tables.exec = Jvm.exec → c.code = bytes → c.maxLocals = maxL → s.vm.findClass y.cls = some m.cls → meth.name = y.name → meth.locks = false → Z.Warmed39 s.vm → Stand p l e rm (s.setVm s.vm) m as' below meth c s₁ [] 0 0 → s₁.heap = h → s.heap = h → CHv Z EL s.vm h → (∀ x ∈ sf, Safe Z EL s.vm h x) → s.Since s.vm h.size → CHr Z EL s.vm h s.vm h → Runs p e below (EndH s Z EL Q rm.cells rm.slots) (s₁.setTop (entryFrame m as' maxL))) :
    MetH l Z EL y bytes maxL ret ws rm as' h Q sf := by
  refine MetFree.of_bodySF hp hisR ?_
  intro p e s m args below meth c s₁ Bd hml hP hK
  obtain ⟨rfl, hZ, hh, hH, hsf⟩ := hP
  exact H p e s m below meth c s₁ Bd.returns Bd.exec Bd.bytes hml (findClass_of_methodNamed Bd.named) (name_of_methodNamed Bd.named Bd.method).1 Bd.notSynchronized hZ (Stand.of_body Bd) (by rw [← hh, Bd.state]; rfl) hh hH hsf ((State.WarmedH.refl s).since _) (CHr.refl hH)
end Jvm.RoadKit
namespace Jvm.Pilot.@@N@@
open Jvm Jvm.ClassFile Sem Op Lib Jvm.Free Jvm.Stand Jvm.LawKit Jvm.RoadKit Bundle Jvm.Pilot.@@N@@.Jvm.D
set_option maxRecDepth 65536
set_option maxHeartbeats 40000000
abbrev kc0 : String := "java/lang/String"
abbrev kc1 : String := "java/lang/StringUTF16"
abbrev kc2 : String := "jdk/internal/util/Preconditions"
abbrev EL : List (String × Nat) := [("java/lang/String", 7)]
theorem own_and255 (x : Int32) : ¬ ((x &&& (255 : Int32)).toUInt32.toUInt16.toUInt32.toInt32) < 0 ∧ ¬ (255 : Int32) < ((x &&& (255 : Int32)).toUInt32.toUInt16.toUInt32.toInt32) := by
  have t : ∀ k : Fin 256, ¬ ((Int32.ofNat k.val).toUInt32.toUInt16.toUInt32.toInt32) < 0 ∧ ¬ (255 : Int32) < ((Int32.ofNat k.val).toUInt32.toUInt16.toUInt32.toInt32) := by decide +kernel
  have h : (x &&& 255).toBitVec.toNat < 256 := by
    rw [Int32.toBitVec_and, BitVec.toNat_and]
    exact Nat.lt_succ_of_le Nat.and_le_right
  have e : (x &&& 255) = Int32.ofNat (x &&& 255).toBitVec.toNat := by
    apply Int32.toBitVec_inj.mp
    show _ = BitVec.ofNat 32 _
    rw [BitVec.ofNat_toNat]; simp
  rw [e]
  exact t ⟨_, h⟩
theorem own_lat (x : Int32) : (((((x &&& (255 : Int32)).toUInt32.toUInt16.toUInt32.toInt32).toInt8.toInt32) &&& (255 : Int32)).toUInt32.toUInt16.toUInt32.toInt32) = ((x &&& (255 : Int32)).toUInt32.toUInt16.toUInt32.toInt32) := by
  have t : ∀ k : Fin 256, (((((Int32.ofNat k.val).toUInt32.toUInt16.toUInt32.toInt32).toInt8.toInt32) &&& (255 : Int32)).toUInt32.toUInt16.toUInt32.toInt32) = ((Int32.ofNat k.val).toUInt32.toUInt16.toUInt32.toInt32) := by decide +kernel
  have h : (x &&& 255).toBitVec.toNat < 256 := by
    rw [Int32.toBitVec_and, BitVec.toNat_and]
    exact Nat.lt_succ_of_le Nat.and_le_right
  have e : (x &&& 255) = Int32.ofNat (x &&& 255).toBitVec.toNat := by
    apply Int32.toBitVec_inj.mp
    show _ = BitVec.ofNat 32 _
    rw [BitVec.ofNat_toNat]; simp
  rw [e]
  exact t ⟨_, h⟩
theorem own_ch0 (x : Int32) : ¬ (x.toUInt32.toUInt16.toUInt32.toInt32) < 0 := by
  have q := (c_i2c x).2.1
  rw [Int32.lt_iff_toInt_lt]
  have e0 : (0 : Int32).toInt = 0 := rfl
  omega
theorem own_le127 {x : Int32} (h : ¬ (127 : Int32) < x) : x < (128 : Int32) := by
  rw [Int32.lt_iff_toInt_lt] at h ⊢
  have e1 : (127 : Int32).toInt = 127 := rfl
  have e2 : (128 : Int32).toInt = 128 := rfl
  omega
theorem own_charI {c : Int32} (h : nar .char c = c) : 0 ≤ c.toInt ∧ c.toInt < 65536 := by
  have q := c_i2c c
  rw [show c.toUInt32.toUInt16.toUInt32.toInt32 = c from h] at q
  exact ⟨q.2.1, q.2.2⟩
theorem own_char0 {c : Int32} (h : nar .char c = c) : ¬ c < 0 := by
  have q := own_charI h
  rw [Int32.lt_iff_toInt_lt]
  have e0 : (0 : Int32).toInt = 0 := rfl
  omega
theorem own_low {c k : Int32} (h : nar .char c = c) (h2 : ¬ (255 : Int32) < c) (k0 : ¬ k < 0) (k1 : ¬ (127 : Int32) < k) (q : c.toInt8.toInt32 = k) : c = k := by
  have q1 := own_charI h
  have q2 := c_i2b c
  rw [q] at q2
  rw [Int32.lt_iff_toInt_lt] at h2 k0 k1
  have e0 : (0 : Int32).toInt = 0 := rfl
  have e1 : (255 : Int32).toInt = 255 := rfl
  have e2 : (127 : Int32).toInt = 127 := rfl
  exact Int32.toInt_inj.mp (by omega)
theorem own_utf {c : Int32} (h : nar .char c = c) : ((((((c >>> ((0 : Int32) &&& 31)).toInt8.toInt32) &&& (255 : Int32)) <<< ((0 : Int32) &&& 31)) ||| ((((c >>> ((8 : Int32) &&& 31)).toInt8.toInt32) &&& (255 : Int32)) <<< ((8 : Int32) &&& 31))).toUInt32.toUInt16.toUInt32.toInt32) = c := by
  have q1 := own_charI h
  have a1 := c_ishr c 0 0 (by decide)
  have a2 := c_i2b (c >>> ((0 : Int32) &&& 31))
  have a3 := c_mask ((c >>> ((0 : Int32) &&& 31)).toInt8.toInt32) 255 8 (by decide) (by decide)
  have a4 := c_ishl (((c >>> ((0 : Int32) &&& 31)).toInt8.toInt32) &&& 255) 0 0 (by decide)
  have b1 := c_ishr c 8 8 (by decide)
  have b2 := c_i2b (c >>> ((8 : Int32) &&& 31))
  have b3 := c_mask ((c >>> ((8 : Int32) &&& 31)).toInt8.toInt32) 255 8 (by decide) (by decide)
  have b4 := c_ishl (((c >>> ((8 : Int32) &&& 31)).toInt8.toInt32) &&& 255) 8 8 (by decide)
  have p0 : ((2 ^ 0 : Nat) : Int) = 1 := rfl
  have p8 : ((2 ^ 8 : Nat) : Int) = 256 := rfl
  rw [p0] at a1 a4
  rw [p8] at a3 b1 b3 b4
  obtain ⟨A, hA⟩ : ∃ A, A = (((c >>> ((0 : Int32) &&& 31)).toInt8.toInt32) &&& (255 : Int32)) := ⟨_, rfl⟩
  obtain ⟨B, hB⟩ : ∃ B, B = (((c >>> ((8 : Int32) &&& 31)).toInt8.toInt32) &&& (255 : Int32)) := ⟨_, rfl⟩
  rw [← hA] at a3 a4 ⊢
  rw [← hB] at b3 b4 ⊢
  obtain ⟨A2, hA2⟩ : ∃ A2, A2 = (A <<< ((0 : Int32) &&& 31)) := ⟨_, rfl⟩
  obtain ⟨B2, hB2⟩ : ∃ B2, B2 = (B <<< ((8 : Int32) &&& 31)) := ⟨_, rfl⟩
  rw [← hA2] at a4 ⊢
  rw [← hB2] at b4 ⊢
  have r1 := rng32 A2
  have r2 := rng32 B2
  have r3 := rng32 (A2 ||| B2)
  have cc := c_or' A2 B2 8 (by decide) 256 (by decide)
  have d1 := c_i2c (A2 ||| B2)
  have s1 : A2.toInt = c.toInt % 256 := by omega
  have s2 : B2.toInt = (c.toInt / 256) % 256 * 256 := by omega
  have s3 := cc (by omega) (by omega) (by omega)
  exact Int32.toInt_inj.mp (by omega)
theorem own_utf_t {c : Int32} (h : nar .char c = c) (q : (255 : Int32) < c) : (255 : Int32) < ((((((c >>> ((0 : Int32) &&& 31)).toInt8.toInt32) &&& (255 : Int32)) <<< ((0 : Int32) &&& 31)) ||| ((((c >>> ((8 : Int32) &&& 31)).toInt8.toInt32) &&& (255 : Int32)) <<< ((8 : Int32) &&& 31))).toUInt32.toUInt16.toUInt32.toInt32) := by rw [own_utf h]; exact q
theorem own_utf_f {c : Int32} (h : nar .char c = c) (q : ¬ (255 : Int32) < c) : ¬ (255 : Int32) < ((((((c >>> ((0 : Int32) &&& 31)).toInt8.toInt32) &&& (255 : Int32)) <<< ((0 : Int32) &&& 31)) ||| ((((c >>> ((8 : Int32) &&& 31)).toInt8.toInt32) &&& (255 : Int32)) <<< ((8 : Int32) &&& 31))).toUInt32.toUInt16.toUInt32.toInt32) := by rw [own_utf h]; exact q
theorem own_latx {c : Int32} (h : nar .char c = c) (q : ¬ (255 : Int32) < c) : (((c.toInt8.toInt32) &&& (255 : Int32)).toUInt32.toUInt16.toUInt32.toInt32) = c := by
  have h1 := own_charI h
  have a1 := c_i2b c
  have a2 := c_mask (c.toInt8.toInt32) 255 8 (by decide) (by decide)
  have a3 := c_i2c ((c.toInt8.toInt32) &&& (255 : Int32))
  rw [Int32.lt_iff_toInt_lt] at q
  have e1 : (255 : Int32).toInt = 255 := rfl
  have p8 : ((2 ^ 8 : Nat) : Int) = 256 := rfl
  exact Int32.toInt_inj.mp (by omega)
def gI (l : List Int32) (j : Int32) : Int32 := l.getD j.toNatClampNeg 0
def mI (l : List Int32) : List Value := l.map Value.int
def lowL (l : List Int32) : List Int32 := l.map fun c => (c.toInt8.toInt32)
def utfL : List Int32 → List Int32
  | [] => []
  | c :: l => ((c >>> ((0 : Int32) &&& 31)).toInt8.toInt32) :: ((c >>> ((8 : Int32) &&& 31)).toInt8.toInt32) :: utfL l
def cl4 (n a b c d : Int32) : List Int32 := if n = 0 then [] else if n = 1 then [a] else if n = 2 then [a, b] else if n = 3 then [a, b, c] else [a, b, c, d]
theorem own_gI (l : List Int32) (j : Int32) : (mI l).getD j.toNatClampNeg (.int 0) = .int (gI l j) := by
  unfold gI mI
  generalize j.toNatClampNeg = i
  induction l generalizing i with
  | nil => rfl
  | cons a l ih => cases i with
    | zero => rfl
    | succ i => exact ih i
theorem own_cl4_0 {a b c d : Int32} : cl4 0 a b c d = [] := rfl
theorem own_cl4_1 {a b c d : Int32} : cl4 1 a b c d = [a] := rfl
theorem own_cl4_2 {a b c d : Int32} : cl4 2 a b c d = [a, b] := rfl
theorem own_cl4_3 {a b c d : Int32} : cl4 3 a b c d = [a, b, c] := rfl
theorem own_cl4_4 {a b c d : Int32} : cl4 4 a b c d = [a, b, c, d] := rfl
theorem own_is4 {n : Int32} (h5 : n < 5) (hz : ¬ n < 0) (h0 : ¬ n = 0) (h1 : ¬ n = 1) (h2 : ¬ n = 2) (h3 : ¬ n = 3) : n = 4 := by
  rw [Int32.lt_iff_toInt_lt] at h5 hz
  rw [← Int32.toInt_inj] at h0 h1 h2 h3 ⊢
  have e0 : (0 : Int32).toInt = 0 := rfl
  have e1 : (1 : Int32).toInt = 1 := rfl
  have e2 : (2 : Int32).toInt = 2 := rfl
  have e3 : (3 : Int32).toInt = 3 := rfl
  have e4 : (4 : Int32).toInt = 4 := rfl
  have e5 : (5 : Int32).toInt = 5 := rfl
  omega
theorem own_5 {n : Int32} (h5 : n < 5) (hz : ¬ n < 0) : n = 0 ∨ n = 1 ∨ n = 2 ∨ n = 3 ∨ n = 4 := by
  by_cases h0 : n = 0
  · exact Or.inl h0
  by_cases h1 : n = 1
  · exact Or.inr (Or.inl h1)
  by_cases h2 : n = 2
  · exact Or.inr (Or.inr (Or.inl h2))
  by_cases h3 : n = 3
  · exact Or.inr (Or.inr (Or.inr (Or.inl h3)))
  exact Or.inr (Or.inr (Or.inr (Or.inr (own_is4 h5 hz h0 h1 h2 h3))))
theorem own_shr0 (x : Int32) : x >>> ((0 : Int32) &&& 31) = x := by
  have a1 := c_ishr x 0 0 (by decide)
  exact Int32.toInt_inj.mp (by have e : ((2 ^ 0 : Nat) : Int) = 1 := rfl; omega)
theorem own_shlr {n : Int32} (h5 : n < 5) (hz : ¬ n < 0) : (n <<< ((1 : Int32) &&& 31)) >>> ((1 : Int32) &&& 31) = n := by
  rcases own_5 h5 hz with rfl | rfl | rfl | rfl | rfl <;> decide
theorem own_p4 {p n : Int32} (h5 : n < 5) (pz : ¬ p < 0) (hp : p < n) : p = 0 ∨ p = 1 ∨ p = 2 ∨ p = 3 := by
  rw [Int32.lt_iff_toInt_lt] at h5 pz hp
  simp only [← Int32.toInt_inj]
  have e0 : (0 : Int32).toInt = 0 := rfl
  have e1 : (1 : Int32).toInt = 1 := rfl
  have e2 : (2 : Int32).toInt = 2 := rfl
  have e3 : (3 : Int32).toInt = 3 := rfl
  have e5 : (5 : Int32).toInt = 5 := rfl
  omega
theorem own_shl_in {p n : Int32} (h5 : n < 5) (hz : ¬ n < 0) (pz : ¬ p < 0) (hp : p < n) : (¬ (p <<< ((1 : Int32) &&& 31)) < 0 ∧ (p <<< ((1 : Int32) &&& 31)) < (n <<< ((1 : Int32) &&& 31))) ∧ (¬ ((p <<< ((1 : Int32) &&& 31)) + 1) < 0 ∧ ((p <<< ((1 : Int32) &&& 31)) + 1) < (n <<< ((1 : Int32) &&& 31))) := by
  rcases own_5 h5 hz with rfl | rfl | rfl | rfl | rfl <;> rcases own_p4 h5 pz hp with rfl | rfl | rfl | rfl <;> revert hp <;> decide
theorem own_gIl {l : List Int32} {j : Int32} (i : Nat) (h : j.toNatClampNeg = i) : gI l j = l.getD i 0 := by
  unfold gI
  rw [h]
theorem own_latG {p n a b c d : Int32} (h5 : n < 5) (hz : ¬ n < 0) (pz : ¬ p < 0) (hp : p < n) (ha : nar .char a = a) (hb : nar .char b = b) (hc : nar .char c = c) (hd : nar .char d = d) (h : ∀ x ∈ cl4 n a b c d, ¬ (255 : Int32) < x) :
    (((gI (lowL (cl4 n a b c d)) p) &&& (255 : Int32)).toUInt32.toUInt16.toUInt32.toInt32) = gI [a, b, c, d] p := by
  rcases own_5 h5 hz with rfl | rfl | rfl | rfl | rfl
  · exact absurd hp pz
  · simp only [own_cl4_1, List.forall_mem_cons] at h ⊢
    rcases own_p4 h5 pz hp with rfl | rfl | rfl | rfl
    · rw [own_gIl (l := lowL [a]) (j := 0) 0 (by decide), own_gIl (l := [a, b, c, d]) (j := 0) 0 (by decide)]
      exact own_latx ha h.1
    · exact absurd hp (by decide)
    · exact absurd hp (by decide)
    · exact absurd hp (by decide)
  · simp only [own_cl4_2, List.forall_mem_cons] at h ⊢
    rcases own_p4 h5 pz hp with rfl | rfl | rfl | rfl
    · rw [own_gIl (l := lowL [a, b]) (j := 0) 0 (by decide), own_gIl (l := [a, b, c, d]) (j := 0) 0 (by decide)]
      exact own_latx ha h.1
    · rw [own_gIl (l := lowL [a, b]) (j := 1) 1 (by decide), own_gIl (l := [a, b, c, d]) (j := 1) 1 (by decide)]
      exact own_latx hb h.2.1
    · exact absurd hp (by decide)
    · exact absurd hp (by decide)
  · simp only [own_cl4_3, List.forall_mem_cons] at h ⊢
    rcases own_p4 h5 pz hp with rfl | rfl | rfl | rfl
    · rw [own_gIl (l := lowL [a, b, c]) (j := 0) 0 (by decide), own_gIl (l := [a, b, c, d]) (j := 0) 0 (by decide)]
      exact own_latx ha h.1
    · rw [own_gIl (l := lowL [a, b, c]) (j := 1) 1 (by decide), own_gIl (l := [a, b, c, d]) (j := 1) 1 (by decide)]
      exact own_latx hb h.2.1
    · rw [own_gIl (l := lowL [a, b, c]) (j := 2) 2 (by decide), own_gIl (l := [a, b, c, d]) (j := 2) 2 (by decide)]
      exact own_latx hc h.2.2.1
    · exact absurd hp (by decide)
  · simp only [own_cl4_4, List.forall_mem_cons] at h ⊢
    rcases own_p4 h5 pz hp with rfl | rfl | rfl | rfl
    · rw [own_gIl (l := lowL [a, b, c, d]) (j := 0) 0 (by decide), own_gIl (l := [a, b, c, d]) (j := 0) 0 (by decide)]
      exact own_latx ha h.1
    · rw [own_gIl (l := lowL [a, b, c, d]) (j := 1) 1 (by decide), own_gIl (l := [a, b, c, d]) (j := 1) 1 (by decide)]
      exact own_latx hb h.2.1
    · rw [own_gIl (l := lowL [a, b, c, d]) (j := 2) 2 (by decide), own_gIl (l := [a, b, c, d]) (j := 2) 2 (by decide)]
      exact own_latx hc h.2.2.1
    · rw [own_gIl (l := lowL [a, b, c, d]) (j := 3) 3 (by decide), own_gIl (l := [a, b, c, d]) (j := 3) 3 (by decide)]
      exact own_latx hd h.2.2.2.1
theorem own_utfG {p n a b c d : Int32} (h5 : n < 5) (hz : ¬ n < 0) (pz : ¬ p < 0) (hp : p < n) (ha : nar .char a = a) (hb : nar .char b = b) (hc : nar .char c = c) (hd : nar .char d = d) :
    (((((gI (utfL (cl4 n a b c d)) (p <<< ((1 : Int32) &&& 31))) &&& (255 : Int32)) <<< ((0 : Int32) &&& 31)) ||| (((gI (utfL (cl4 n a b c d)) ((p <<< ((1 : Int32) &&& 31)) + (1 : Int32))) &&& (255 : Int32)) <<< ((8 : Int32) &&& 31))).toUInt32.toUInt16.toUInt32.toInt32) = gI [a, b, c, d] p := by
  rcases own_5 h5 hz with rfl | rfl | rfl | rfl | rfl
  · exact absurd hp pz
  · simp only [own_cl4_1]
    rcases own_p4 h5 pz hp with rfl | rfl | rfl | rfl
    · rw [own_gIl (l := utfL [a]) (j := (0 : Int32) <<< ((1 : Int32) &&& 31)) 0 (by decide), own_gIl (l := utfL [a]) (j := ((0 : Int32) <<< ((1 : Int32) &&& 31)) + (1 : Int32)) 1 (by decide), own_gIl (l := [a, b, c, d]) (j := 0) 0 (by decide)]
      exact own_utf ha
    · exact absurd hp (by decide)
    · exact absurd hp (by decide)
    · exact absurd hp (by decide)
  · simp only [own_cl4_2]
    rcases own_p4 h5 pz hp with rfl | rfl | rfl | rfl
    · rw [own_gIl (l := utfL [a, b]) (j := (0 : Int32) <<< ((1 : Int32) &&& 31)) 0 (by decide), own_gIl (l := utfL [a, b]) (j := ((0 : Int32) <<< ((1 : Int32) &&& 31)) + (1 : Int32)) 1 (by decide), own_gIl (l := [a, b, c, d]) (j := 0) 0 (by decide)]
      exact own_utf ha
    · rw [own_gIl (l := utfL [a, b]) (j := (1 : Int32) <<< ((1 : Int32) &&& 31)) 2 (by decide), own_gIl (l := utfL [a, b]) (j := ((1 : Int32) <<< ((1 : Int32) &&& 31)) + (1 : Int32)) 3 (by decide), own_gIl (l := [a, b, c, d]) (j := 1) 1 (by decide)]
      exact own_utf hb
    · exact absurd hp (by decide)
    · exact absurd hp (by decide)
  · simp only [own_cl4_3]
    rcases own_p4 h5 pz hp with rfl | rfl | rfl | rfl
    · rw [own_gIl (l := utfL [a, b, c]) (j := (0 : Int32) <<< ((1 : Int32) &&& 31)) 0 (by decide), own_gIl (l := utfL [a, b, c]) (j := ((0 : Int32) <<< ((1 : Int32) &&& 31)) + (1 : Int32)) 1 (by decide), own_gIl (l := [a, b, c, d]) (j := 0) 0 (by decide)]
      exact own_utf ha
    · rw [own_gIl (l := utfL [a, b, c]) (j := (1 : Int32) <<< ((1 : Int32) &&& 31)) 2 (by decide), own_gIl (l := utfL [a, b, c]) (j := ((1 : Int32) <<< ((1 : Int32) &&& 31)) + (1 : Int32)) 3 (by decide), own_gIl (l := [a, b, c, d]) (j := 1) 1 (by decide)]
      exact own_utf hb
    · rw [own_gIl (l := utfL [a, b, c]) (j := (2 : Int32) <<< ((1 : Int32) &&& 31)) 4 (by decide), own_gIl (l := utfL [a, b, c]) (j := ((2 : Int32) <<< ((1 : Int32) &&& 31)) + (1 : Int32)) 5 (by decide), own_gIl (l := [a, b, c, d]) (j := 2) 2 (by decide)]
      exact own_utf hc
    · exact absurd hp (by decide)
  · simp only [own_cl4_4]
    rcases own_p4 h5 pz hp with rfl | rfl | rfl | rfl
    · rw [own_gIl (l := utfL [a, b, c, d]) (j := (0 : Int32) <<< ((1 : Int32) &&& 31)) 0 (by decide), own_gIl (l := utfL [a, b, c, d]) (j := ((0 : Int32) <<< ((1 : Int32) &&& 31)) + (1 : Int32)) 1 (by decide), own_gIl (l := [a, b, c, d]) (j := 0) 0 (by decide)]
      exact own_utf ha
    · rw [own_gIl (l := utfL [a, b, c, d]) (j := (1 : Int32) <<< ((1 : Int32) &&& 31)) 2 (by decide), own_gIl (l := utfL [a, b, c, d]) (j := ((1 : Int32) <<< ((1 : Int32) &&& 31)) + (1 : Int32)) 3 (by decide), own_gIl (l := [a, b, c, d]) (j := 1) 1 (by decide)]
      exact own_utf hb
    · rw [own_gIl (l := utfL [a, b, c, d]) (j := (2 : Int32) <<< ((1 : Int32) &&& 31)) 4 (by decide), own_gIl (l := utfL [a, b, c, d]) (j := ((2 : Int32) <<< ((1 : Int32) &&& 31)) + (1 : Int32)) 5 (by decide), own_gIl (l := [a, b, c, d]) (j := 2) 2 (by decide)]
      exact own_utf hc
    · rw [own_gIl (l := utfL [a, b, c, d]) (j := (3 : Int32) <<< ((1 : Int32) &&& 31)) 6 (by decide), own_gIl (l := utfL [a, b, c, d]) (j := ((3 : Int32) <<< ((1 : Int32) &&& 31)) + (1 : Int32)) 7 (by decide), own_gIl (l := [a, b, c, d]) (j := 3) 3 (by decide)]
      exact own_utf hd
theorem own_uj1 {j a : Int32} (pz : ¬ j < 0) (hp : j < 1) (ha : nar .char a = a) : (((((gI [((a >>> ((0 : Int32) &&& 31)).toInt8.toInt32), ((a >>> ((8 : Int32) &&& 31)).toInt8.toInt32)] (j <<< ((1 : Int32) &&& 31))) &&& (255 : Int32)) <<< ((0 : Int32) &&& 31)) ||| (((gI [((a >>> ((0 : Int32) &&& 31)).toInt8.toInt32), ((a >>> ((8 : Int32) &&& 31)).toInt8.toInt32)] ((j <<< ((1 : Int32) &&& 31)) + (1 : Int32))) &&& (255 : Int32)) <<< ((8 : Int32) &&& 31))).toUInt32.toUInt16.toUInt32.toInt32) = gI [a, (0 : Int32), (0 : Int32), (0 : Int32)] j := by
  rcases own_p4 (n := 1) (by decide) pz hp with rfl | rfl | rfl | rfl
  · rw [own_gIl (l := [((a >>> ((0 : Int32) &&& 31)).toInt8.toInt32), ((a >>> ((8 : Int32) &&& 31)).toInt8.toInt32)]) (j := (0 : Int32) <<< ((1 : Int32) &&& 31)) 0 (by decide), own_gIl (l := [((a >>> ((0 : Int32) &&& 31)).toInt8.toInt32), ((a >>> ((8 : Int32) &&& 31)).toInt8.toInt32)]) (j := ((0 : Int32) <<< ((1 : Int32) &&& 31)) + (1 : Int32)) 1 (by decide), own_gIl (l := [a, (0 : Int32), (0 : Int32), (0 : Int32)]) (j := 0) 0 (by decide)]
    exact own_utf ha
  · exact absurd hp (by decide)
  · exact absurd hp (by decide)
  · exact absurd hp (by decide)
theorem own_or1 {j a : Int32} (pz : ¬ j < 0) (hp : j < 1) (h : (255 : Int32) < (gI [a, (0 : Int32), (0 : Int32), (0 : Int32)] j)) : (255 : Int32) < a := by
  rcases own_p4 (n := 1) (by decide) pz hp with rfl | rfl | rfl | rfl <;> first | exact absurd hp (by decide) | exact h
theorem own_uj2 {j a b : Int32} (pz : ¬ j < 0) (hp : j < 2) (ha : nar .char a = a) (hb : nar .char b = b) : (((((gI [((a >>> ((0 : Int32) &&& 31)).toInt8.toInt32), ((a >>> ((8 : Int32) &&& 31)).toInt8.toInt32), ((b >>> ((0 : Int32) &&& 31)).toInt8.toInt32), ((b >>> ((8 : Int32) &&& 31)).toInt8.toInt32)] (j <<< ((1 : Int32) &&& 31))) &&& (255 : Int32)) <<< ((0 : Int32) &&& 31)) ||| (((gI [((a >>> ((0 : Int32) &&& 31)).toInt8.toInt32), ((a >>> ((8 : Int32) &&& 31)).toInt8.toInt32), ((b >>> ((0 : Int32) &&& 31)).toInt8.toInt32), ((b >>> ((8 : Int32) &&& 31)).toInt8.toInt32)] ((j <<< ((1 : Int32) &&& 31)) + (1 : Int32))) &&& (255 : Int32)) <<< ((8 : Int32) &&& 31))).toUInt32.toUInt16.toUInt32.toInt32) = gI [a, b, (0 : Int32), (0 : Int32)] j := by
  rcases own_p4 (n := 2) (by decide) pz hp with rfl | rfl | rfl | rfl
  · rw [own_gIl (l := [((a >>> ((0 : Int32) &&& 31)).toInt8.toInt32), ((a >>> ((8 : Int32) &&& 31)).toInt8.toInt32), ((b >>> ((0 : Int32) &&& 31)).toInt8.toInt32), ((b >>> ((8 : Int32) &&& 31)).toInt8.toInt32)]) (j := (0 : Int32) <<< ((1 : Int32) &&& 31)) 0 (by decide), own_gIl (l := [((a >>> ((0 : Int32) &&& 31)).toInt8.toInt32), ((a >>> ((8 : Int32) &&& 31)).toInt8.toInt32), ((b >>> ((0 : Int32) &&& 31)).toInt8.toInt32), ((b >>> ((8 : Int32) &&& 31)).toInt8.toInt32)]) (j := ((0 : Int32) <<< ((1 : Int32) &&& 31)) + (1 : Int32)) 1 (by decide), own_gIl (l := [a, b, (0 : Int32), (0 : Int32)]) (j := 0) 0 (by decide)]
    exact own_utf ha
  · rw [own_gIl (l := [((a >>> ((0 : Int32) &&& 31)).toInt8.toInt32), ((a >>> ((8 : Int32) &&& 31)).toInt8.toInt32), ((b >>> ((0 : Int32) &&& 31)).toInt8.toInt32), ((b >>> ((8 : Int32) &&& 31)).toInt8.toInt32)]) (j := (1 : Int32) <<< ((1 : Int32) &&& 31)) 2 (by decide), own_gIl (l := [((a >>> ((0 : Int32) &&& 31)).toInt8.toInt32), ((a >>> ((8 : Int32) &&& 31)).toInt8.toInt32), ((b >>> ((0 : Int32) &&& 31)).toInt8.toInt32), ((b >>> ((8 : Int32) &&& 31)).toInt8.toInt32)]) (j := ((1 : Int32) <<< ((1 : Int32) &&& 31)) + (1 : Int32)) 3 (by decide), own_gIl (l := [a, b, (0 : Int32), (0 : Int32)]) (j := 1) 1 (by decide)]
    exact own_utf hb
  · exact absurd hp (by decide)
  · exact absurd hp (by decide)
theorem own_or2 {j a b : Int32} (pz : ¬ j < 0) (hp : j < 2) (h : (255 : Int32) < (gI [a, b, (0 : Int32), (0 : Int32)] j)) : (255 : Int32) < a ∨ (255 : Int32) < b := by
  rcases own_p4 (n := 2) (by decide) pz hp with rfl | rfl | rfl | rfl <;> first | exact absurd hp (by decide) | exact Or.inl h | exact Or.inr (h)
theorem own_uj3 {j a b c : Int32} (pz : ¬ j < 0) (hp : j < 3) (ha : nar .char a = a) (hb : nar .char b = b) (hc : nar .char c = c) : (((((gI [((a >>> ((0 : Int32) &&& 31)).toInt8.toInt32), ((a >>> ((8 : Int32) &&& 31)).toInt8.toInt32), ((b >>> ((0 : Int32) &&& 31)).toInt8.toInt32), ((b >>> ((8 : Int32) &&& 31)).toInt8.toInt32), ((c >>> ((0 : Int32) &&& 31)).toInt8.toInt32), ((c >>> ((8 : Int32) &&& 31)).toInt8.toInt32)] (j <<< ((1 : Int32) &&& 31))) &&& (255 : Int32)) <<< ((0 : Int32) &&& 31)) ||| (((gI [((a >>> ((0 : Int32) &&& 31)).toInt8.toInt32), ((a >>> ((8 : Int32) &&& 31)).toInt8.toInt32), ((b >>> ((0 : Int32) &&& 31)).toInt8.toInt32), ((b >>> ((8 : Int32) &&& 31)).toInt8.toInt32), ((c >>> ((0 : Int32) &&& 31)).toInt8.toInt32), ((c >>> ((8 : Int32) &&& 31)).toInt8.toInt32)] ((j <<< ((1 : Int32) &&& 31)) + (1 : Int32))) &&& (255 : Int32)) <<< ((8 : Int32) &&& 31))).toUInt32.toUInt16.toUInt32.toInt32) = gI [a, b, c, (0 : Int32)] j := by
  rcases own_p4 (n := 3) (by decide) pz hp with rfl | rfl | rfl | rfl
  · rw [own_gIl (l := [((a >>> ((0 : Int32) &&& 31)).toInt8.toInt32), ((a >>> ((8 : Int32) &&& 31)).toInt8.toInt32), ((b >>> ((0 : Int32) &&& 31)).toInt8.toInt32), ((b >>> ((8 : Int32) &&& 31)).toInt8.toInt32), ((c >>> ((0 : Int32) &&& 31)).toInt8.toInt32), ((c >>> ((8 : Int32) &&& 31)).toInt8.toInt32)]) (j := (0 : Int32) <<< ((1 : Int32) &&& 31)) 0 (by decide), own_gIl (l := [((a >>> ((0 : Int32) &&& 31)).toInt8.toInt32), ((a >>> ((8 : Int32) &&& 31)).toInt8.toInt32), ((b >>> ((0 : Int32) &&& 31)).toInt8.toInt32), ((b >>> ((8 : Int32) &&& 31)).toInt8.toInt32), ((c >>> ((0 : Int32) &&& 31)).toInt8.toInt32), ((c >>> ((8 : Int32) &&& 31)).toInt8.toInt32)]) (j := ((0 : Int32) <<< ((1 : Int32) &&& 31)) + (1 : Int32)) 1 (by decide), own_gIl (l := [a, b, c, (0 : Int32)]) (j := 0) 0 (by decide)]
    exact own_utf ha
  · rw [own_gIl (l := [((a >>> ((0 : Int32) &&& 31)).toInt8.toInt32), ((a >>> ((8 : Int32) &&& 31)).toInt8.toInt32), ((b >>> ((0 : Int32) &&& 31)).toInt8.toInt32), ((b >>> ((8 : Int32) &&& 31)).toInt8.toInt32), ((c >>> ((0 : Int32) &&& 31)).toInt8.toInt32), ((c >>> ((8 : Int32) &&& 31)).toInt8.toInt32)]) (j := (1 : Int32) <<< ((1 : Int32) &&& 31)) 2 (by decide), own_gIl (l := [((a >>> ((0 : Int32) &&& 31)).toInt8.toInt32), ((a >>> ((8 : Int32) &&& 31)).toInt8.toInt32), ((b >>> ((0 : Int32) &&& 31)).toInt8.toInt32), ((b >>> ((8 : Int32) &&& 31)).toInt8.toInt32), ((c >>> ((0 : Int32) &&& 31)).toInt8.toInt32), ((c >>> ((8 : Int32) &&& 31)).toInt8.toInt32)]) (j := ((1 : Int32) <<< ((1 : Int32) &&& 31)) + (1 : Int32)) 3 (by decide), own_gIl (l := [a, b, c, (0 : Int32)]) (j := 1) 1 (by decide)]
    exact own_utf hb
  · rw [own_gIl (l := [((a >>> ((0 : Int32) &&& 31)).toInt8.toInt32), ((a >>> ((8 : Int32) &&& 31)).toInt8.toInt32), ((b >>> ((0 : Int32) &&& 31)).toInt8.toInt32), ((b >>> ((8 : Int32) &&& 31)).toInt8.toInt32), ((c >>> ((0 : Int32) &&& 31)).toInt8.toInt32), ((c >>> ((8 : Int32) &&& 31)).toInt8.toInt32)]) (j := (2 : Int32) <<< ((1 : Int32) &&& 31)) 4 (by decide), own_gIl (l := [((a >>> ((0 : Int32) &&& 31)).toInt8.toInt32), ((a >>> ((8 : Int32) &&& 31)).toInt8.toInt32), ((b >>> ((0 : Int32) &&& 31)).toInt8.toInt32), ((b >>> ((8 : Int32) &&& 31)).toInt8.toInt32), ((c >>> ((0 : Int32) &&& 31)).toInt8.toInt32), ((c >>> ((8 : Int32) &&& 31)).toInt8.toInt32)]) (j := ((2 : Int32) <<< ((1 : Int32) &&& 31)) + (1 : Int32)) 5 (by decide), own_gIl (l := [a, b, c, (0 : Int32)]) (j := 2) 2 (by decide)]
    exact own_utf hc
  · exact absurd hp (by decide)
theorem own_or3 {j a b c : Int32} (pz : ¬ j < 0) (hp : j < 3) (h : (255 : Int32) < (gI [a, b, c, (0 : Int32)] j)) : (255 : Int32) < a ∨ (255 : Int32) < b ∨ (255 : Int32) < c := by
  rcases own_p4 (n := 3) (by decide) pz hp with rfl | rfl | rfl | rfl <;> first | exact absurd hp (by decide) | exact Or.inl h | exact Or.inr (Or.inl h) | exact Or.inr (Or.inr (h))
theorem own_uj4 {j a b c d : Int32} (pz : ¬ j < 0) (hp : j < 4) (ha : nar .char a = a) (hb : nar .char b = b) (hc : nar .char c = c) (hd : nar .char d = d) : (((((gI [((a >>> ((0 : Int32) &&& 31)).toInt8.toInt32), ((a >>> ((8 : Int32) &&& 31)).toInt8.toInt32), ((b >>> ((0 : Int32) &&& 31)).toInt8.toInt32), ((b >>> ((8 : Int32) &&& 31)).toInt8.toInt32), ((c >>> ((0 : Int32) &&& 31)).toInt8.toInt32), ((c >>> ((8 : Int32) &&& 31)).toInt8.toInt32), ((d >>> ((0 : Int32) &&& 31)).toInt8.toInt32), ((d >>> ((8 : Int32) &&& 31)).toInt8.toInt32)] (j <<< ((1 : Int32) &&& 31))) &&& (255 : Int32)) <<< ((0 : Int32) &&& 31)) ||| (((gI [((a >>> ((0 : Int32) &&& 31)).toInt8.toInt32), ((a >>> ((8 : Int32) &&& 31)).toInt8.toInt32), ((b >>> ((0 : Int32) &&& 31)).toInt8.toInt32), ((b >>> ((8 : Int32) &&& 31)).toInt8.toInt32), ((c >>> ((0 : Int32) &&& 31)).toInt8.toInt32), ((c >>> ((8 : Int32) &&& 31)).toInt8.toInt32), ((d >>> ((0 : Int32) &&& 31)).toInt8.toInt32), ((d >>> ((8 : Int32) &&& 31)).toInt8.toInt32)] ((j <<< ((1 : Int32) &&& 31)) + (1 : Int32))) &&& (255 : Int32)) <<< ((8 : Int32) &&& 31))).toUInt32.toUInt16.toUInt32.toInt32) = gI [a, b, c, d] j := by
  rcases own_p4 (n := 4) (by decide) pz hp with rfl | rfl | rfl | rfl
  · rw [own_gIl (l := [((a >>> ((0 : Int32) &&& 31)).toInt8.toInt32), ((a >>> ((8 : Int32) &&& 31)).toInt8.toInt32), ((b >>> ((0 : Int32) &&& 31)).toInt8.toInt32), ((b >>> ((8 : Int32) &&& 31)).toInt8.toInt32), ((c >>> ((0 : Int32) &&& 31)).toInt8.toInt32), ((c >>> ((8 : Int32) &&& 31)).toInt8.toInt32), ((d >>> ((0 : Int32) &&& 31)).toInt8.toInt32), ((d >>> ((8 : Int32) &&& 31)).toInt8.toInt32)]) (j := (0 : Int32) <<< ((1 : Int32) &&& 31)) 0 (by decide), own_gIl (l := [((a >>> ((0 : Int32) &&& 31)).toInt8.toInt32), ((a >>> ((8 : Int32) &&& 31)).toInt8.toInt32), ((b >>> ((0 : Int32) &&& 31)).toInt8.toInt32), ((b >>> ((8 : Int32) &&& 31)).toInt8.toInt32), ((c >>> ((0 : Int32) &&& 31)).toInt8.toInt32), ((c >>> ((8 : Int32) &&& 31)).toInt8.toInt32), ((d >>> ((0 : Int32) &&& 31)).toInt8.toInt32), ((d >>> ((8 : Int32) &&& 31)).toInt8.toInt32)]) (j := ((0 : Int32) <<< ((1 : Int32) &&& 31)) + (1 : Int32)) 1 (by decide), own_gIl (l := [a, b, c, d]) (j := 0) 0 (by decide)]
    exact own_utf ha
  · rw [own_gIl (l := [((a >>> ((0 : Int32) &&& 31)).toInt8.toInt32), ((a >>> ((8 : Int32) &&& 31)).toInt8.toInt32), ((b >>> ((0 : Int32) &&& 31)).toInt8.toInt32), ((b >>> ((8 : Int32) &&& 31)).toInt8.toInt32), ((c >>> ((0 : Int32) &&& 31)).toInt8.toInt32), ((c >>> ((8 : Int32) &&& 31)).toInt8.toInt32), ((d >>> ((0 : Int32) &&& 31)).toInt8.toInt32), ((d >>> ((8 : Int32) &&& 31)).toInt8.toInt32)]) (j := (1 : Int32) <<< ((1 : Int32) &&& 31)) 2 (by decide), own_gIl (l := [((a >>> ((0 : Int32) &&& 31)).toInt8.toInt32), ((a >>> ((8 : Int32) &&& 31)).toInt8.toInt32), ((b >>> ((0 : Int32) &&& 31)).toInt8.toInt32), ((b >>> ((8 : Int32) &&& 31)).toInt8.toInt32), ((c >>> ((0 : Int32) &&& 31)).toInt8.toInt32), ((c >>> ((8 : Int32) &&& 31)).toInt8.toInt32), ((d >>> ((0 : Int32) &&& 31)).toInt8.toInt32), ((d >>> ((8 : Int32) &&& 31)).toInt8.toInt32)]) (j := ((1 : Int32) <<< ((1 : Int32) &&& 31)) + (1 : Int32)) 3 (by decide), own_gIl (l := [a, b, c, d]) (j := 1) 1 (by decide)]
    exact own_utf hb
  · rw [own_gIl (l := [((a >>> ((0 : Int32) &&& 31)).toInt8.toInt32), ((a >>> ((8 : Int32) &&& 31)).toInt8.toInt32), ((b >>> ((0 : Int32) &&& 31)).toInt8.toInt32), ((b >>> ((8 : Int32) &&& 31)).toInt8.toInt32), ((c >>> ((0 : Int32) &&& 31)).toInt8.toInt32), ((c >>> ((8 : Int32) &&& 31)).toInt8.toInt32), ((d >>> ((0 : Int32) &&& 31)).toInt8.toInt32), ((d >>> ((8 : Int32) &&& 31)).toInt8.toInt32)]) (j := (2 : Int32) <<< ((1 : Int32) &&& 31)) 4 (by decide), own_gIl (l := [((a >>> ((0 : Int32) &&& 31)).toInt8.toInt32), ((a >>> ((8 : Int32) &&& 31)).toInt8.toInt32), ((b >>> ((0 : Int32) &&& 31)).toInt8.toInt32), ((b >>> ((8 : Int32) &&& 31)).toInt8.toInt32), ((c >>> ((0 : Int32) &&& 31)).toInt8.toInt32), ((c >>> ((8 : Int32) &&& 31)).toInt8.toInt32), ((d >>> ((0 : Int32) &&& 31)).toInt8.toInt32), ((d >>> ((8 : Int32) &&& 31)).toInt8.toInt32)]) (j := ((2 : Int32) <<< ((1 : Int32) &&& 31)) + (1 : Int32)) 5 (by decide), own_gIl (l := [a, b, c, d]) (j := 2) 2 (by decide)]
    exact own_utf hc
  · rw [own_gIl (l := [((a >>> ((0 : Int32) &&& 31)).toInt8.toInt32), ((a >>> ((8 : Int32) &&& 31)).toInt8.toInt32), ((b >>> ((0 : Int32) &&& 31)).toInt8.toInt32), ((b >>> ((8 : Int32) &&& 31)).toInt8.toInt32), ((c >>> ((0 : Int32) &&& 31)).toInt8.toInt32), ((c >>> ((8 : Int32) &&& 31)).toInt8.toInt32), ((d >>> ((0 : Int32) &&& 31)).toInt8.toInt32), ((d >>> ((8 : Int32) &&& 31)).toInt8.toInt32)]) (j := (3 : Int32) <<< ((1 : Int32) &&& 31)) 6 (by decide), own_gIl (l := [((a >>> ((0 : Int32) &&& 31)).toInt8.toInt32), ((a >>> ((8 : Int32) &&& 31)).toInt8.toInt32), ((b >>> ((0 : Int32) &&& 31)).toInt8.toInt32), ((b >>> ((8 : Int32) &&& 31)).toInt8.toInt32), ((c >>> ((0 : Int32) &&& 31)).toInt8.toInt32), ((c >>> ((8 : Int32) &&& 31)).toInt8.toInt32), ((d >>> ((0 : Int32) &&& 31)).toInt8.toInt32), ((d >>> ((8 : Int32) &&& 31)).toInt8.toInt32)]) (j := ((3 : Int32) <<< ((1 : Int32) &&& 31)) + (1 : Int32)) 7 (by decide), own_gIl (l := [a, b, c, d]) (j := 3) 3 (by decide)]
    exact own_utf hd
theorem own_or4 {j a b c d : Int32} (pz : ¬ j < 0) (hp : j < 4) (h : (255 : Int32) < (gI [a, b, c, d] j)) : (255 : Int32) < a ∨ (255 : Int32) < b ∨ (255 : Int32) < c ∨ (255 : Int32) < d := by
  rcases own_p4 (n := 4) (by decide) pz hp with rfl | rfl | rfl | rfl <;> first | exact absurd hp (by decide) | exact Or.inl h | exact Or.inr (Or.inl h) | exact Or.inr (Or.inr (Or.inl h)) | exact Or.inr (Or.inr (Or.inr (h)))
def encL (cd : Int32) (l : List Int32) : List Int32 := if cd = 0 then lowL l else utfL l
def chA (cd : Int32) (l : List Int32) (i j k : Int32) : Int32 := if cd = 0 then (((gI l i) &&& (255 : Int32)).toUInt32.toUInt16.toUInt32.toInt32) else (((((gI l j) &&& (255 : Int32)) <<< ((0 : Int32) &&& 31)) ||| (((gI l k) &&& (255 : Int32)) <<< ((8 : Int32) &&& 31))).toUInt32.toUInt16.toUInt32.toInt32)
theorem own_chA_nar {cd : Int32} {l : List Int32} {i j k : Int32} : nar .char (chA cd l i j k) = chA cd l i j k := by
  unfold chA
  split
  · exact nar_c _
  · exact nar_c _
theorem own_enc0 {l : List Int32} : encL 0 l = lowL l := rfl
theorem own_enc1 {l : List Int32} : encL 1 l = utfL l := rfl
theorem own_len0 {cd i N : Int32} (h : cd = 0) (q : i < (N >>> (cd &&& 31))) : i < N := by
  subst h
  rwa [own_shr0] at q
theorem own_len1 {cd i N : Int32} (h : cd = 1) (q : i < (N >>> (cd &&& 31))) : i < (N >>> ((1 : Int32) &&& 31)) := by
  subst h
  exact q
theorem own_cd1 {cd : Int32} (h : ¬ cd = 0) (h2 : cd < 2) (hz : ¬ cd < 0) : cd = 1 := by
  rw [Int32.lt_iff_toInt_lt] at h2 hz
  rw [← Int32.toInt_inj] at h ⊢
  have e0 : (0 : Int32).toInt = 0 := rfl
  have e1 : (1 : Int32).toInt = 1 := rfl
  have e2 : (2 : Int32).toInt = 2 := rfl
  omega
theorem own_cd2 {cd : Int32} {P : Prop} (h : (cd = (0 : Int32) ∧ P) ∨ cd = (1 : Int32)) : cd < 2 ∧ ¬ cd < 0 := by
  rcases h with ⟨rfl, -⟩ | rfl <;> decide
theorem own_shlrc {n cd : Int32} (h5 : n < 5) (hz : ¬ n < 0) (h2 : cd < 2) (cz : ¬ cd < 0) : (n <<< (cd &&& 31)) >>> (cd &&& 31) = n := by
  by_cases h : cd = 0
  · subst h
    rcases own_5 h5 hz with rfl | rfl | rfl | rfl | rfl <;> decide
  · obtain rfl := own_cd1 h h2 cz
    exact own_shlr h5 hz
theorem own_half0 {N : Int32} (h : (0 : Int32) < (N >>> ((1 : Int32) &&& 31))) : (0 : Int32) < N := by
  have a1 := c_ishr N 1 1 (by decide)
  rw [Int32.lt_iff_toInt_lt] at h ⊢
  have e0 : (0 : Int32).toInt = 0 := rfl
  have e2 : ((2 ^ 1 : Nat) : Int) = 2 := rfl
  omega
theorem own_half1 {N : Int32} (h : (0 : Int32) < (N >>> ((1 : Int32) &&& 31))) : (1 : Int32) < N := by
  have a1 := c_ishr N 1 1 (by decide)
  rw [Int32.lt_iff_toInt_lt] at h ⊢
  have e0 : (0 : Int32).toInt = 0 := rfl
  have e1 : (1 : Int32).toInt = 1 := rfl
  have e2 : ((2 ^ 1 : Nat) : Int) = 2 := rfl
  omega
theorem own_half2 {N : Int32} (h : (1 : Int32) < (N >>> ((1 : Int32) &&& 31))) : (2 : Int32) < N := by
  have a1 := c_ishr N 1 1 (by decide)
  rw [Int32.lt_iff_toInt_lt] at h ⊢
  have e0 : (1 : Int32).toInt = 1 := rfl
  have e1 : (2 : Int32).toInt = 2 := rfl
  have e2 : ((2 ^ 1 : Nat) : Int) = 2 := rfl
  omega
theorem own_half3 {N : Int32} (h : (1 : Int32) < (N >>> ((1 : Int32) &&& 31))) : (3 : Int32) < N := by
  have a1 := c_ishr N 1 1 (by decide)
  rw [Int32.lt_iff_toInt_lt] at h ⊢
  have e0 : (1 : Int32).toInt = 1 := rfl
  have e1 : (3 : Int32).toInt = 3 := rfl
  have e2 : ((2 ^ 1 : Nat) : Int) = 2 := rfl
  omega
theorem own_half4 {N : Int32} (h : (2 : Int32) < (N >>> ((1 : Int32) &&& 31))) : (4 : Int32) < N := by
  have a1 := c_ishr N 1 1 (by decide)
  rw [Int32.lt_iff_toInt_lt] at h ⊢
  have e0 : (2 : Int32).toInt = 2 := rfl
  have e1 : (4 : Int32).toInt = 4 := rfl
  have e2 : ((2 ^ 1 : Nat) : Int) = 2 := rfl
  omega
theorem own_half5 {N : Int32} (h : (2 : Int32) < (N >>> ((1 : Int32) &&& 31))) : (5 : Int32) < N := by
  have a1 := c_ishr N 1 1 (by decide)
  rw [Int32.lt_iff_toInt_lt] at h ⊢
  have e0 : (2 : Int32).toInt = 2 := rfl
  have e1 : (5 : Int32).toInt = 5 := rfl
  have e2 : ((2 ^ 1 : Nat) : Int) = 2 := rfl
  omega
theorem own_half6 {N : Int32} (h : (3 : Int32) < (N >>> ((1 : Int32) &&& 31))) : (6 : Int32) < N := by
  have a1 := c_ishr N 1 1 (by decide)
  rw [Int32.lt_iff_toInt_lt] at h ⊢
  have e0 : (3 : Int32).toInt = 3 := rfl
  have e1 : (6 : Int32).toInt = 6 := rfl
  have e2 : ((2 ^ 1 : Nat) : Int) = 2 := rfl
  omega
theorem own_half7 {N : Int32} (h : (3 : Int32) < (N >>> ((1 : Int32) &&& 31))) : (7 : Int32) < N := by
  have a1 := c_ishr N 1 1 (by decide)
  rw [Int32.lt_iff_toInt_lt] at h ⊢
  have e0 : (3 : Int32).toInt = 3 := rfl
  have e1 : (7 : Int32).toInt = 7 := rfl
  have e2 : ((2 ^ 1 : Nat) : Int) = 2 := rfl
  omega
theorem own_andP (x M : Int32) (n : Nat) (hM : M.toBitVec.toNat < n) (P : Int32 → Prop) (t : ∀ k : Fin n, P (Int32.ofNat k.val)) : P (x &&& M) := by
  have h : (x &&& M).toBitVec.toNat < n := by
    rw [Int32.toBitVec_and, BitVec.toNat_and]
    exact Nat.lt_of_le_of_lt Nat.and_le_right hM
  have e : (x &&& M) = Int32.ofNat (x &&& M).toBitVec.toNat := by
    apply Int32.toBitVec_inj.mp
    show _ = BitVec.ofNat 32 _
    rw [BitVec.ofNat_toNat]; simp
  rw [e]
  exact t ⟨_, h⟩
theorem own_n5 (x : Int32) : ¬ (x &&& 7) % 5 < 0 ∧ (x &&& 7) % 5 < 5 := by
  have t : ∀ k : Fin 8, ¬ (Int32.ofNat k.val) % 5 < 0 ∧ (Int32.ofNat k.val) % 5 < 5 := by decide +kernel
  exact own_andP x 7 8 (by decide) (fun y => ¬ y % 5 < 0 ∧ y % 5 < 5) t
theorem own_cdb {cd : Int32} {P : Prop} (h : (cd = (0 : Int32) ∧ P) ∨ cd = (1 : Int32)) : nar .byte cd = cd := by
  rcases h with ⟨rfl, -⟩ | rfl <;> decide
theorem own_n4 {n : Int32} (h : n < 5) : ¬ (4 : Int32) < n := by
  rw [Int32.lt_iff_toInt_lt] at h ⊢
  have e4 : (4 : Int32).toInt = 4 := rfl
  have e5 : (5 : Int32).toInt = 5 := rfl
  omega
theorem own_ltm {n j k : Int32} (h : n < j) (q : j < k) : n < k := by
  rw [Int32.lt_iff_toInt_lt] at h q ⊢
  omega
theorem own_nltm {n j k : Int32} (h : ¬ n < k) (q : j < k) : ¬ n < j := by
  rw [Int32.lt_iff_toInt_lt] at h q ⊢
  omega
def lowF (c : Int32) : Int32 := if c < 65 then c else if 90 < c then c else ((((c - (65 : Int32)) + (97 : Int32)).toUInt32.toUInt16.toUInt32.toInt32))
theorem lowF_a {c : Int32} (h : c < 65) : lowF c = c := if_pos h
theorem lowF_b {c : Int32} (h : 90 < c) : lowF c = c := by
  unfold lowF
  split
  · rfl
  · rfl
theorem lowF_c {c : Int32} (h : ¬ c < 65) (h2 : ¬ 90 < c) : lowF c = ((((c - (65 : Int32)) + (97 : Int32)).toUInt32.toUInt16.toUInt32.toInt32)) := by
  unfold lowF
  rw [if_neg h, if_neg h2]
def eqS (m n a0 a1 a2 a3 b0 b1 b2 b3 : Int32) : Int32 := if m = n then (if 0 < m then (if a0 = b0 then (if 1 < m then (if a1 = b1 then (if 2 < m then (if a2 = b2 then (if 3 < m then (if a3 = b3 then 1 else 0) else 1) else 0) else 1) else 0) else 1) else 0) else 1) else 0
theorem eqS_congr {m n m' n' A0 A1 A2 A3 B0 B1 B2 B3 a0 a1 a2 a3 b0 b1 b2 b3 : Int32} (e1 : m' = m) (e2 : n' = n) (s1 : (0 < m → A0 = a0) ∧ (1 < m → A1 = a1) ∧ (2 < m → A2 = a2) ∧ (3 < m → A3 = a3)) (s2 : (0 < n → B0 = b0) ∧ (1 < n → B1 = b1) ∧ (2 < n → B2 = b2) ∧ (3 < n → B3 = b3)) :
    eqS m' n' (lowF A0) (lowF A1) (lowF A2) (lowF A3) (lowF B0) (lowF B1) (lowF B2) (lowF B3) = eqS m n (lowF a0) (lowF a1) (lowF a2) (lowF a3) (lowF b0) (lowF b1) (lowF b2) (lowF b3) := by
  subst e1 e2
  unfold eqS
  by_cases h : m' = n'
  · subst h
    rw [if_pos rfl, if_pos rfl]
    by_cases h0 : 0 < m'
    · rw [s1.1 h0, s2.1 h0]
      by_cases h1 : 1 < m'
      · rw [s1.2.1 h1, s2.2.1 h1]
        by_cases h2 : 2 < m'
        · rw [s1.2.2.1 h2, s2.2.2.1 h2]
          by_cases h3 : 3 < m'
          · rw [s1.2.2.2 h3, s2.2.2.2 h3]
          · simp only [if_neg h3]
        · simp only [if_neg h2]
      · simp only [if_neg h1]
    · simp only [if_neg h0]
  · rw [if_neg h, if_neg h]
theorem sideC {n a b c d cd : Int32} (h5 : n < 5) (hz : ¬ n < 0) (ha : nar .char a = a) (hb : nar .char b = b) (hc : nar .char c = c) (hd : nar .char d = d) (ok : (cd = (0 : Int32) ∧ ∀ x ∈ (cl4 n a b c d), ¬ (255 : Int32) < x) ∨ cd = (1 : Int32)) :
    (0 < n → chA cd (encL cd (cl4 n a b c d)) 0 0 1 = a) ∧ (1 < n → chA cd (encL cd (cl4 n a b c d)) 1 2 3 = b) ∧ (2 < n → chA cd (encL cd (cl4 n a b c d)) 2 4 5 = c) ∧ (3 < n → chA cd (encL cd (cl4 n a b c d)) 3 6 7 = d) := by
  rcases ok with ⟨rfl, h⟩ | rfl
  · refine ⟨fun q => ?_, fun q => ?_, fun q => ?_, fun q => ?_⟩
    · exact own_latG h5 hz (p := 0) (by decide) q ha hb hc hd h
    · exact own_latG h5 hz (p := 1) (by decide) q ha hb hc hd h
    · exact own_latG h5 hz (p := 2) (by decide) q ha hb hc hd h
    · exact own_latG h5 hz (p := 3) (by decide) q ha hb hc hd h
  · refine ⟨fun q => ?_, fun q => ?_, fun q => ?_, fun q => ?_⟩
    · exact own_utfG h5 hz (p := 0) (by decide) q ha hb hc hd
    · exact own_utfG h5 hz (p := 1) (by decide) q ha hb hc hd
    · exact own_utfG h5 hz (p := 2) (by decide) q ha hb hc hd
    · exact own_utfG h5 hz (p := 3) (by decide) q ha hb hc hd
theorem own_lty0 {n : Int32} (h : ¬ n < 1) : 0 < n := by
  rw [Int32.lt_iff_toInt_lt] at h ⊢
  have e0 : (0 : Int32).toInt = 0 := rfl
  have e1 : (1 : Int32).toInt = 1 := rfl
  omega
theorem own_lty1 {n : Int32} (h : ¬ n < 2) : 1 < n := by
  rw [Int32.lt_iff_toInt_lt] at h ⊢
  have e0 : (1 : Int32).toInt = 1 := rfl
  have e1 : (2 : Int32).toInt = 2 := rfl
  omega
theorem own_lty2 {n : Int32} (h : ¬ n < 3) : 2 < n := by
  rw [Int32.lt_iff_toInt_lt] at h ⊢
  have e0 : (2 : Int32).toInt = 2 := rfl
  have e1 : (3 : Int32).toInt = 3 := rfl
  omega
theorem own_lty3 {n : Int32} (h : ¬ n < 4) : 3 < n := by
  rw [Int32.lt_iff_toInt_lt] at h ⊢
  have e0 : (3 : Int32).toInt = 3 := rfl
  have e1 : (4 : Int32).toInt = 4 := rfl
  omega
theorem own_ltn0 {n : Int32} (h : n < 1) : ¬ 0 < n := by
  rw [Int32.lt_iff_toInt_lt] at h ⊢
  have e0 : (0 : Int32).toInt = 0 := rfl
  have e1 : (1 : Int32).toInt = 1 := rfl
  omega
theorem own_ltn1 {n : Int32} (h : n < 2) : ¬ 1 < n := by
  rw [Int32.lt_iff_toInt_lt] at h ⊢
  have e0 : (1 : Int32).toInt = 1 := rfl
  have e1 : (2 : Int32).toInt = 2 := rfl
  omega
theorem own_ltn2 {n : Int32} (h : n < 3) : ¬ 2 < n := by
  rw [Int32.lt_iff_toInt_lt] at h ⊢
  have e0 : (2 : Int32).toInt = 2 := rfl
  have e1 : (3 : Int32).toInt = 3 := rfl
  omega
theorem own_ltn3 {n : Int32} (h : n < 4) : ¬ 3 < n := by
  rw [Int32.lt_iff_toInt_lt] at h ⊢
  have e0 : (3 : Int32).toInt = 3 := rfl
  have e1 : (4 : Int32).toInt = 4 := rfl
  omega
theorem own_or32 : ∀ k : Fin 128, ¬ (Int32.ofNat k.val ||| 32) < 97 → ¬ (122 : Int32) < (Int32.ofNat k.val ||| 32) → lowF (Int32.ofNat k.val) = lowF (Int32.ofNat k.val ^^^ 32) := by decide +kernel
theorem own_smallP (n : Nat) (hn : n ≤ 2 ^ 31) (P : Int32 → Prop) (t : ∀ k : Fin n, P (Int32.ofNat k.val)) {c : Int32} (h0 : 0 ≤ c.toInt) (h1 : c.toInt < (n : Int)) : P c := by
  have hk : c.toInt.toNat < n := by omega
  have e : Int32.ofNat c.toInt.toNat = c := by
    apply Int32.toInt_inj.mp
    rw [Int32.toInt_ofNat_small (by omega)]
    omega
  exact Eq.mp (congrArg P e) (t ⟨c.toInt.toNat, hk⟩)
theorem own_upP (P : Int32 → Prop) (t : ∀ k : Fin 26, P (Int32.ofNat (65 + k.val))) {c : Int32} (h1 : ¬ c < 65) (h2 : ¬ 90 < c) : P c := by
  rw [Int32.lt_iff_toInt_lt] at h1 h2
  have e1 : (65 : Int32).toInt = 65 := rfl
  have e2 : (90 : Int32).toInt = 90 := rfl
  have hk : (c.toInt - 65).toNat < 26 := by omega
  have e : Int32.ofNat (65 + (c.toInt - 65).toNat) = c := by
    apply Int32.toInt_inj.mp
    rw [Int32.toInt_ofNat_small (by omega)]
    omega
  exact Eq.mp (congrArg P e) (t ⟨(c.toInt - 65).toNat, hk⟩)
theorem own_up {c : Int32} (h1 : ¬ c < 65) (h2 : ¬ 90 < c) : (c ^^^ lowF c = 32 ∧ lowF c ^^^ c = 32) ∧ (¬ (c ||| 32) < 97 ∧ ¬ (lowF c ||| 32) < 97) ∧ (¬ (122 : Int32) < (c ||| 32) ∧ ¬ (122 : Int32) < (lowF c ||| 32)) ∧ lowF c - 32 = c := by
  have t : ∀ k : Fin 26, (Int32.ofNat (65 + k.val) ^^^ lowF (Int32.ofNat (65 + k.val)) = 32 ∧ lowF (Int32.ofNat (65 + k.val)) ^^^ Int32.ofNat (65 + k.val) = 32) ∧ (¬ (Int32.ofNat (65 + k.val) ||| 32) < 97 ∧ ¬ (lowF (Int32.ofNat (65 + k.val)) ||| 32) < 97) ∧ (¬ (122 : Int32) < (Int32.ofNat (65 + k.val) ||| 32) ∧ ¬ (122 : Int32) < (lowF (Int32.ofNat (65 + k.val)) ||| 32)) ∧ lowF (Int32.ofNat (65 + k.val)) - 32 = Int32.ofNat (65 + k.val) := by decide +kernel
  exact own_upP (fun c => (c ^^^ lowF c = 32 ∧ lowF c ^^^ c = 32) ∧ (¬ (c ||| 32) < 97 ∧ ¬ (lowF c ||| 32) < 97) ∧ (¬ (122 : Int32) < (c ||| 32) ∧ ¬ (122 : Int32) < (lowF c ||| 32)) ∧ lowF c - 32 = c) t h1 h2
theorem same_k {a b : Int32} (e : ¬ a = b) (q : lowF a = lowF b) : (¬ a < 65 ∧ ¬ 90 < a ∧ b = lowF a) ∨ (¬ b < 65 ∧ ¬ 90 < b ∧ a = lowF b) := by
  by_cases a1 : a < 65
  · rw [lowF_a a1] at q
    by_cases b1 : b < 65
    · rw [lowF_a b1] at q; exact absurd q e
    · by_cases b2 : 90 < b
      · rw [lowF_b b2] at q; exact absurd q e
      · exact Or.inr ⟨b1, b2, q⟩
  · by_cases a2 : 90 < a
    · rw [lowF_b a2] at q
      by_cases b1 : b < 65
      · rw [lowF_a b1] at q; exact absurd q e
      · by_cases b2 : 90 < b
        · rw [lowF_b b2] at q; exact absurd q e
        · exact Or.inr ⟨b1, b2, q⟩
    · by_cases b1 : b < 65
      · exact Or.inl ⟨a1, a2, ((lowF_a b1).symm.trans q.symm)⟩
      · by_cases b2 : 90 < b
        · exact Or.inl ⟨a1, a2, ((lowF_b b2).symm.trans q.symm)⟩
        · have u := (own_up a1 a2).2.2.2
          have v := (own_up b1 b2).2.2.2
          exact absurd (u.symm.trans ((congrArg (fun z => z - 32) q).trans v)) e
theorem same_x {a b : Int32} (ha : nar .char a = a) (hb : nar .char b = b) (e : ¬ a = b) (x : ¬ (a ^^^ b) = 32) : ¬ lowF a = lowF b := by
  intro q
  rcases same_k e q with ⟨h1, h2, rfl⟩ | ⟨h1, h2, rfl⟩
  · exact x (own_up h1 h2).1.1
  · exact x (own_up h1 h2).1.2
theorem same_lo {a b : Int32} (ha : nar .char a = a) (hb : nar .char b = b) (e : ¬ a = b) (x : (a ||| 32) < 97) : ¬ lowF a = lowF b := by
  intro q
  rcases same_k e q with ⟨h1, h2, rfl⟩ | ⟨h1, h2, rfl⟩
  · exact (own_up h1 h2).2.1.1 x
  · exact (own_up h1 h2).2.1.2 x
theorem same_hi {a b : Int32} (ha : nar .char a = a) (hb : nar .char b = b) (e : ¬ a = b) (x : (122 : Int32) < (a ||| 32)) : ¬ lowF a = lowF b := by
  intro q
  rcases same_k e q with ⟨h1, h2, rfl⟩ | ⟨h1, h2, rfl⟩
  · exact (own_up h1 h2).2.2.1.1 x
  · exact (own_up h1 h2).2.2.1.2 x
theorem own_nat (x : Int32) (h : 0 ≤ x.toInt) : x.toInt = (x.toBitVec.toNat : Int) := by
  have h4 : x.toInt = if 2 * x.toBitVec.toNat < 2 ^ 32 then (x.toBitVec.toNat : Int) else (x.toBitVec.toNat : Int) - ((2 ^ 32 : Nat) : Int) := BitVec.toInt_eq_toNat_cond _
  have h5 := x.toBitVec.isLt
  split at h4
  · exact h4
  · omega
theorem same_in {a b : Int32} (ha : nar .char a = a) (hb : nar .char b = b) (x : (a ^^^ b) = 32) (lo : ¬ (a ||| 32) < 97) (hi : ¬ (122 : Int32) < (a ||| 32)) : lowF a = lowF b := by
  have h1 := own_charI ha
  have h2 : a.toBitVec.toNat ≤ (a ||| 32).toBitVec.toNat := by
    rw [Int32.toBitVec_or, BitVec.toNat_or]; exact Nat.left_le_or
  have lo' := lo
  have hi' := hi
  rw [Int32.lt_iff_toInt_lt] at lo' hi'
  have e1 : (97 : Int32).toInt = 97 := rfl
  have e2 : (122 : Int32).toInt = 122 := rfl
  have h3 := own_nat (a ||| 32) (by omega)
  have h4 := own_nat a h1.1
  have h5 : a.toInt < ((128 : Nat) : Int) := by omega
  have hx : b = a ^^^ 32 := by rw [← x, ← Int32.xor_assoc, Int32.xor_self, Int32.zero_xor]
  rw [hx]
  exact own_smallP 128 (by decide) (fun c => ¬ (c ||| 32) < 97 → ¬ (122 : Int32) < (c ||| 32) → lowF c = lowF (c ^^^ 32)) own_or32 h1.1 h5 lo hi
abbrev DC (b : ByteArray) (p : Nat) (i : Instr) (n : Nat) : Prop := ∀ {c : Code}, c.code = b → decode c.code p = .ok (i, n)
abbrev WD (w : Jvm.Cond) : Prop := ∀ {Z : State} {a0 : Array Value}, (∀ d ∈ tables_1, d.before a0 Z = true) → w.before a0 Z = true
theorem own_wd (i : Nat) {w : Jvm.Cond} (h : tables_1[i]? = some w) {Z : State} {a0 : Array Value} (hw : ∀ d ∈ tables_1, d.before a0 Z = true) : w.before a0 Z = true := hw _ (List.mem_of_getElem? h)
abbrev yn_1 : MethodName := ⟨"com/example/runnymede/runnymede/AsciiEqualsIgnoreCasePinLaw", "draw", "(III)C"⟩
abbrev yn_2 : MethodName := ⟨"com/example/runnymede/runnymede/AsciiEqualsIgnoreCasePinLaw", "derive", "(CIII)C"⟩
abbrev yn_3 : MethodName := ⟨"com/example/runnymede/runnymede/AsciiEqualsIgnoreCasePinLaw", "make", "([CI)Ljava/lang/String;"⟩
abbrev yn_4 : MethodName := ⟨"java/lang/String", "<init>", "([C)V"⟩
abbrev yn_5 : MethodName := ⟨"java/lang/String", "<init>", "([CIILjava/lang/Void;)V"⟩
abbrev yn_7 : MethodName := ⟨"com/example/runnymede/runnymede/Ascii", "equalsIgnoreCase", "(Ljava/lang/String;Ljava/lang/String;)Z"⟩
abbrev yn_8 : MethodName := ⟨"java/lang/StringUTF16", "compress", "([CII)[B"⟩
abbrev yn_9 : MethodName := ⟨"java/lang/StringUTF16", "compress", "([CI[BII)I"⟩
abbrev yn_10 : MethodName := ⟨"java/lang/StringUTF16", "coderFromArrayLen", "([BI)B"⟩
abbrev yn_11 : MethodName := ⟨"java/lang/StringUTF16", "toBytes", "([CII)[B"⟩
abbrev yn_12 : MethodName := ⟨"java/lang/StringUTF16", "newBytesFor", "(I)[B"⟩
abbrev yn_13 : MethodName := ⟨"java/lang/StringUTF16", "newBytesLength", "(I)I"⟩
abbrev yn_14 : MethodName := ⟨"java/lang/StringUTF16", "putChar", "([BII)V"⟩
abbrev yn_15 : MethodName := ⟨"java/lang/StringUTF16", "getChar", "([BI)C"⟩
abbrev yn_16 : MethodName := ⟨"java/lang/String", "length", "()I"⟩
abbrev yn_17 : MethodName := ⟨"java/lang/String", "coder", "()B"⟩
abbrev yn_18 : MethodName := ⟨"java/lang/String", "charAt", "(I)C"⟩
abbrev yn_19 : MethodName := ⟨"java/lang/String", "isLatin1", "()Z"⟩
abbrev yn_20 : MethodName := ⟨"java/lang/StringUTF16", "charAt", "([BI)C"⟩
abbrev yn_21 : MethodName := ⟨"java/lang/StringUTF16", "checkIndex", "(I[B)V"⟩
abbrev yn_22 : MethodName := ⟨"java/lang/StringUTF16", "length", "([B)I"⟩
abbrev yn_23 : MethodName := ⟨"java/lang/String", "checkIndex", "(II)V"⟩
abbrev yn_24 : MethodName := ⟨"jdk/internal/util/Preconditions", "checkIndex", "(IILjava/util/function/BiFunction;)I"⟩
abbrev yn_25 : MethodName := ⟨"com/example/runnymede/runnymede/Ascii", "lowerCase", "(C)C"⟩
abbrev yn_26 : MethodName := ⟨"com/example/runnymede/runnymede/AsciiEqualsIgnoreCasePinLaw", "same", "(CC)Z"⟩
abbrev yn_27 : MethodName := ⟨"java/lang/StringLatin1", "charAt", "([BI)C"⟩
theorem d24_0 : DC jdk_41_method_11_code 0 (.iload_n 0) 1 := fun h => hb h (by decide +kernel)
theorem d24_1 : DC jdk_41_method_11_code 1 (.ifCond .lt 8) 3 := fun h => hb h (by decide +kernel)
theorem d24_4 : DC jdk_41_method_11_code 4 (.iload_n 0) 1 := fun h => hb h (by decide +kernel)
theorem d24_5 : DC jdk_41_method_11_code 5 (.iload_n 1) 1 := fun h => hb h (by decide +kernel)
theorem d24_6 : DC jdk_41_method_11_code 6 (.if_icmp .lt 10) 3 := fun h => hb h (by decide +kernel)
theorem d24_16 : DC jdk_41_method_11_code 16 (.iload_n 0) 1 := fun h => hb h (by decide +kernel)
theorem d24_17 : DC jdk_41_method_11_code 17 (.ireturn) 1 := fun h => hb h (by decide +kernel)
theorem d5_0 : DC jdk_42_method_149_code 0 (.aload_n 0) 1 := fun h => hb h (by decide +kernel)
theorem d5_1 : DC jdk_42_method_149_code 1 (.invokespecial 1) 3 := fun h => hb h (by decide +kernel)
theorem d5_4 : DC jdk_42_method_149_code 4 (.iload_n 3) 1 := fun h => hb h (by decide +kernel)
theorem d5_5 : DC jdk_42_method_149_code 5 (.ifCond .ne 22) 3 := fun h => hb h (by decide +kernel)
theorem d5_8 : DC jdk_42_method_149_code 8 (.aload_n 0) 1 := fun h => hb h (by decide +kernel)
theorem d5_9 : DC jdk_42_method_149_code 9 (.ldc 7) 2 := fun h => hb h (by decide +kernel)
theorem d5_11 : DC jdk_42_method_149_code 11 (.getfield 9) 3 := fun h => hb h (by decide +kernel)
theorem d5_14 : DC jdk_42_method_149_code 14 (.putfield 9) 3 := fun h => hb h (by decide +kernel)
theorem d5_17 : DC jdk_42_method_149_code 17 (.aload_n 0) 1 := fun h => hb h (by decide +kernel)
theorem d5_18 : DC jdk_42_method_149_code 18 (.ldc 7) 2 := fun h => hb h (by decide +kernel)
theorem d5_20 : DC jdk_42_method_149_code 20 (.getfield 15) 3 := fun h => hb h (by decide +kernel)
theorem d5_23 : DC jdk_42_method_149_code 23 (.putfield 15) 3 := fun h => hb h (by decide +kernel)
theorem d5_26 : DC jdk_42_method_149_code 26 (.return_) 1 := fun h => hb h (by decide +kernel)
theorem d5_27 : DC jdk_42_method_149_code 27 (.getstatic 38) 3 := fun h => hb h (by decide +kernel)
theorem d5_30 : DC jdk_42_method_149_code 30 (.ifCond .eq 28) 3 := fun h => hb h (by decide +kernel)
theorem d5_33 : DC jdk_42_method_149_code 33 (.aload_n 1) 1 := fun h => hb h (by decide +kernel)
theorem d5_34 : DC jdk_42_method_149_code 34 (.iload_n 2) 1 := fun h => hb h (by decide +kernel)
theorem d5_35 : DC jdk_42_method_149_code 35 (.iload_n 3) 1 := fun h => hb h (by decide +kernel)
theorem d5_36 : DC jdk_42_method_149_code 36 (.invokestatic 177) 3 := fun h => hb h (by decide +kernel)
theorem d5_39 : DC jdk_42_method_149_code 39 (.astore 5) 2 := fun h => hb h (by decide +kernel)
theorem d5_41 : DC jdk_42_method_149_code 41 (.aload_n 0) 1 := fun h => hb h (by decide +kernel)
theorem d5_42 : DC jdk_42_method_149_code 42 (.aload 5) 2 := fun h => hb h (by decide +kernel)
theorem d5_44 : DC jdk_42_method_149_code 44 (.iload_n 3) 1 := fun h => hb h (by decide +kernel)
theorem d5_45 : DC jdk_42_method_149_code 45 (.invokestatic 47) 3 := fun h => hb h (by decide +kernel)
theorem d5_48 : DC jdk_42_method_149_code 48 (.putfield 15) 3 := fun h => hb h (by decide +kernel)
theorem d5_51 : DC jdk_42_method_149_code 51 (.aload_n 0) 1 := fun h => hb h (by decide +kernel)
theorem d5_52 : DC jdk_42_method_149_code 52 (.aload 5) 2 := fun h => hb h (by decide +kernel)
theorem d5_54 : DC jdk_42_method_149_code 54 (.putfield 9) 3 := fun h => hb h (by decide +kernel)
theorem d5_57 : DC jdk_42_method_149_code 57 (.return_) 1 := fun h => hb h (by decide +kernel)
theorem d17_0 : DC jdk_42_method_152_code 0 (.getstatic 38) 3 := fun h => hb h (by decide +kernel)
theorem d17_3 : DC jdk_42_method_152_code 3 (.ifCond .eq 10) 3 := fun h => hb h (by decide +kernel)
theorem d17_6 : DC jdk_42_method_152_code 6 (.aload_n 0) 1 := fun h => hb h (by decide +kernel)
theorem d17_7 : DC jdk_42_method_152_code 7 (.getfield 15) 3 := fun h => hb h (by decide +kernel)
theorem d17_10 : DC jdk_42_method_152_code 10 (.goto 4) 3 := fun h => hb h (by decide +kernel)
theorem d17_14 : DC jdk_42_method_152_code 14 (.ireturn) 1 := fun h => hb h (by decide +kernel)
theorem d19_0 : DC jdk_42_method_154_code 0 (.getstatic 38) 3 := fun h => hb h (by decide +kernel)
theorem d19_3 : DC jdk_42_method_154_code 3 (.ifCond .eq 14) 3 := fun h => hb h (by decide +kernel)
theorem d19_6 : DC jdk_42_method_154_code 6 (.aload_n 0) 1 := fun h => hb h (by decide +kernel)
theorem d19_7 : DC jdk_42_method_154_code 7 (.getfield 15) 3 := fun h => hb h (by decide +kernel)
theorem d19_10 : DC jdk_42_method_154_code 10 (.ifCond .ne 7) 3 := fun h => hb h (by decide +kernel)
theorem d19_13 : DC jdk_42_method_154_code 13 (.iconst 1) 1 := fun h => hb h (by decide +kernel)
theorem d19_14 : DC jdk_42_method_154_code 14 (.goto 4) 3 := fun h => hb h (by decide +kernel)
theorem d19_17 : DC jdk_42_method_154_code 17 (.iconst 0) 1 := fun h => hb h (by decide +kernel)
theorem d19_18 : DC jdk_42_method_154_code 18 (.ireturn) 1 := fun h => hb h (by decide +kernel)
theorem d23_0 : DC jdk_42_method_155_code 0 (.iload_n 0) 1 := fun h => hb h (by decide +kernel)
theorem d23_1 : DC jdk_42_method_155_code 1 (.iload_n 1) 1 := fun h => hb h (by decide +kernel)
theorem d23_2 : DC jdk_42_method_155_code 2 (.getstatic 1053) 3 := fun h => hb h (by decide +kernel)
theorem d23_5 : DC jdk_42_method_155_code 5 (.invokestatic 1059) 3 := fun h => hb h (by decide +kernel)
theorem d23_8 : DC jdk_42_method_155_code 8 (.pop) 1 := fun h => hb h (by decide +kernel)
theorem d23_9 : DC jdk_42_method_155_code 9 (.return_) 1 := fun h => hb h (by decide +kernel)
theorem d4_0 : DC jdk_42_method_3_code 0 (.aload_n 0) 1 := fun h => hb h (by decide +kernel)
theorem d4_1 : DC jdk_42_method_3_code 1 (.aload_n 1) 1 := fun h => hb h (by decide +kernel)
theorem d4_2 : DC jdk_42_method_3_code 2 (.iconst 0) 1 := fun h => hb h (by decide +kernel)
theorem d4_3 : DC jdk_42_method_3_code 3 (.aload_n 1) 1 := fun h => hb h (by decide +kernel)
theorem d4_4 : DC jdk_42_method_3_code 4 (.arraylength) 1 := fun h => hb h (by decide +kernel)
theorem d4_5 : DC jdk_42_method_3_code 5 (.aconst_null) 1 := fun h => hb h (by decide +kernel)
theorem d4_6 : DC jdk_42_method_3_code 6 (.invokespecial 27) 3 := fun h => hb h (by decide +kernel)
theorem d4_9 : DC jdk_42_method_3_code 9 (.return_) 1 := fun h => hb h (by decide +kernel)
theorem d16_0 : DC jdk_42_method_54_code 0 (.aload_n 0) 1 := fun h => hb h (by decide +kernel)
theorem d16_1 : DC jdk_42_method_54_code 1 (.getfield 9) 3 := fun h => hb h (by decide +kernel)
theorem d16_4 : DC jdk_42_method_54_code 4 (.arraylength) 1 := fun h => hb h (by decide +kernel)
theorem d16_5 : DC jdk_42_method_54_code 5 (.aload_n 0) 1 := fun h => hb h (by decide +kernel)
theorem d16_6 : DC jdk_42_method_54_code 6 (.invokevirtual 335) 3 := fun h => hb h (by decide +kernel)
theorem d16_9 : DC jdk_42_method_54_code 9 (.ishr) 1 := fun h => hb h (by decide +kernel)
theorem d16_10 : DC jdk_42_method_54_code 10 (.ireturn) 1 := fun h => hb h (by decide +kernel)
theorem d18_0 : DC jdk_42_method_56_code 0 (.aload_n 0) 1 := fun h => hb h (by decide +kernel)
theorem d18_1 : DC jdk_42_method_56_code 1 (.invokevirtual 492) 3 := fun h => hb h (by decide +kernel)
theorem d18_4 : DC jdk_42_method_56_code 4 (.ifCond .eq 12) 3 := fun h => hb h (by decide +kernel)
theorem d18_7 : DC jdk_42_method_56_code 7 (.aload_n 0) 1 := fun h => hb h (by decide +kernel)
theorem d18_8 : DC jdk_42_method_56_code 8 (.getfield 9) 3 := fun h => hb h (by decide +kernel)
theorem d18_11 : DC jdk_42_method_56_code 11 (.iload_n 1) 1 := fun h => hb h (by decide +kernel)
theorem d18_12 : DC jdk_42_method_56_code 12 (.invokestatic 495) 3 := fun h => hb h (by decide +kernel)
theorem d18_15 : DC jdk_42_method_56_code 15 (.ireturn) 1 := fun h => hb h (by decide +kernel)
theorem d18_16 : DC jdk_42_method_56_code 16 (.aload_n 0) 1 := fun h => hb h (by decide +kernel)
theorem d18_17 : DC jdk_42_method_56_code 17 (.getfield 9) 3 := fun h => hb h (by decide +kernel)
theorem d18_20 : DC jdk_42_method_56_code 20 (.iload_n 1) 1 := fun h => hb h (by decide +kernel)
theorem d18_21 : DC jdk_42_method_56_code 21 (.invokestatic 498) 3 := fun h => hb h (by decide +kernel)
theorem d18_24 : DC jdk_42_method_56_code 24 (.ireturn) 1 := fun h => hb h (by decide +kernel)
theorem d27_0 : DC jdk_43_method_2_code 0 (.iload_n 1) 1 := fun h => hb h (by decide +kernel)
theorem d27_1 : DC jdk_43_method_2_code 1 (.aload_n 0) 1 := fun h => hb h (by decide +kernel)
theorem d27_2 : DC jdk_43_method_2_code 2 (.arraylength) 1 := fun h => hb h (by decide +kernel)
theorem d27_3 : DC jdk_43_method_2_code 3 (.invokestatic 9) 3 := fun h => hb h (by decide +kernel)
theorem d27_6 : DC jdk_43_method_2_code 6 (.aload_n 0) 1 := fun h => hb h (by decide +kernel)
theorem d27_7 : DC jdk_43_method_2_code 7 (.iload_n 1) 1 := fun h => hb h (by decide +kernel)
theorem d27_8 : DC jdk_43_method_2_code 8 (.baload) 1 := fun h => hb h (by decide +kernel)
theorem d27_9 : DC jdk_43_method_2_code 9 (.sipush 255) 3 := fun h => hb h (by decide +kernel)
theorem d27_12 : DC jdk_43_method_2_code 12 (.iand) 1 := fun h => hb h (by decide +kernel)
theorem d27_13 : DC jdk_43_method_2_code 13 (.i2c) 1 := fun h => hb h (by decide +kernel)
theorem d27_14 : DC jdk_43_method_2_code 14 (.ireturn) 1 := fun h => hb h (by decide +kernel)
theorem d11_0 : DC jdk_52_method_14_code 0 (.iload_n 2) 1 := fun h => hb h (by decide +kernel)
theorem d11_1 : DC jdk_52_method_14_code 1 (.invokestatic 107) 3 := fun h => hb h (by decide +kernel)
theorem d11_4 : DC jdk_52_method_14_code 4 (.astore_n 3) 1 := fun h => hb h (by decide +kernel)
theorem d11_5 : DC jdk_52_method_14_code 5 (.iconst 0) 1 := fun h => hb h (by decide +kernel)
theorem d11_6 : DC jdk_52_method_14_code 6 (.istore 4) 2 := fun h => hb h (by decide +kernel)
theorem d11_8 : DC jdk_52_method_14_code 8 (.iload 4) 2 := fun h => hb h (by decide +kernel)
theorem d11_10 : DC jdk_52_method_14_code 10 (.iload_n 2) 1 := fun h => hb h (by decide +kernel)
theorem d11_11 : DC jdk_52_method_14_code 11 (.if_icmp .ge 21) 3 := fun h => hb h (by decide +kernel)
theorem d11_14 : DC jdk_52_method_14_code 14 (.aload_n 3) 1 := fun h => hb h (by decide +kernel)
theorem d11_15 : DC jdk_52_method_14_code 15 (.iload 4) 2 := fun h => hb h (by decide +kernel)
theorem d11_17 : DC jdk_52_method_14_code 17 (.aload_n 0) 1 := fun h => hb h (by decide +kernel)
theorem d11_18 : DC jdk_52_method_14_code 18 (.iload_n 1) 1 := fun h => hb h (by decide +kernel)
theorem d11_19 : DC jdk_52_method_14_code 19 (.caload) 1 := fun h => hb h (by decide +kernel)
theorem d11_20 : DC jdk_52_method_14_code 20 (.invokestatic 111) 3 := fun h => hb h (by decide +kernel)
theorem d11_23 : DC jdk_52_method_14_code 23 (.iinc 1 1) 3 := fun h => hb h (by decide +kernel)
theorem d11_26 : DC jdk_52_method_14_code 26 (.iinc 4 1) 3 := fun h => hb h (by decide +kernel)
theorem d11_29 : DC jdk_52_method_14_code 29 (.goto (-21)) 3 := fun h => hb h (by decide +kernel)
theorem d11_32 : DC jdk_52_method_14_code 32 (.aload_n 3) 1 := fun h => hb h (by decide +kernel)
theorem d11_33 : DC jdk_52_method_14_code 33 (.areturn) 1 := fun h => hb h (by decide +kernel)
theorem d10_0 : DC jdk_52_method_15_code 0 (.iload_n 1) 1 := fun h => hb h (by decide +kernel)
theorem d10_1 : DC jdk_52_method_15_code 1 (.aload_n 0) 1 := fun h => hb h (by decide +kernel)
theorem d10_2 : DC jdk_52_method_15_code 2 (.arraylength) 1 := fun h => hb h (by decide +kernel)
theorem d10_3 : DC jdk_52_method_15_code 3 (.isub) 1 := fun h => hb h (by decide +kernel)
theorem d10_4 : DC jdk_52_method_15_code 4 (.bipush 31) 2 := fun h => hb h (by decide +kernel)
theorem d10_6 : DC jdk_52_method_15_code 6 (.iushr) 1 := fun h => hb h (by decide +kernel)
theorem d10_7 : DC jdk_52_method_15_code 7 (.i2b) 1 := fun h => hb h (by decide +kernel)
theorem d10_8 : DC jdk_52_method_15_code 8 (.ireturn) 1 := fun h => hb h (by decide +kernel)
theorem d8_0 : DC jdk_52_method_16_code 0 (.iload_n 2) 1 := fun h => hb h (by decide +kernel)
theorem d8_1 : DC jdk_52_method_16_code 1 (.newarray .byte) 2 := fun h => hb h (by decide +kernel)
theorem d8_3 : DC jdk_52_method_16_code 3 (.astore_n 3) 1 := fun h => hb h (by decide +kernel)
theorem d8_4 : DC jdk_52_method_16_code 4 (.aload_n 0) 1 := fun h => hb h (by decide +kernel)
theorem d8_5 : DC jdk_52_method_16_code 5 (.iload_n 1) 1 := fun h => hb h (by decide +kernel)
theorem d8_6 : DC jdk_52_method_16_code 6 (.aload_n 3) 1 := fun h => hb h (by decide +kernel)
theorem d8_7 : DC jdk_52_method_16_code 7 (.iconst 0) 1 := fun h => hb h (by decide +kernel)
theorem d8_8 : DC jdk_52_method_16_code 8 (.iload_n 2) 1 := fun h => hb h (by decide +kernel)
theorem d8_9 : DC jdk_52_method_16_code 9 (.invokestatic 115) 3 := fun h => hb h (by decide +kernel)
theorem d8_12 : DC jdk_52_method_16_code 12 (.istore 4) 2 := fun h => hb h (by decide +kernel)
theorem d8_14 : DC jdk_52_method_16_code 14 (.iload 4) 2 := fun h => hb h (by decide +kernel)
theorem d8_16 : DC jdk_52_method_16_code 16 (.iload_n 2) 1 := fun h => hb h (by decide +kernel)
theorem d8_17 : DC jdk_52_method_16_code 17 (.if_icmp .eq 40) 3 := fun h => hb h (by decide +kernel)
theorem d8_20 : DC jdk_52_method_16_code 20 (.aload_n 0) 1 := fun h => hb h (by decide +kernel)
theorem d8_21 : DC jdk_52_method_16_code 21 (.iload_n 1) 1 := fun h => hb h (by decide +kernel)
theorem d8_22 : DC jdk_52_method_16_code 22 (.iload_n 2) 1 := fun h => hb h (by decide +kernel)
theorem d8_23 : DC jdk_52_method_16_code 23 (.invokestatic 119) 3 := fun h => hb h (by decide +kernel)
theorem d8_26 : DC jdk_52_method_16_code 26 (.astore 5) 2 := fun h => hb h (by decide +kernel)
theorem d8_28 : DC jdk_52_method_16_code 28 (.aload 5) 2 := fun h => hb h (by decide +kernel)
theorem d8_30 : DC jdk_52_method_16_code 30 (.iload 4) 2 := fun h => hb h (by decide +kernel)
theorem d8_32 : DC jdk_52_method_16_code 32 (.invokestatic 71) 3 := fun h => hb h (by decide +kernel)
theorem d8_35 : DC jdk_52_method_16_code 35 (.sipush 255) 3 := fun h => hb h (by decide +kernel)
theorem d8_38 : DC jdk_52_method_16_code 38 (.if_icmp .gt 16) 3 := fun h => hb h (by decide +kernel)
theorem d8_54 : DC jdk_52_method_16_code 54 (.aload 5) 2 := fun h => hb h (by decide +kernel)
theorem d8_56 : DC jdk_52_method_16_code 56 (.areturn) 1 := fun h => hb h (by decide +kernel)
theorem d8_57 : DC jdk_52_method_16_code 57 (.aload_n 3) 1 := fun h => hb h (by decide +kernel)
theorem d8_58 : DC jdk_52_method_16_code 58 (.areturn) 1 := fun h => hb h (by decide +kernel)
theorem d9_0 : DC jdk_52_method_21_code 0 (.iconst 0) 1 := fun h => hb h (by decide +kernel)
theorem d9_1 : DC jdk_52_method_21_code 1 (.istore 5) 2 := fun h => hb h (by decide +kernel)
theorem d9_3 : DC jdk_52_method_21_code 3 (.iload 5) 2 := fun h => hb h (by decide +kernel)
theorem d9_5 : DC jdk_52_method_21_code 5 (.iload 4) 2 := fun h => hb h (by decide +kernel)
theorem d9_7 : DC jdk_52_method_21_code 7 (.if_icmp .ge 37) 3 := fun h => hb h (by decide +kernel)
theorem d9_10 : DC jdk_52_method_21_code 10 (.aload_n 0) 1 := fun h => hb h (by decide +kernel)
theorem d9_11 : DC jdk_52_method_21_code 11 (.iload_n 1) 1 := fun h => hb h (by decide +kernel)
theorem d9_12 : DC jdk_52_method_21_code 12 (.caload) 1 := fun h => hb h (by decide +kernel)
theorem d9_13 : DC jdk_52_method_21_code 13 (.istore 6) 2 := fun h => hb h (by decide +kernel)
theorem d9_15 : DC jdk_52_method_21_code 15 (.iload 6) 2 := fun h => hb h (by decide +kernel)
theorem d9_17 : DC jdk_52_method_21_code 17 (.sipush 255) 3 := fun h => hb h (by decide +kernel)
theorem d9_20 : DC jdk_52_method_21_code 20 (.if_icmp .le 6) 3 := fun h => hb h (by decide +kernel)
theorem d9_23 : DC jdk_52_method_21_code 23 (.iload 5) 2 := fun h => hb h (by decide +kernel)
theorem d9_25 : DC jdk_52_method_21_code 25 (.ireturn) 1 := fun h => hb h (by decide +kernel)
theorem d9_26 : DC jdk_52_method_21_code 26 (.aload_n 2) 1 := fun h => hb h (by decide +kernel)
theorem d9_27 : DC jdk_52_method_21_code 27 (.iload_n 3) 1 := fun h => hb h (by decide +kernel)
theorem d9_28 : DC jdk_52_method_21_code 28 (.iload 6) 2 := fun h => hb h (by decide +kernel)
theorem d9_30 : DC jdk_52_method_21_code 30 (.i2b) 1 := fun h => hb h (by decide +kernel)
theorem d9_31 : DC jdk_52_method_21_code 31 (.bastore) 1 := fun h => hb h (by decide +kernel)
theorem d9_32 : DC jdk_52_method_21_code 32 (.iinc 1 1) 3 := fun h => hb h (by decide +kernel)
theorem d9_35 : DC jdk_52_method_21_code 35 (.iinc 3 1) 3 := fun h => hb h (by decide +kernel)
theorem d9_38 : DC jdk_52_method_21_code 38 (.iinc 5 1) 3 := fun h => hb h (by decide +kernel)
theorem d9_41 : DC jdk_52_method_21_code 41 (.goto (-38)) 3 := fun h => hb h (by decide +kernel)
theorem d9_44 : DC jdk_52_method_21_code 44 (.iload 4) 2 := fun h => hb h (by decide +kernel)
theorem d9_46 : DC jdk_52_method_21_code 46 (.ireturn) 1 := fun h => hb h (by decide +kernel)
theorem d12_0 : DC jdk_52_method_2_code 0 (.iload_n 0) 1 := fun h => hb h (by decide +kernel)
theorem d12_1 : DC jdk_52_method_2_code 1 (.invokestatic 11) 3 := fun h => hb h (by decide +kernel)
theorem d12_4 : DC jdk_52_method_2_code 4 (.newarray .byte) 2 := fun h => hb h (by decide +kernel)
theorem d12_6 : DC jdk_52_method_2_code 6 (.areturn) 1 := fun h => hb h (by decide +kernel)
theorem d13_0 : DC jdk_52_method_3_code 0 (.iload_n 0) 1 := fun h => hb h (by decide +kernel)
theorem d13_1 : DC jdk_52_method_3_code 1 (.ifCond .ge 11) 3 := fun h => hb h (by decide +kernel)
theorem d13_12 : DC jdk_52_method_3_code 12 (.iload_n 0) 1 := fun h => hb h (by decide +kernel)
theorem d13_13 : DC jdk_52_method_3_code 13 (.ldc 20) 2 := fun h => hb h (by decide +kernel)
theorem d13_15 : DC jdk_52_method_3_code 15 (.if_icmp .lt 40) 3 := fun h => hb h (by decide +kernel)
theorem d13_55 : DC jdk_52_method_3_code 55 (.iload_n 0) 1 := fun h => hb h (by decide +kernel)
theorem d13_56 : DC jdk_52_method_3_code 56 (.iconst 1) 1 := fun h => hb h (by decide +kernel)
theorem d13_57 : DC jdk_52_method_3_code 57 (.ishl) 1 := fun h => hb h (by decide +kernel)
theorem d13_58 : DC jdk_52_method_3_code 58 (.ireturn) 1 := fun h => hb h (by decide +kernel)
theorem d14_0 : DC jdk_52_method_4_code 0 (.getstatic 44) 3 := fun h => hb h (by decide +kernel)
theorem d14_3 : DC jdk_52_method_4_code 3 (.ifCond .ne 25) 3 := fun h => hb h (by decide +kernel)
theorem d14_28 : DC jdk_52_method_4_code 28 (.iload_n 1) 1 := fun h => hb h (by decide +kernel)
theorem d14_29 : DC jdk_52_method_4_code 29 (.iconst 1) 1 := fun h => hb h (by decide +kernel)
theorem d14_30 : DC jdk_52_method_4_code 30 (.ishl) 1 := fun h => hb h (by decide +kernel)
theorem d14_31 : DC jdk_52_method_4_code 31 (.istore_n 1) 1 := fun h => hb h (by decide +kernel)
theorem d14_32 : DC jdk_52_method_4_code 32 (.aload_n 0) 1 := fun h => hb h (by decide +kernel)
theorem d14_33 : DC jdk_52_method_4_code 33 (.iload_n 1) 1 := fun h => hb h (by decide +kernel)
theorem d14_34 : DC jdk_52_method_4_code 34 (.iinc 1 1) 3 := fun h => hb h (by decide +kernel)
theorem d14_37 : DC jdk_52_method_4_code 37 (.iload_n 2) 1 := fun h => hb h (by decide +kernel)
theorem d14_38 : DC jdk_52_method_4_code 38 (.getstatic 59) 3 := fun h => hb h (by decide +kernel)
theorem d14_41 : DC jdk_52_method_4_code 41 (.ishr) 1 := fun h => hb h (by decide +kernel)
theorem d14_42 : DC jdk_52_method_4_code 42 (.i2b) 1 := fun h => hb h (by decide +kernel)
theorem d14_43 : DC jdk_52_method_4_code 43 (.bastore) 1 := fun h => hb h (by decide +kernel)
theorem d14_44 : DC jdk_52_method_4_code 44 (.aload_n 0) 1 := fun h => hb h (by decide +kernel)
theorem d14_45 : DC jdk_52_method_4_code 45 (.iload_n 1) 1 := fun h => hb h (by decide +kernel)
theorem d14_46 : DC jdk_52_method_4_code 46 (.iload_n 2) 1 := fun h => hb h (by decide +kernel)
theorem d14_47 : DC jdk_52_method_4_code 47 (.getstatic 63) 3 := fun h => hb h (by decide +kernel)
theorem d14_50 : DC jdk_52_method_4_code 50 (.ishr) 1 := fun h => hb h (by decide +kernel)
theorem d14_51 : DC jdk_52_method_4_code 51 (.i2b) 1 := fun h => hb h (by decide +kernel)
theorem d14_52 : DC jdk_52_method_4_code 52 (.bastore) 1 := fun h => hb h (by decide +kernel)
theorem d14_53 : DC jdk_52_method_4_code 53 (.return_) 1 := fun h => hb h (by decide +kernel)
theorem d15_0 : DC jdk_52_method_5_code 0 (.getstatic 44) 3 := fun h => hb h (by decide +kernel)
theorem d15_3 : DC jdk_52_method_5_code 3 (.ifCond .ne 25) 3 := fun h => hb h (by decide +kernel)
theorem d15_28 : DC jdk_52_method_5_code 28 (.iload_n 1) 1 := fun h => hb h (by decide +kernel)
theorem d15_29 : DC jdk_52_method_5_code 29 (.iconst 1) 1 := fun h => hb h (by decide +kernel)
theorem d15_30 : DC jdk_52_method_5_code 30 (.ishl) 1 := fun h => hb h (by decide +kernel)
theorem d15_31 : DC jdk_52_method_5_code 31 (.istore_n 1) 1 := fun h => hb h (by decide +kernel)
theorem d15_32 : DC jdk_52_method_5_code 32 (.aload_n 0) 1 := fun h => hb h (by decide +kernel)
theorem d15_33 : DC jdk_52_method_5_code 33 (.iload_n 1) 1 := fun h => hb h (by decide +kernel)
theorem d15_34 : DC jdk_52_method_5_code 34 (.iinc 1 1) 3 := fun h => hb h (by decide +kernel)
theorem d15_37 : DC jdk_52_method_5_code 37 (.baload) 1 := fun h => hb h (by decide +kernel)
theorem d15_38 : DC jdk_52_method_5_code 38 (.sipush 255) 3 := fun h => hb h (by decide +kernel)
theorem d15_41 : DC jdk_52_method_5_code 41 (.iand) 1 := fun h => hb h (by decide +kernel)
theorem d15_42 : DC jdk_52_method_5_code 42 (.getstatic 59) 3 := fun h => hb h (by decide +kernel)
theorem d15_45 : DC jdk_52_method_5_code 45 (.ishl) 1 := fun h => hb h (by decide +kernel)
theorem d15_46 : DC jdk_52_method_5_code 46 (.aload_n 0) 1 := fun h => hb h (by decide +kernel)
theorem d15_47 : DC jdk_52_method_5_code 47 (.iload_n 1) 1 := fun h => hb h (by decide +kernel)
theorem d15_48 : DC jdk_52_method_5_code 48 (.baload) 1 := fun h => hb h (by decide +kernel)
theorem d15_49 : DC jdk_52_method_5_code 49 (.sipush 255) 3 := fun h => hb h (by decide +kernel)
theorem d15_52 : DC jdk_52_method_5_code 52 (.iand) 1 := fun h => hb h (by decide +kernel)
theorem d15_53 : DC jdk_52_method_5_code 53 (.getstatic 63) 3 := fun h => hb h (by decide +kernel)
theorem d15_56 : DC jdk_52_method_5_code 56 (.ishl) 1 := fun h => hb h (by decide +kernel)
theorem d15_57 : DC jdk_52_method_5_code 57 (.ior) 1 := fun h => hb h (by decide +kernel)
theorem d15_58 : DC jdk_52_method_5_code 58 (.i2c) 1 := fun h => hb h (by decide +kernel)
theorem d15_59 : DC jdk_52_method_5_code 59 (.ireturn) 1 := fun h => hb h (by decide +kernel)
theorem d22_0 : DC jdk_52_method_6_code 0 (.aload_n 0) 1 := fun h => hb h (by decide +kernel)
theorem d22_1 : DC jdk_52_method_6_code 1 (.arraylength) 1 := fun h => hb h (by decide +kernel)
theorem d22_2 : DC jdk_52_method_6_code 2 (.iconst 1) 1 := fun h => hb h (by decide +kernel)
theorem d22_3 : DC jdk_52_method_6_code 3 (.ishr) 1 := fun h => hb h (by decide +kernel)
theorem d22_4 : DC jdk_52_method_6_code 4 (.ireturn) 1 := fun h => hb h (by decide +kernel)
theorem d20_0 : DC jdk_52_method_83_code 0 (.iload_n 1) 1 := fun h => hb h (by decide +kernel)
theorem d20_1 : DC jdk_52_method_83_code 1 (.aload_n 0) 1 := fun h => hb h (by decide +kernel)
theorem d20_2 : DC jdk_52_method_83_code 2 (.invokestatic 67) 3 := fun h => hb h (by decide +kernel)
theorem d20_5 : DC jdk_52_method_83_code 5 (.aload_n 0) 1 := fun h => hb h (by decide +kernel)
theorem d20_6 : DC jdk_52_method_83_code 6 (.iload_n 1) 1 := fun h => hb h (by decide +kernel)
theorem d20_7 : DC jdk_52_method_83_code 7 (.invokestatic 71) 3 := fun h => hb h (by decide +kernel)
theorem d20_10 : DC jdk_52_method_83_code 10 (.ireturn) 1 := fun h => hb h (by decide +kernel)
theorem d21_0 : DC jdk_52_method_91_code 0 (.iload_n 0) 1 := fun h => hb h (by decide +kernel)
theorem d21_1 : DC jdk_52_method_91_code 1 (.aload_n 1) 1 := fun h => hb h (by decide +kernel)
theorem d21_2 : DC jdk_52_method_91_code 2 (.invokestatic 48) 3 := fun h => hb h (by decide +kernel)
theorem d21_5 : DC jdk_52_method_91_code 5 (.invokestatic 414) 3 := fun h => hb h (by decide +kernel)
theorem d21_8 : DC jdk_52_method_91_code 8 (.return_) 1 := fun h => hb h (by decide +kernel)
theorem d1_0 : DC method_3_code 0 (.iload_n 1) 1 := fun h => hb h (by decide +kernel)
theorem d1_1 : DC method_3_code 1 (.iload_n 2) 1 := fun h => hb h (by decide +kernel)
theorem d1_2 : DC method_3_code 2 (.iushr) 1 := fun h => hb h (by decide +kernel)
theorem d1_3 : DC method_3_code 3 (.iconst 1) 1 := fun h => hb h (by decide +kernel)
theorem d1_4 : DC method_3_code 4 (.iand) 1 := fun h => hb h (by decide +kernel)
theorem d1_5 : DC method_3_code 5 (.ifCond .eq 9) 3 := fun h => hb h (by decide +kernel)
theorem d1_8 : DC method_3_code 8 (.iload_n 0) 1 := fun h => hb h (by decide +kernel)
theorem d1_9 : DC method_3_code 9 (.bipush 127) 2 := fun h => hb h (by decide +kernel)
theorem d1_11 : DC method_3_code 11 (.iand) 1 := fun h => hb h (by decide +kernel)
theorem d1_12 : DC method_3_code 12 (.i2c) 1 := fun h => hb h (by decide +kernel)
theorem d1_13 : DC method_3_code 13 (.ireturn) 1 := fun h => hb h (by decide +kernel)
theorem d1_14 : DC method_3_code 14 (.iload_n 0) 1 := fun h => hb h (by decide +kernel)
theorem d1_15 : DC method_3_code 15 (.i2c) 1 := fun h => hb h (by decide +kernel)
theorem d1_16 : DC method_3_code 16 (.ireturn) 1 := fun h => hb h (by decide +kernel)
theorem d2_0 : DC method_4_code 0 (.iload_n 2) 1 := fun h => hb h (by decide +kernel)
theorem d2_1 : DC method_4_code 1 (.iload_n 3) 1 := fun h => hb h (by decide +kernel)
theorem d2_2 : DC method_4_code 2 (.iushr) 1 := fun h => hb h (by decide +kernel)
theorem d2_3 : DC method_4_code 3 (.iconst 3) 1 := fun h => hb h (by decide +kernel)
theorem d2_4 : DC method_4_code 4 (.iand) 1 := fun h => hb h (by decide +kernel)
theorem d2_5 : DC method_4_code 5 (.istore 4) 2 := fun h => hb h (by decide +kernel)
theorem d2_7 : DC method_4_code 7 (.iload 4) 2 := fun h => hb h (by decide +kernel)
theorem d2_9 : DC method_4_code 9 (.ifCond .ne 5) 3 := fun h => hb h (by decide +kernel)
theorem d2_12 : DC method_4_code 12 (.iload_n 0) 1 := fun h => hb h (by decide +kernel)
theorem d2_13 : DC method_4_code 13 (.ireturn) 1 := fun h => hb h (by decide +kernel)
theorem d2_14 : DC method_4_code 14 (.iload 4) 2 := fun h => hb h (by decide +kernel)
theorem d2_16 : DC method_4_code 16 (.iconst 1) 1 := fun h => hb h (by decide +kernel)
theorem d2_17 : DC method_4_code 17 (.if_icmp .ne 9) 3 := fun h => hb h (by decide +kernel)
theorem d2_20 : DC method_4_code 20 (.iload_n 0) 1 := fun h => hb h (by decide +kernel)
theorem d2_21 : DC method_4_code 21 (.bipush 32) 2 := fun h => hb h (by decide +kernel)
theorem d2_23 : DC method_4_code 23 (.ixor) 1 := fun h => hb h (by decide +kernel)
theorem d2_24 : DC method_4_code 24 (.i2c) 1 := fun h => hb h (by decide +kernel)
theorem d2_25 : DC method_4_code 25 (.ireturn) 1 := fun h => hb h (by decide +kernel)
theorem d2_26 : DC method_4_code 26 (.iload 4) 2 := fun h => hb h (by decide +kernel)
theorem d2_28 : DC method_4_code 28 (.iconst 2) 1 := fun h => hb h (by decide +kernel)
theorem d2_29 : DC method_4_code 29 (.if_icmp .ne 6) 3 := fun h => hb h (by decide +kernel)
theorem d2_32 : DC method_4_code 32 (.iload_n 1) 1 := fun h => hb h (by decide +kernel)
theorem d2_33 : DC method_4_code 33 (.i2c) 1 := fun h => hb h (by decide +kernel)
theorem d2_34 : DC method_4_code 34 (.ireturn) 1 := fun h => hb h (by decide +kernel)
theorem d2_35 : DC method_4_code 35 (.iload_n 1) 1 := fun h => hb h (by decide +kernel)
theorem d2_36 : DC method_4_code 36 (.bipush 127) 2 := fun h => hb h (by decide +kernel)
theorem d2_38 : DC method_4_code 38 (.iand) 1 := fun h => hb h (by decide +kernel)
theorem d2_39 : DC method_4_code 39 (.i2c) 1 := fun h => hb h (by decide +kernel)
theorem d2_40 : DC method_4_code 40 (.ireturn) 1 := fun h => hb h (by decide +kernel)
theorem d3_0 : DC method_5_code 0 (.iload_n 1) 1 := fun h => hb h (by decide +kernel)
theorem d3_1 : DC method_5_code 1 (.ifCond .ne 14) 3 := fun h => hb h (by decide +kernel)
theorem d3_4 : DC method_5_code 4 (.new 32) 3 := fun h => hb h (by decide +kernel)
theorem d3_7 : DC method_5_code 7 (.dup) 1 := fun h => hb h (by decide +kernel)
theorem d3_8 : DC method_5_code 8 (.iconst 0) 1 := fun h => hb h (by decide +kernel)
theorem d3_9 : DC method_5_code 9 (.newarray .char) 2 := fun h => hb h (by decide +kernel)
theorem d3_11 : DC method_5_code 11 (.invokespecial 34) 3 := fun h => hb h (by decide +kernel)
theorem d3_14 : DC method_5_code 14 (.areturn) 1 := fun h => hb h (by decide +kernel)
theorem d3_15 : DC method_5_code 15 (.iload_n 1) 1 := fun h => hb h (by decide +kernel)
theorem d3_16 : DC method_5_code 16 (.iconst 1) 1 := fun h => hb h (by decide +kernel)
theorem d3_17 : DC method_5_code 17 (.if_icmp .ne 20) 3 := fun h => hb h (by decide +kernel)
theorem d3_20 : DC method_5_code 20 (.new 32) 3 := fun h => hb h (by decide +kernel)
theorem d3_23 : DC method_5_code 23 (.dup) 1 := fun h => hb h (by decide +kernel)
theorem d3_24 : DC method_5_code 24 (.iconst 1) 1 := fun h => hb h (by decide +kernel)
theorem d3_25 : DC method_5_code 25 (.newarray .char) 2 := fun h => hb h (by decide +kernel)
theorem d3_27 : DC method_5_code 27 (.dup) 1 := fun h => hb h (by decide +kernel)
theorem d3_28 : DC method_5_code 28 (.iconst 0) 1 := fun h => hb h (by decide +kernel)
theorem d3_29 : DC method_5_code 29 (.aload_n 0) 1 := fun h => hb h (by decide +kernel)
theorem d3_30 : DC method_5_code 30 (.iconst 0) 1 := fun h => hb h (by decide +kernel)
theorem d3_31 : DC method_5_code 31 (.caload) 1 := fun h => hb h (by decide +kernel)
theorem d3_32 : DC method_5_code 32 (.castore) 1 := fun h => hb h (by decide +kernel)
theorem d3_33 : DC method_5_code 33 (.invokespecial 34) 3 := fun h => hb h (by decide +kernel)
theorem d3_36 : DC method_5_code 36 (.areturn) 1 := fun h => hb h (by decide +kernel)
theorem d3_37 : DC method_5_code 37 (.iload_n 1) 1 := fun h => hb h (by decide +kernel)
theorem d3_38 : DC method_5_code 38 (.iconst 2) 1 := fun h => hb h (by decide +kernel)
theorem d3_39 : DC method_5_code 39 (.if_icmp .ne 26) 3 := fun h => hb h (by decide +kernel)
theorem d3_42 : DC method_5_code 42 (.new 32) 3 := fun h => hb h (by decide +kernel)
theorem d3_45 : DC method_5_code 45 (.dup) 1 := fun h => hb h (by decide +kernel)
theorem d3_46 : DC method_5_code 46 (.iconst 2) 1 := fun h => hb h (by decide +kernel)
theorem d3_47 : DC method_5_code 47 (.newarray .char) 2 := fun h => hb h (by decide +kernel)
theorem d3_49 : DC method_5_code 49 (.dup) 1 := fun h => hb h (by decide +kernel)
theorem d3_50 : DC method_5_code 50 (.iconst 0) 1 := fun h => hb h (by decide +kernel)
theorem d3_51 : DC method_5_code 51 (.aload_n 0) 1 := fun h => hb h (by decide +kernel)
theorem d3_52 : DC method_5_code 52 (.iconst 0) 1 := fun h => hb h (by decide +kernel)
theorem d3_53 : DC method_5_code 53 (.caload) 1 := fun h => hb h (by decide +kernel)
theorem d3_54 : DC method_5_code 54 (.castore) 1 := fun h => hb h (by decide +kernel)
theorem d3_55 : DC method_5_code 55 (.dup) 1 := fun h => hb h (by decide +kernel)
theorem d3_56 : DC method_5_code 56 (.iconst 1) 1 := fun h => hb h (by decide +kernel)
theorem d3_57 : DC method_5_code 57 (.aload_n 0) 1 := fun h => hb h (by decide +kernel)
theorem d3_58 : DC method_5_code 58 (.iconst 1) 1 := fun h => hb h (by decide +kernel)
theorem d3_59 : DC method_5_code 59 (.caload) 1 := fun h => hb h (by decide +kernel)
theorem d3_60 : DC method_5_code 60 (.castore) 1 := fun h => hb h (by decide +kernel)
theorem d3_61 : DC method_5_code 61 (.invokespecial 34) 3 := fun h => hb h (by decide +kernel)
theorem d3_64 : DC method_5_code 64 (.areturn) 1 := fun h => hb h (by decide +kernel)
theorem d3_65 : DC method_5_code 65 (.iload_n 1) 1 := fun h => hb h (by decide +kernel)
theorem d3_66 : DC method_5_code 66 (.iconst 3) 1 := fun h => hb h (by decide +kernel)
theorem d3_67 : DC method_5_code 67 (.if_icmp .ne 32) 3 := fun h => hb h (by decide +kernel)
theorem d3_70 : DC method_5_code 70 (.new 32) 3 := fun h => hb h (by decide +kernel)
theorem d3_73 : DC method_5_code 73 (.dup) 1 := fun h => hb h (by decide +kernel)
theorem d3_74 : DC method_5_code 74 (.iconst 3) 1 := fun h => hb h (by decide +kernel)
theorem d3_75 : DC method_5_code 75 (.newarray .char) 2 := fun h => hb h (by decide +kernel)
theorem d3_77 : DC method_5_code 77 (.dup) 1 := fun h => hb h (by decide +kernel)
theorem d3_78 : DC method_5_code 78 (.iconst 0) 1 := fun h => hb h (by decide +kernel)
theorem d3_79 : DC method_5_code 79 (.aload_n 0) 1 := fun h => hb h (by decide +kernel)
theorem d3_80 : DC method_5_code 80 (.iconst 0) 1 := fun h => hb h (by decide +kernel)
theorem d3_81 : DC method_5_code 81 (.caload) 1 := fun h => hb h (by decide +kernel)
theorem d3_82 : DC method_5_code 82 (.castore) 1 := fun h => hb h (by decide +kernel)
theorem d3_83 : DC method_5_code 83 (.dup) 1 := fun h => hb h (by decide +kernel)
theorem d3_84 : DC method_5_code 84 (.iconst 1) 1 := fun h => hb h (by decide +kernel)
theorem d3_85 : DC method_5_code 85 (.aload_n 0) 1 := fun h => hb h (by decide +kernel)
theorem d3_86 : DC method_5_code 86 (.iconst 1) 1 := fun h => hb h (by decide +kernel)
theorem d3_87 : DC method_5_code 87 (.caload) 1 := fun h => hb h (by decide +kernel)
theorem d3_88 : DC method_5_code 88 (.castore) 1 := fun h => hb h (by decide +kernel)
theorem d3_89 : DC method_5_code 89 (.dup) 1 := fun h => hb h (by decide +kernel)
theorem d3_90 : DC method_5_code 90 (.iconst 2) 1 := fun h => hb h (by decide +kernel)
theorem d3_91 : DC method_5_code 91 (.aload_n 0) 1 := fun h => hb h (by decide +kernel)
theorem d3_92 : DC method_5_code 92 (.iconst 2) 1 := fun h => hb h (by decide +kernel)
theorem d3_93 : DC method_5_code 93 (.caload) 1 := fun h => hb h (by decide +kernel)
theorem d3_94 : DC method_5_code 94 (.castore) 1 := fun h => hb h (by decide +kernel)
theorem d3_95 : DC method_5_code 95 (.invokespecial 34) 3 := fun h => hb h (by decide +kernel)
theorem d3_98 : DC method_5_code 98 (.areturn) 1 := fun h => hb h (by decide +kernel)
theorem d3_99 : DC method_5_code 99 (.new 32) 3 := fun h => hb h (by decide +kernel)
theorem d3_102 : DC method_5_code 102 (.dup) 1 := fun h => hb h (by decide +kernel)
theorem d3_103 : DC method_5_code 103 (.iconst 4) 1 := fun h => hb h (by decide +kernel)
theorem d3_104 : DC method_5_code 104 (.newarray .char) 2 := fun h => hb h (by decide +kernel)
theorem d3_106 : DC method_5_code 106 (.dup) 1 := fun h => hb h (by decide +kernel)
theorem d3_107 : DC method_5_code 107 (.iconst 0) 1 := fun h => hb h (by decide +kernel)
theorem d3_108 : DC method_5_code 108 (.aload_n 0) 1 := fun h => hb h (by decide +kernel)
theorem d3_109 : DC method_5_code 109 (.iconst 0) 1 := fun h => hb h (by decide +kernel)
theorem d3_110 : DC method_5_code 110 (.caload) 1 := fun h => hb h (by decide +kernel)
theorem d3_111 : DC method_5_code 111 (.castore) 1 := fun h => hb h (by decide +kernel)
theorem d3_112 : DC method_5_code 112 (.dup) 1 := fun h => hb h (by decide +kernel)
theorem d3_113 : DC method_5_code 113 (.iconst 1) 1 := fun h => hb h (by decide +kernel)
theorem d3_114 : DC method_5_code 114 (.aload_n 0) 1 := fun h => hb h (by decide +kernel)
theorem d3_115 : DC method_5_code 115 (.iconst 1) 1 := fun h => hb h (by decide +kernel)
theorem d3_116 : DC method_5_code 116 (.caload) 1 := fun h => hb h (by decide +kernel)
theorem d3_117 : DC method_5_code 117 (.castore) 1 := fun h => hb h (by decide +kernel)
theorem d3_118 : DC method_5_code 118 (.dup) 1 := fun h => hb h (by decide +kernel)
theorem d3_119 : DC method_5_code 119 (.iconst 2) 1 := fun h => hb h (by decide +kernel)
theorem d3_120 : DC method_5_code 120 (.aload_n 0) 1 := fun h => hb h (by decide +kernel)
theorem d3_121 : DC method_5_code 121 (.iconst 2) 1 := fun h => hb h (by decide +kernel)
theorem d3_122 : DC method_5_code 122 (.caload) 1 := fun h => hb h (by decide +kernel)
theorem d3_123 : DC method_5_code 123 (.castore) 1 := fun h => hb h (by decide +kernel)
theorem d3_124 : DC method_5_code 124 (.dup) 1 := fun h => hb h (by decide +kernel)
theorem d3_125 : DC method_5_code 125 (.iconst 3) 1 := fun h => hb h (by decide +kernel)
theorem d3_126 : DC method_5_code 126 (.aload_n 0) 1 := fun h => hb h (by decide +kernel)
theorem d3_127 : DC method_5_code 127 (.iconst 3) 1 := fun h => hb h (by decide +kernel)
theorem d3_128 : DC method_5_code 128 (.caload) 1 := fun h => hb h (by decide +kernel)
theorem d3_129 : DC method_5_code 129 (.castore) 1 := fun h => hb h (by decide +kernel)
theorem d3_130 : DC method_5_code 130 (.invokespecial 34) 3 := fun h => hb h (by decide +kernel)
theorem d3_133 : DC method_5_code 133 (.areturn) 1 := fun h => hb h (by decide +kernel)
theorem d26_0 : DC method_6_code 0 (.iload_n 0) 1 := fun h => hb h (by decide +kernel)
theorem d26_1 : DC method_6_code 1 (.iload_n 1) 1 := fun h => hb h (by decide +kernel)
theorem d26_2 : DC method_6_code 2 (.if_icmp .ne 5) 3 := fun h => hb h (by decide +kernel)
theorem d26_5 : DC method_6_code 5 (.iconst 1) 1 := fun h => hb h (by decide +kernel)
theorem d26_6 : DC method_6_code 6 (.ireturn) 1 := fun h => hb h (by decide +kernel)
theorem d26_7 : DC method_6_code 7 (.iload_n 0) 1 := fun h => hb h (by decide +kernel)
theorem d26_8 : DC method_6_code 8 (.bipush 32) 2 := fun h => hb h (by decide +kernel)
theorem d26_10 : DC method_6_code 10 (.ior) 1 := fun h => hb h (by decide +kernel)
theorem d26_11 : DC method_6_code 11 (.istore_n 2) 1 := fun h => hb h (by decide +kernel)
theorem d26_12 : DC method_6_code 12 (.iload_n 0) 1 := fun h => hb h (by decide +kernel)
theorem d26_13 : DC method_6_code 13 (.iload_n 1) 1 := fun h => hb h (by decide +kernel)
theorem d26_14 : DC method_6_code 14 (.ixor) 1 := fun h => hb h (by decide +kernel)
theorem d26_15 : DC method_6_code 15 (.bipush 32) 2 := fun h => hb h (by decide +kernel)
theorem d26_17 : DC method_6_code 17 (.if_icmp .ne 19) 3 := fun h => hb h (by decide +kernel)
theorem d26_20 : DC method_6_code 20 (.iload_n 2) 1 := fun h => hb h (by decide +kernel)
theorem d26_21 : DC method_6_code 21 (.bipush 97) 2 := fun h => hb h (by decide +kernel)
theorem d26_23 : DC method_6_code 23 (.if_icmp .lt 13) 3 := fun h => hb h (by decide +kernel)
theorem d26_26 : DC method_6_code 26 (.iload_n 2) 1 := fun h => hb h (by decide +kernel)
theorem d26_27 : DC method_6_code 27 (.bipush 122) 2 := fun h => hb h (by decide +kernel)
theorem d26_29 : DC method_6_code 29 (.if_icmp .gt 7) 3 := fun h => hb h (by decide +kernel)
theorem d26_32 : DC method_6_code 32 (.iconst 1) 1 := fun h => hb h (by decide +kernel)
theorem d26_33 : DC method_6_code 33 (.goto 4) 3 := fun h => hb h (by decide +kernel)
theorem d26_36 : DC method_6_code 36 (.iconst 0) 1 := fun h => hb h (by decide +kernel)
theorem d26_37 : DC method_6_code 37 (.ireturn) 1 := fun h => hb h (by decide +kernel)
theorem d7_0 : DC prog_12_method_2_code 0 (.aload_n 1) 1 := fun h => hb h (by decide +kernel)
theorem d7_1 : DC prog_12_method_2_code 1 (.ifnull 14) 3 := fun h => hb h (by decide +kernel)
theorem d7_4 : DC prog_12_method_2_code 4 (.aload_n 0) 1 := fun h => hb h (by decide +kernel)
theorem d7_5 : DC prog_12_method_2_code 5 (.invokevirtual 7) 3 := fun h => hb h (by decide +kernel)
theorem d7_8 : DC prog_12_method_2_code 8 (.aload_n 1) 1 := fun h => hb h (by decide +kernel)
theorem d7_9 : DC prog_12_method_2_code 9 (.invokevirtual 7) 3 := fun h => hb h (by decide +kernel)
theorem d7_12 : DC prog_12_method_2_code 12 (.if_icmp .eq 5) 3 := fun h => hb h (by decide +kernel)
theorem d7_15 : DC prog_12_method_2_code 15 (.iconst 0) 1 := fun h => hb h (by decide +kernel)
theorem d7_16 : DC prog_12_method_2_code 16 (.ireturn) 1 := fun h => hb h (by decide +kernel)
theorem d7_17 : DC prog_12_method_2_code 17 (.iconst 1) 1 := fun h => hb h (by decide +kernel)
theorem d7_18 : DC prog_12_method_2_code 18 (.istore_n 2) 1 := fun h => hb h (by decide +kernel)
theorem d7_19 : DC prog_12_method_2_code 19 (.iconst 0) 1 := fun h => hb h (by decide +kernel)
theorem d7_20 : DC prog_12_method_2_code 20 (.istore_n 3) 1 := fun h => hb h (by decide +kernel)
theorem d7_21 : DC prog_12_method_2_code 21 (.iload_n 2) 1 := fun h => hb h (by decide +kernel)
theorem d7_22 : DC prog_12_method_2_code 22 (.ifCond .eq 42) 3 := fun h => hb h (by decide +kernel)
theorem d7_25 : DC prog_12_method_2_code 25 (.iload_n 3) 1 := fun h => hb h (by decide +kernel)
theorem d7_26 : DC prog_12_method_2_code 26 (.aload_n 0) 1 := fun h => hb h (by decide +kernel)
theorem d7_27 : DC prog_12_method_2_code 27 (.invokevirtual 7) 3 := fun h => hb h (by decide +kernel)
theorem d7_30 : DC prog_12_method_2_code 30 (.if_icmp .ge 34) 3 := fun h => hb h (by decide +kernel)
theorem d7_33 : DC prog_12_method_2_code 33 (.aload_n 0) 1 := fun h => hb h (by decide +kernel)
theorem d7_34 : DC prog_12_method_2_code 34 (.iload_n 3) 1 := fun h => hb h (by decide +kernel)
theorem d7_35 : DC prog_12_method_2_code 35 (.invokevirtual 13) 3 := fun h => hb h (by decide +kernel)
theorem d7_38 : DC prog_12_method_2_code 38 (.invokestatic 17) 3 := fun h => hb h (by decide +kernel)
theorem d7_41 : DC prog_12_method_2_code 41 (.aload_n 1) 1 := fun h => hb h (by decide +kernel)
theorem d7_42 : DC prog_12_method_2_code 42 (.iload_n 3) 1 := fun h => hb h (by decide +kernel)
theorem d7_43 : DC prog_12_method_2_code 43 (.invokevirtual 13) 3 := fun h => hb h (by decide +kernel)
theorem d7_46 : DC prog_12_method_2_code 46 (.invokestatic 17) 3 := fun h => hb h (by decide +kernel)
theorem d7_49 : DC prog_12_method_2_code 49 (.if_icmp .ne 7) 3 := fun h => hb h (by decide +kernel)
theorem d7_52 : DC prog_12_method_2_code 52 (.iconst 1) 1 := fun h => hb h (by decide +kernel)
theorem d7_53 : DC prog_12_method_2_code 53 (.goto 4) 3 := fun h => hb h (by decide +kernel)
theorem d7_56 : DC prog_12_method_2_code 56 (.iconst 0) 1 := fun h => hb h (by decide +kernel)
theorem d7_57 : DC prog_12_method_2_code 57 (.istore_n 2) 1 := fun h => hb h (by decide +kernel)
theorem d7_58 : DC prog_12_method_2_code 58 (.iinc 3 1) 3 := fun h => hb h (by decide +kernel)
theorem d7_61 : DC prog_12_method_2_code 61 (.goto (-40)) 3 := fun h => hb h (by decide +kernel)
theorem d7_64 : DC prog_12_method_2_code 64 (.iload_n 2) 1 := fun h => hb h (by decide +kernel)
theorem d7_65 : DC prog_12_method_2_code 65 (.ireturn) 1 := fun h => hb h (by decide +kernel)
theorem d25_0 : DC prog_12_method_5_code 0 (.iload_n 0) 1 := fun h => hb h (by decide +kernel)
theorem d25_1 : DC prog_12_method_5_code 1 (.bipush 65) 2 := fun h => hb h (by decide +kernel)
theorem d25_3 : DC prog_12_method_5_code 3 (.if_icmp .lt 20) 3 := fun h => hb h (by decide +kernel)
theorem d25_6 : DC prog_12_method_5_code 6 (.iload_n 0) 1 := fun h => hb h (by decide +kernel)
theorem d25_7 : DC prog_12_method_5_code 7 (.bipush 90) 2 := fun h => hb h (by decide +kernel)
theorem d25_9 : DC prog_12_method_5_code 9 (.if_icmp .gt 14) 3 := fun h => hb h (by decide +kernel)
theorem d25_12 : DC prog_12_method_5_code 12 (.iload_n 0) 1 := fun h => hb h (by decide +kernel)
theorem d25_13 : DC prog_12_method_5_code 13 (.bipush 65) 2 := fun h => hb h (by decide +kernel)
theorem d25_15 : DC prog_12_method_5_code 15 (.isub) 1 := fun h => hb h (by decide +kernel)
theorem d25_16 : DC prog_12_method_5_code 16 (.bipush 97) 2 := fun h => hb h (by decide +kernel)
theorem d25_18 : DC prog_12_method_5_code 18 (.iadd) 1 := fun h => hb h (by decide +kernel)
theorem d25_19 : DC prog_12_method_5_code 19 (.i2c) 1 := fun h => hb h (by decide +kernel)
theorem d25_20 : DC prog_12_method_5_code 20 (.goto 4) 3 := fun h => hb h (by decide +kernel)
theorem d25_23 : DC prog_12_method_5_code 23 (.iload_n 0) 1 := fun h => hb h (by decide +kernel)
theorem d25_24 : DC prog_12_method_5_code 24 (.ireturn) 1 := fun h => hb h (by decide +kernel)
theorem pn_0 : plainName "com/example/runnymede/runnymede/AsciiEqualsIgnoreCasePinLaw" = true := by first | (simp [plainName, overriddenIn]; done) | decide +kernel
theorem pn_1 : plainName "com/example/runnymede/runnymede/Ascii" = true := by first | (simp [plainName, overriddenIn]; done) | decide +kernel
theorem pn_2 : plainName "java/lang/String" = true := by first | (simp [plainName, overriddenIn]; done) | decide +kernel
theorem pn_3 : plainName "java/lang/StringUTF16" = true := by first | (simp [plainName, overriddenIn]; done) | decide +kernel
theorem pn_4 : plainName "jdk/internal/util/Preconditions" = true := by first | (simp [plainName, overriddenIn]; done) | decide +kernel
theorem pn_5 : plainName "java/lang/StringLatin1" = true := by first | (simp [plainName, overriddenIn]; done) | decide +kernel
theorem pd_0 : parseMethodDescriptor "(III)C" = some ⟨[.int, .int, .int], some .char⟩ := by decide +kernel
theorem pd_1 : parseMethodDescriptor "(CIII)C" = some ⟨[.char, .int, .int, .int], some .char⟩ := by decide +kernel
theorem pd_2 : parseMethodDescriptor "([CIILjava/lang/Void;)V" = some ⟨[(.array .char), .int, .int, (.object "java/lang/Void")], none⟩ := by decide +kernel
theorem pd_3 : parseMethodDescriptor "([C)V" = some ⟨[(.array .char)], none⟩ := by decide +kernel
theorem pd_4 : parseMethodDescriptor "([CI[BII)I" = some ⟨[(.array .char), .int, (.array .byte), .int, .int], some .int⟩ := by decide +kernel
theorem pd_5 : parseMethodDescriptor "(I)I" = some ⟨[.int], some .int⟩ := by decide +kernel
theorem pd_6 : parseMethodDescriptor "(I)[B" = some ⟨[.int], some (.array .byte)⟩ := by decide +kernel
theorem pd_7 : parseMethodDescriptor "([BII)V" = some ⟨[(.array .byte), .int, .int], none⟩ := by decide +kernel
theorem pd_8 : parseMethodDescriptor "([CII)[B" = some ⟨[(.array .char), .int, .int], some (.array .byte)⟩ := by decide +kernel
theorem pd_9 : parseMethodDescriptor "([BI)C" = some ⟨[(.array .byte), .int], some .char⟩ := by decide +kernel
theorem pd_10 : parseMethodDescriptor "([BI)B" = some ⟨[(.array .byte), .int], some .byte⟩ := by decide +kernel
theorem pd_11 : parseMethodDescriptor "([CI)Ljava/lang/String;" = some ⟨[(.array .char), .int], some (.object "java/lang/String")⟩ := by decide +kernel
theorem pd_12 : parseMethodDescriptor "(Ljava/lang/String;Ljava/lang/String;)Z" = some ⟨[(.object "java/lang/String"), (.object "java/lang/String")], some .boolean⟩ := by decide +kernel
theorem pd_13 : parseMethodDescriptor "()B" = some ⟨[], some .byte⟩ := by decide +kernel
theorem pd_14 : parseMethodDescriptor "()I" = some ⟨[], some .int⟩ := by decide +kernel
theorem pd_15 : parseMethodDescriptor "()Z" = some ⟨[], some .boolean⟩ := by decide +kernel
theorem pd_16 : parseMethodDescriptor "(IILjava/util/function/BiFunction;)I" = some ⟨[.int, .int, (.object "java/util/function/BiFunction")], some .int⟩ := by decide +kernel
theorem pd_17 : parseMethodDescriptor "(II)V" = some ⟨[.int, .int], none⟩ := by decide +kernel
theorem pd_18 : parseMethodDescriptor "([B)I" = some ⟨[(.array .byte)], some .int⟩ := by decide +kernel
theorem pd_19 : parseMethodDescriptor "(I[B)V" = some ⟨[.int, (.array .byte)], none⟩ := by decide +kernel
theorem pd_20 : parseMethodDescriptor "(I)C" = some ⟨[.int], some .char⟩ := by decide +kernel
theorem pd_21 : parseMethodDescriptor "(C)C" = some ⟨[.char], some .char⟩ := by decide +kernel
theorem pd_22 : parseMethodDescriptor "(CC)Z" = some ⟨[.char, .char], some .boolean⟩ := by decide +kernel
theorem wd_0 : WD (Jvm.Cond.arrayClass Jvm.ClassFile.FieldType.char) := own_wd 0 rfl
theorem wd_1 : WD (Jvm.Cond.constant "com/example/runnymede/runnymede/AsciiEqualsIgnoreCasePinLaw" (7 : Nat) (65535 : Int32)) := own_wd 1 rfl
theorem wd_2 : WD (Jvm.Cond.methodLink "com/example/runnymede/runnymede/AsciiEqualsIgnoreCasePinLaw" (8 : Nat) ({ cls := "com/example/runnymede/runnymede/AsciiEqualsIgnoreCasePinLaw", name := "draw", desc := "(III)C" } : Jvm.MethodName)) := own_wd 2 rfl
theorem wd_3 : WD (Jvm.Cond.static ({ cls := "com/example/runnymede/runnymede/AsciiEqualsIgnoreCasePinLaw", name := "draw", desc := "(III)C" } : Jvm.MethodName)) := own_wd 3 rfl
theorem wd_4 : WD (Jvm.Cond.initialized "com/example/runnymede/runnymede/AsciiEqualsIgnoreCasePinLaw") := own_wd 4 rfl
theorem wd_5 : WD (Jvm.Cond.code ({ cls := "com/example/runnymede/runnymede/AsciiEqualsIgnoreCasePinLaw", name := "draw", desc := "(III)C" } : Jvm.MethodName) method_3_code (3 : Nat) (Option.some Jvm.ClassFile.FieldType.char)) := own_wd 5 rfl
theorem wd_6 : WD (Jvm.Cond.methodLink "com/example/runnymede/runnymede/AsciiEqualsIgnoreCasePinLaw" (14 : Nat) ({ cls := "com/example/runnymede/runnymede/AsciiEqualsIgnoreCasePinLaw", name := "derive", desc := "(CIII)C" } : Jvm.MethodName)) := own_wd 6 rfl
theorem wd_7 : WD (Jvm.Cond.static ({ cls := "com/example/runnymede/runnymede/AsciiEqualsIgnoreCasePinLaw", name := "derive", desc := "(CIII)C" } : Jvm.MethodName)) := own_wd 7 rfl
theorem wd_8 : WD (Jvm.Cond.code ({ cls := "com/example/runnymede/runnymede/AsciiEqualsIgnoreCasePinLaw", name := "derive", desc := "(CIII)C" } : Jvm.MethodName) method_4_code (5 : Nat) (Option.some Jvm.ClassFile.FieldType.char)) := own_wd 8 rfl
theorem wd_9 : WD (Jvm.Cond.methodLink "com/example/runnymede/runnymede/AsciiEqualsIgnoreCasePinLaw" (18 : Nat) ({ cls := "com/example/runnymede/runnymede/AsciiEqualsIgnoreCasePinLaw", name := "make", desc := "([CI)Ljava/lang/String;" } : Jvm.MethodName)) := own_wd 9 rfl
theorem wd_10 : WD (Jvm.Cond.static ({ cls := "com/example/runnymede/runnymede/AsciiEqualsIgnoreCasePinLaw", name := "make", desc := "([CI)Ljava/lang/String;" } : Jvm.MethodName)) := own_wd 10 rfl
theorem wd_11 : WD (Jvm.Cond.code ({ cls := "com/example/runnymede/runnymede/AsciiEqualsIgnoreCasePinLaw", name := "make", desc := "([CI)Ljava/lang/String;" } : Jvm.MethodName) method_5_code (2 : Nat) (Option.some (Jvm.ClassFile.FieldType.object kc0))) := own_wd 11 rfl
theorem wd_12 : WD (Jvm.Cond.classLink "com/example/runnymede/runnymede/AsciiEqualsIgnoreCasePinLaw" (32 : Nat) kc0) := own_wd 12 rfl
theorem wd_13 : WD (Jvm.Cond.instantiable kc0 (4 : Nat)) := own_wd 13 rfl
theorem wd_14 : WD (Jvm.Cond.initialized kc0) := own_wd 14 rfl
theorem wd_15 : WD (Jvm.Cond.methodLink "com/example/runnymede/runnymede/AsciiEqualsIgnoreCasePinLaw" (34 : Nat) ({ cls := kc0, name := "<init>", desc := "([C)V" } : Jvm.MethodName)) := own_wd 15 rfl
theorem wd_16 : WD (Jvm.Cond.instanceMethod ({ cls := kc0, name := "<init>", desc := "([C)V" } : Jvm.MethodName)) := own_wd 16 rfl
theorem wd_17 : WD (Jvm.Cond.code ({ cls := kc0, name := "<init>", desc := "([C)V" } : Jvm.MethodName) jdk_42_method_3_code (2 : Nat) (Option.none : Option Jvm.ClassFile.FieldType)) := own_wd 17 rfl
theorem wd_18 : WD (Jvm.Cond.methodLink kc0 (27 : Nat) ({ cls := kc0, name := "<init>", desc := "([CIILjava/lang/Void;)V" } : Jvm.MethodName)) := own_wd 18 rfl
theorem wd_19 : WD (Jvm.Cond.instanceMethod ({ cls := kc0, name := "<init>", desc := "([CIILjava/lang/Void;)V" } : Jvm.MethodName)) := own_wd 19 rfl
theorem wd_21 : WD (Jvm.Cond.code ({ cls := kc0, name := "<init>", desc := "([CIILjava/lang/Void;)V" } : Jvm.MethodName) jdk_42_method_149_code (6 : Nat) (Option.none : Option Jvm.ClassFile.FieldType)) := own_wd 21 rfl
theorem wd_22 : WD (Jvm.Cond.methodLink kc0 (1 : Nat) ({ cls := "java/lang/Object", name := "<init>", desc := "()V" } : Jvm.MethodName)) := own_wd 22 rfl
theorem wd_23 : WD (Jvm.Cond.instanceMethod ({ cls := "java/lang/Object", name := "<init>", desc := "()V" } : Jvm.MethodName)) := own_wd 23 rfl
theorem wd_24 : WD (Jvm.Cond.code ({ cls := "java/lang/Object", name := "<init>", desc := "()V" } : Jvm.MethodName) object_method_1_code (1 : Nat) (Option.none : Option Jvm.ClassFile.FieldType)) := own_wd 24 rfl
theorem wd_25 : WD (Jvm.Cond.stringLink kc0 (7 : Nat) "") := own_wd 25 rfl
theorem wd_26 : WD (Jvm.Cond.arrayClass Jvm.ClassFile.FieldType.byte) := own_wd 26 rfl
theorem wd_27 : WD (Jvm.Cond.laysFinal kc0 kc0 "value" "[B") := own_wd 27 rfl
theorem wd_28 : WD (Jvm.Cond.laysFinal kc0 kc0 "coder" "B") := own_wd 28 rfl
theorem wd_31 : WD (Jvm.Cond.fieldLink kc0 (9 : Nat) kc0 "value" "[B") := own_wd 31 rfl
theorem wd_32 : WD (Jvm.Cond.fieldLink kc0 (15 : Nat) kc0 "coder" "B") := own_wd 32 rfl
theorem wd_33 : WD (Jvm.Cond.methodLink "com/example/runnymede/runnymede/AsciiEqualsIgnoreCasePinLaw" (22 : Nat) ({ cls := "com/example/runnymede/runnymede/Ascii", name := "equalsIgnoreCase", desc := "(Ljava/lang/String;Ljava/lang/String;)Z" } : Jvm.MethodName)) := own_wd 33 rfl
theorem wd_34 : WD (Jvm.Cond.static ({ cls := "com/example/runnymede/runnymede/Ascii", name := "equalsIgnoreCase", desc := "(Ljava/lang/String;Ljava/lang/String;)Z" } : Jvm.MethodName)) := own_wd 34 rfl
theorem wd_35 : WD (Jvm.Cond.initialized "com/example/runnymede/runnymede/Ascii") := own_wd 35 rfl
theorem wd_36 : WD (Jvm.Cond.code ({ cls := "com/example/runnymede/runnymede/Ascii", name := "equalsIgnoreCase", desc := "(Ljava/lang/String;Ljava/lang/String;)Z" } : Jvm.MethodName) prog_12_method_2_code (4 : Nat) (Option.some Jvm.ClassFile.FieldType.boolean)) := own_wd 36 rfl
theorem wd_37 : WD (Jvm.Cond.fieldLink kc0 (38 : Nat) kc0 "COMPACT_STRINGS" "Z") := own_wd 37 rfl
theorem wd_38 : WD (Jvm.Cond.methodLink kc0 (177 : Nat) ({ cls := kc1, name := "compress", desc := "([CII)[B" } : Jvm.MethodName)) := own_wd 38 rfl
theorem wd_39 : WD (Jvm.Cond.static ({ cls := kc1, name := "compress", desc := "([CII)[B" } : Jvm.MethodName)) := own_wd 39 rfl
theorem wd_40 : WD (Jvm.Cond.initialized kc1) := own_wd 40 rfl
theorem wd_41 : WD (Jvm.Cond.code ({ cls := kc1, name := "compress", desc := "([CII)[B" } : Jvm.MethodName) jdk_52_method_16_code (6 : Nat) (Option.some (Jvm.ClassFile.FieldType.array Jvm.ClassFile.FieldType.byte))) := own_wd 41 rfl
theorem wd_42 : WD (Jvm.Cond.methodLink kc1 (115 : Nat) ({ cls := kc1, name := "compress", desc := "([CI[BII)I" } : Jvm.MethodName)) := own_wd 42 rfl
theorem wd_43 : WD (Jvm.Cond.static ({ cls := kc1, name := "compress", desc := "([CI[BII)I" } : Jvm.MethodName)) := own_wd 43 rfl
theorem wd_44 : WD (Jvm.Cond.code ({ cls := kc1, name := "compress", desc := "([CI[BII)I" } : Jvm.MethodName) jdk_52_method_21_code (7 : Nat) (Option.some Jvm.ClassFile.FieldType.int)) := own_wd 44 rfl
theorem wd_45 : WD (Jvm.Cond.methodLink kc0 (47 : Nat) ({ cls := kc1, name := "coderFromArrayLen", desc := "([BI)B" } : Jvm.MethodName)) := own_wd 45 rfl
theorem wd_46 : WD (Jvm.Cond.static ({ cls := kc1, name := "coderFromArrayLen", desc := "([BI)B" } : Jvm.MethodName)) := own_wd 46 rfl
theorem wd_47 : WD (Jvm.Cond.code ({ cls := kc1, name := "coderFromArrayLen", desc := "([BI)B" } : Jvm.MethodName) jdk_52_method_15_code (2 : Nat) (Option.some Jvm.ClassFile.FieldType.byte)) := own_wd 47 rfl
theorem wd_48 : WD (Jvm.Cond.methodLink kc1 (119 : Nat) ({ cls := kc1, name := "toBytes", desc := "([CII)[B" } : Jvm.MethodName)) := own_wd 48 rfl
theorem wd_49 : WD (Jvm.Cond.static ({ cls := kc1, name := "toBytes", desc := "([CII)[B" } : Jvm.MethodName)) := own_wd 49 rfl
theorem wd_50 : WD (Jvm.Cond.code ({ cls := kc1, name := "toBytes", desc := "([CII)[B" } : Jvm.MethodName) jdk_52_method_14_code (5 : Nat) (Option.some (Jvm.ClassFile.FieldType.array Jvm.ClassFile.FieldType.byte))) := own_wd 50 rfl
theorem wd_51 : WD (Jvm.Cond.methodLink kc1 (107 : Nat) ({ cls := kc1, name := "newBytesFor", desc := "(I)[B" } : Jvm.MethodName)) := own_wd 51 rfl
theorem wd_52 : WD (Jvm.Cond.static ({ cls := kc1, name := "newBytesFor", desc := "(I)[B" } : Jvm.MethodName)) := own_wd 52 rfl
theorem wd_53 : WD (Jvm.Cond.code ({ cls := kc1, name := "newBytesFor", desc := "(I)[B" } : Jvm.MethodName) jdk_52_method_2_code (1 : Nat) (Option.some (Jvm.ClassFile.FieldType.array Jvm.ClassFile.FieldType.byte))) := own_wd 53 rfl
theorem wd_54 : WD (Jvm.Cond.methodLink kc1 (11 : Nat) ({ cls := kc1, name := "newBytesLength", desc := "(I)I" } : Jvm.MethodName)) := own_wd 54 rfl
theorem wd_55 : WD (Jvm.Cond.static ({ cls := kc1, name := "newBytesLength", desc := "(I)I" } : Jvm.MethodName)) := own_wd 55 rfl
theorem wd_56 : WD (Jvm.Cond.code ({ cls := kc1, name := "newBytesLength", desc := "(I)I" } : Jvm.MethodName) jdk_52_method_3_code (1 : Nat) (Option.some Jvm.ClassFile.FieldType.int)) := own_wd 56 rfl
theorem wd_57 : WD (Jvm.Cond.constant kc1 (20 : Nat) (1073741823 : Int32)) := own_wd 57 rfl
theorem wd_58 : WD (Jvm.Cond.methodLink kc1 (111 : Nat) ({ cls := kc1, name := "putChar", desc := "([BII)V" } : Jvm.MethodName)) := own_wd 58 rfl
theorem wd_59 : WD (Jvm.Cond.static ({ cls := kc1, name := "putChar", desc := "([BII)V" } : Jvm.MethodName)) := own_wd 59 rfl
theorem wd_60 : WD (Jvm.Cond.code ({ cls := kc1, name := "putChar", desc := "([BII)V" } : Jvm.MethodName) jdk_52_method_4_code (3 : Nat) (Option.none : Option Jvm.ClassFile.FieldType)) := own_wd 60 rfl
theorem wd_61 : WD (Jvm.Cond.fieldLink kc1 (44 : Nat) kc1 "$assertionsDisabled" "Z") := own_wd 61 rfl
theorem wd_62 : WD (Jvm.Cond.fieldLink kc1 (59 : Nat) kc1 "HI_BYTE_SHIFT" "I") := own_wd 62 rfl
theorem wd_63 : WD (Jvm.Cond.fieldLink kc1 (63 : Nat) kc1 "LO_BYTE_SHIFT" "I") := own_wd 63 rfl
theorem wd_64 : WD (Jvm.Cond.methodLink kc1 (71 : Nat) ({ cls := kc1, name := "getChar", desc := "([BI)C" } : Jvm.MethodName)) := own_wd 64 rfl
theorem wd_65 : WD (Jvm.Cond.static ({ cls := kc1, name := "getChar", desc := "([BI)C" } : Jvm.MethodName)) := own_wd 65 rfl
theorem wd_66 : WD (Jvm.Cond.code ({ cls := kc1, name := "getChar", desc := "([BI)C" } : Jvm.MethodName) jdk_52_method_5_code (2 : Nat) (Option.some Jvm.ClassFile.FieldType.char)) := own_wd 66 rfl
theorem wd_67 : WD (Jvm.Cond.methodLink "com/example/runnymede/runnymede/Ascii" (7 : Nat) ({ cls := kc0, name := "length", desc := "()I" } : Jvm.MethodName)) := own_wd 67 rfl
theorem wd_68 : WD (Jvm.Cond.declares ({ cls := kc0, name := "length", desc := "()I" } : Jvm.MethodName)) := own_wd 68 rfl
theorem wd_69 : WD (Jvm.Cond.instanceMethod ({ cls := kc0, name := "length", desc := "()I" } : Jvm.MethodName)) := own_wd 69 rfl
theorem wd_70 : WD (Jvm.Cond.selects kc0 ({ cls := kc0, name := "length", desc := "()I" } : Jvm.MethodName) ({ cls := kc0, name := "length", desc := "()I" } : Jvm.MethodName)) := own_wd 70 rfl
theorem wd_71 : WD (Jvm.Cond.code ({ cls := kc0, name := "length", desc := "()I" } : Jvm.MethodName) jdk_42_method_54_code (1 : Nat) (Option.some Jvm.ClassFile.FieldType.int)) := own_wd 71 rfl
theorem wd_72 : WD (Jvm.Cond.methodLink kc0 (335 : Nat) ({ cls := kc0, name := "coder", desc := "()B" } : Jvm.MethodName)) := own_wd 72 rfl
theorem wd_73 : WD (Jvm.Cond.declares ({ cls := kc0, name := "coder", desc := "()B" } : Jvm.MethodName)) := own_wd 73 rfl
theorem wd_74 : WD (Jvm.Cond.instanceMethod ({ cls := kc0, name := "coder", desc := "()B" } : Jvm.MethodName)) := own_wd 74 rfl
theorem wd_75 : WD (Jvm.Cond.selects kc0 ({ cls := kc0, name := "coder", desc := "()B" } : Jvm.MethodName) ({ cls := kc0, name := "coder", desc := "()B" } : Jvm.MethodName)) := own_wd 75 rfl
theorem wd_76 : WD (Jvm.Cond.code ({ cls := kc0, name := "coder", desc := "()B" } : Jvm.MethodName) jdk_42_method_152_code (1 : Nat) (Option.some Jvm.ClassFile.FieldType.byte)) := own_wd 76 rfl
theorem wd_77 : WD (Jvm.Cond.methodLink "com/example/runnymede/runnymede/Ascii" (13 : Nat) ({ cls := kc0, name := "charAt", desc := "(I)C" } : Jvm.MethodName)) := own_wd 77 rfl
theorem wd_78 : WD (Jvm.Cond.declares ({ cls := kc0, name := "charAt", desc := "(I)C" } : Jvm.MethodName)) := own_wd 78 rfl
theorem wd_79 : WD (Jvm.Cond.instanceMethod ({ cls := kc0, name := "charAt", desc := "(I)C" } : Jvm.MethodName)) := own_wd 79 rfl
theorem wd_80 : WD (Jvm.Cond.selects kc0 ({ cls := kc0, name := "charAt", desc := "(I)C" } : Jvm.MethodName) ({ cls := kc0, name := "charAt", desc := "(I)C" } : Jvm.MethodName)) := own_wd 80 rfl
theorem wd_81 : WD (Jvm.Cond.code ({ cls := kc0, name := "charAt", desc := "(I)C" } : Jvm.MethodName) jdk_42_method_56_code (2 : Nat) (Option.some Jvm.ClassFile.FieldType.char)) := own_wd 81 rfl
theorem wd_82 : WD (Jvm.Cond.methodLink kc0 (492 : Nat) ({ cls := kc0, name := "isLatin1", desc := "()Z" } : Jvm.MethodName)) := own_wd 82 rfl
theorem wd_83 : WD (Jvm.Cond.declares ({ cls := kc0, name := "isLatin1", desc := "()Z" } : Jvm.MethodName)) := own_wd 83 rfl
theorem wd_84 : WD (Jvm.Cond.instanceMethod ({ cls := kc0, name := "isLatin1", desc := "()Z" } : Jvm.MethodName)) := own_wd 84 rfl
theorem wd_85 : WD (Jvm.Cond.selects kc0 ({ cls := kc0, name := "isLatin1", desc := "()Z" } : Jvm.MethodName) ({ cls := kc0, name := "isLatin1", desc := "()Z" } : Jvm.MethodName)) := own_wd 85 rfl
theorem wd_86 : WD (Jvm.Cond.code ({ cls := kc0, name := "isLatin1", desc := "()Z" } : Jvm.MethodName) jdk_42_method_154_code (1 : Nat) (Option.some Jvm.ClassFile.FieldType.boolean)) := own_wd 86 rfl
theorem wd_87 : WD (Jvm.Cond.methodLink kc0 (498 : Nat) ({ cls := kc1, name := "charAt", desc := "([BI)C" } : Jvm.MethodName)) := own_wd 87 rfl
theorem wd_88 : WD (Jvm.Cond.static ({ cls := kc1, name := "charAt", desc := "([BI)C" } : Jvm.MethodName)) := own_wd 88 rfl
theorem wd_89 : WD (Jvm.Cond.code ({ cls := kc1, name := "charAt", desc := "([BI)C" } : Jvm.MethodName) jdk_52_method_83_code (2 : Nat) (Option.some Jvm.ClassFile.FieldType.char)) := own_wd 89 rfl
theorem wd_90 : WD (Jvm.Cond.methodLink kc1 (67 : Nat) ({ cls := kc1, name := "checkIndex", desc := "(I[B)V" } : Jvm.MethodName)) := own_wd 90 rfl
theorem wd_91 : WD (Jvm.Cond.static ({ cls := kc1, name := "checkIndex", desc := "(I[B)V" } : Jvm.MethodName)) := own_wd 91 rfl
theorem wd_92 : WD (Jvm.Cond.code ({ cls := kc1, name := "checkIndex", desc := "(I[B)V" } : Jvm.MethodName) jdk_52_method_91_code (2 : Nat) (Option.none : Option Jvm.ClassFile.FieldType)) := own_wd 92 rfl
theorem wd_93 : WD (Jvm.Cond.methodLink kc1 (48 : Nat) ({ cls := kc1, name := "length", desc := "([B)I" } : Jvm.MethodName)) := own_wd 93 rfl
theorem wd_94 : WD (Jvm.Cond.static ({ cls := kc1, name := "length", desc := "([B)I" } : Jvm.MethodName)) := own_wd 94 rfl
theorem wd_95 : WD (Jvm.Cond.code ({ cls := kc1, name := "length", desc := "([B)I" } : Jvm.MethodName) jdk_52_method_6_code (1 : Nat) (Option.some Jvm.ClassFile.FieldType.int)) := own_wd 95 rfl
theorem wd_96 : WD (Jvm.Cond.methodLink kc1 (414 : Nat) ({ cls := kc0, name := "checkIndex", desc := "(II)V" } : Jvm.MethodName)) := own_wd 96 rfl
theorem wd_97 : WD (Jvm.Cond.static ({ cls := kc0, name := "checkIndex", desc := "(II)V" } : Jvm.MethodName)) := own_wd 97 rfl
theorem wd_98 : WD (Jvm.Cond.code ({ cls := kc0, name := "checkIndex", desc := "(II)V" } : Jvm.MethodName) jdk_42_method_155_code (2 : Nat) (Option.none : Option Jvm.ClassFile.FieldType)) := own_wd 98 rfl
theorem wd_99 : WD (Jvm.Cond.fieldLink kc0 (1053 : Nat) kc2 "SIOOBE_FORMATTER" "Ljava/util/function/BiFunction;") := own_wd 99 rfl
theorem wd_100 : WD (Jvm.Cond.initialized kc2) := own_wd 100 rfl
theorem wd_101 : WD (Jvm.Cond.methodLink kc0 (1059 : Nat) ({ cls := kc2, name := "checkIndex", desc := "(IILjava/util/function/BiFunction;)I" } : Jvm.MethodName)) := own_wd 101 rfl
theorem wd_102 : WD (Jvm.Cond.static ({ cls := kc2, name := "checkIndex", desc := "(IILjava/util/function/BiFunction;)I" } : Jvm.MethodName)) := own_wd 102 rfl
theorem wd_103 : WD (Jvm.Cond.code ({ cls := kc2, name := "checkIndex", desc := "(IILjava/util/function/BiFunction;)I" } : Jvm.MethodName) jdk_41_method_11_code (3 : Nat) (Option.some Jvm.ClassFile.FieldType.int)) := own_wd 103 rfl
theorem wd_104 : WD (Jvm.Cond.methodLink "com/example/runnymede/runnymede/Ascii" (17 : Nat) ({ cls := "com/example/runnymede/runnymede/Ascii", name := "lowerCase", desc := "(C)C" } : Jvm.MethodName)) := own_wd 104 rfl
theorem wd_105 : WD (Jvm.Cond.static ({ cls := "com/example/runnymede/runnymede/Ascii", name := "lowerCase", desc := "(C)C" } : Jvm.MethodName)) := own_wd 105 rfl
theorem wd_106 : WD (Jvm.Cond.code ({ cls := "com/example/runnymede/runnymede/Ascii", name := "lowerCase", desc := "(C)C" } : Jvm.MethodName) prog_12_method_5_code (1 : Nat) (Option.some Jvm.ClassFile.FieldType.char)) := own_wd 106 rfl
theorem wd_107 : WD (Jvm.Cond.methodLink "com/example/runnymede/runnymede/AsciiEqualsIgnoreCasePinLaw" (28 : Nat) ({ cls := "com/example/runnymede/runnymede/AsciiEqualsIgnoreCasePinLaw", name := "same", desc := "(CC)Z" } : Jvm.MethodName)) := own_wd 107 rfl
theorem wd_108 : WD (Jvm.Cond.static ({ cls := "com/example/runnymede/runnymede/AsciiEqualsIgnoreCasePinLaw", name := "same", desc := "(CC)Z" } : Jvm.MethodName)) := own_wd 108 rfl
theorem wd_109 : WD (Jvm.Cond.code ({ cls := "com/example/runnymede/runnymede/AsciiEqualsIgnoreCasePinLaw", name := "same", desc := "(CC)Z" } : Jvm.MethodName) method_6_code (3 : Nat) (Option.some Jvm.ClassFile.FieldType.boolean)) := own_wd 109 rfl
theorem wd_110 : WD (Jvm.Cond.methodLink kc0 (495 : Nat) ({ cls := "java/lang/StringLatin1", name := "charAt", desc := "([BI)C" } : Jvm.MethodName)) := own_wd 110 rfl
theorem wd_111 : WD (Jvm.Cond.static ({ cls := "java/lang/StringLatin1", name := "charAt", desc := "([BI)C" } : Jvm.MethodName)) := own_wd 111 rfl
theorem wd_112 : WD (Jvm.Cond.initialized "java/lang/StringLatin1") := own_wd 112 rfl
theorem wd_113 : WD (Jvm.Cond.code ({ cls := "java/lang/StringLatin1", name := "charAt", desc := "([BI)C" } : Jvm.MethodName) jdk_43_method_2_code (2 : Nat) (Option.some Jvm.ClassFile.FieldType.char)) := own_wd 113 rfl
theorem wd_114 : WD (Jvm.Cond.methodLink "java/lang/StringLatin1" (9 : Nat) ({ cls := kc0, name := "checkIndex", desc := "(II)V" } : Jvm.MethodName)) := own_wd 114 rfl
theorem own_EW {Z : State} {a0 : Array Value} (hw : ∀ d ∈ tables_1, d.before a0 Z = true) : EW Z a0 EL := (EW.cons (wd_25 hw) (by decide +kernel) EW.nil)
theorem own_wS {Z : State} {a0 : Array Value} (hw : ∀ d ∈ tables_1, d.before a0 Z = true) : ∀ d ∈ Bundle.stringAtoms, d.before a0 Z = true := fun d hd => hw d ((by decide +kernel : ∀ d ∈ Bundle.stringAtoms, d ∈ tables_1) d hd)
theorem ef_draw (m : MethodId) (p0 : Int32) (p1 : Int32) (p2 : Int32)  : entryFrame m #[(.int p0), (.int p1), (.int p2)] 3 = mkF m 0 #[.val (.int p0), .val (.int p1), .val (.int p2)] [] := by first | (simp [entryFrame, mkF, argsToLocals, Value.category]; done) | rfl
def Q_draw (Z : State) (p0 : Int32) (p1 : Int32) (p2 : Int32) (h0 : Heap) (n0 : Nat) (v : Option Value) (h : Heap) (L : List Loc) : Prop := ∃ (c : Int32), v = some (.int c) ∧ Fr n0 L ∧ h = h0 ∧ nar .char c = c
theorem rm_draw (l : Launch) (Z : State) (aZ : Array Value) (hw : ∀ d ∈ tables_1, d.before aZ Z = true) (ws : List Jvm.Cond) (p0 : Int32) (p1 : Int32) (p2 : Int32) (h0 : Heap) (n0 : Nat) (Z0 : n0 ≤ h0.size) :
    MetN l Z yn_1 method_3_code 3 (some .char) ws ({ frames := 0, cells := 0, slots := 0, locals := 0 } : Room) #[(.int p0), (.int p1), (.int p2)] h0 (Q_draw Z p0 p1 p2 h0 n0) := by
 refine MetN.of (plainFor_of_name pn_0) ?_
 intro p e s m below meth c s₁ hret hx hby hml hown hnm hlk hZ X0 e0
 have N0 := Fr.nil n0
 rw [ef_draw m p0 p1 p2]
 refine w_iloadN X0 hx (d1_0 hby) rfl (pc' := 1) rfl ?_
 refine w_iloadN X0 hx (d1_1 hby) rfl (pc' := 2) rfl ?_
 refine w_iushr X0 hx (d1_2 hby) (pc' := 3) rfl ?_
 refine w_iconst X0 hx (d1_3 hby) (v := (1 : Int32)) rfl (pc' := 4) rfl ?_
 refine w_iand X0 hx (d1_4 hby) (pc' := 5) rfl ?_
 by_cases hc20 : (((p1.toUInt32 >>> (p2 &&& 31).toUInt32).toInt32) &&& (1 : Int32)) = (0 : Int32)
 · refine w_ifY X0 hx (d1_5 hby) (teq hc20).1 (pc' := 14) (by decide) (by decide) ?_
   refine w_iloadN X0 hx (d1_14 hby) rfl (pc' := 15) rfl ?_
   refine w_i2c X0 hx (d1_15 hby) (pc' := 16) rfl ?_
   exact w_done X0 hlk (v := some (.int (p0.toUInt32.toUInt16.toUInt32.toInt32))) e0 (fun h => by rw [hret] at h; cases h) (fun fs hr => retOut X0 hx hret (t := .char) (XT.narrow_c _) (Or.inl ⟨rfl, by simp, _, rfl⟩) (d1_16 hby) hr) (by decide) (by decide) (⟨(p0.toUInt32.toUInt16.toUInt32.toInt32), rfl, N0, rfl, (nar_c _)⟩)
 · refine w_ifN X0 hx (d1_5 hby) (feq hc20).1 (pc' := 8) rfl ?_
   refine w_iloadN X0 hx (d1_8 hby) rfl (pc' := 9) rfl ?_
   refine w_bipush X0 hx (d1_9 hby) (v := (127 : Int32)) rfl (pc' := 11) rfl ?_
   refine w_iand X0 hx (d1_11 hby) (pc' := 12) rfl ?_
   refine w_i2c X0 hx (d1_12 hby) (pc' := 13) rfl ?_
   exact w_done X0 hlk (v := some (.int ((p0 &&& (127 : Int32)).toUInt32.toUInt16.toUInt32.toInt32))) e0 (fun h => by rw [hret] at h; cases h) (fun fs hr => retOut X0 hx hret (t := .char) (XT.narrow_c _) (Or.inl ⟨rfl, by simp, _, rfl⟩) (d1_13 hby) hr) (by decide) (by decide) (⟨((p0 &&& (127 : Int32)).toUInt32.toUInt16.toUInt32.toInt32), rfl, N0, rfl, (nar_c _)⟩)
theorem ef_derive (m : MethodId) (p0 : Int32) (p1 : Int32) (p2 : Int32) (p3 : Int32)  : entryFrame m #[(.int p0), (.int p1), (.int p2), (.int p3)] 5 = mkF m 0 #[.val (.int p0), .val (.int p1), .val (.int p2), .val (.int p3), .unset] [] := by first | (simp [entryFrame, mkF, argsToLocals, Value.category]; done) | rfl
def Q_derive (Z : State) (p0 : Int32) (p1 : Int32) (p2 : Int32) (p3 : Int32) (h0 : Heap) (n0 : Nat) (v : Option Value) (h : Heap) (L : List Loc) : Prop := ∃ (c : Int32), v = some (.int c) ∧ Fr n0 L ∧ h = h0 ∧ nar .char c = c
theorem rm_derive (l : Launch) (Z : State) (aZ : Array Value) (hw : ∀ d ∈ tables_1, d.before aZ Z = true) (ws : List Jvm.Cond) (p0 : Int32) (p1 : Int32) (p2 : Int32) (p3 : Int32) (h0 : Heap) (n0 : Nat) (Z0 : n0 ≤ h0.size) (zz0 : nar .char p0 = p0) :
    MetN l Z yn_2 method_4_code 5 (some .char) ws ({ frames := 0, cells := 0, slots := 0, locals := 0 } : Room) #[(.int p0), (.int p1), (.int p2), (.int p3)] h0 (Q_derive Z p0 p1 p2 p3 h0 n0) := by
 refine MetN.of (plainFor_of_name pn_0) ?_
 intro p e s m below meth c s₁ hret hx hby hml hown hnm hlk hZ X0 e0
 have N0 := Fr.nil n0
 rw [ef_derive m p0 p1 p2 p3]
 refine w_iloadN X0 hx (d2_0 hby) rfl (pc' := 1) rfl ?_
 refine w_iloadN X0 hx (d2_1 hby) rfl (pc' := 2) rfl ?_
 refine w_iushr X0 hx (d2_2 hby) (pc' := 3) rfl ?_
 refine w_iconst X0 hx (d2_3 hby) (v := (3 : Int32)) rfl (pc' := 4) rfl ?_
 refine w_iand X0 hx (d2_4 hby) (pc' := 5) rfl ?_
 refine w_istore X0 hx (d2_5 hby) (L' := #[.val (.int p0), .val (.int p1), .val (.int p2), .val (.int p3), .val (.int (((p2.toUInt32 >>> (p3 &&& 31).toUInt32).toInt32) &&& (3 : Int32)))]) rfl (pc' := 7) rfl ?_
 refine w_iload X0 hx (d2_7 hby) rfl (pc' := 9) rfl ?_
 by_cases hc20 : (((p2.toUInt32 >>> (p3 &&& 31).toUInt32).toInt32) &&& (3 : Int32)) = (0 : Int32)
 · refine w_ifN X0 hx (d2_9 hby) (teq hc20).2 (pc' := 12) rfl ?_
   refine w_iloadN X0 hx (d2_12 hby) rfl (pc' := 13) rfl ?_
   exact w_done X0 hlk (v := some (.int p0)) e0 (fun h => by rw [hret] at h; cases h) (fun fs hr => retOut X0 hx hret (t := .char) (narrow_nar (t := .char) (by simp) zz0) (Or.inl ⟨rfl, by simp, _, rfl⟩) (d2_13 hby) hr) (by decide) (by decide) (⟨p0, rfl, N0, rfl, zz0⟩)
 · refine w_ifY X0 hx (d2_9 hby) (feq hc20).2 (pc' := 14) (by decide) (by decide) ?_
   refine w_iload X0 hx (d2_14 hby) rfl (pc' := 16) rfl ?_
   refine w_iconst X0 hx (d2_16 hby) (v := (1 : Int32)) rfl (pc' := 17) rfl ?_
   by_cases hc21 : (((p2.toUInt32 >>> (p3 &&& 31).toUInt32).toInt32) &&& (3 : Int32)) = (1 : Int32)
   · refine w_icN X0 hx (d2_17 hby) (teq hc21).2 (pc' := 20) rfl ?_
     refine w_iloadN X0 hx (d2_20 hby) rfl (pc' := 21) rfl ?_
     refine w_bipush X0 hx (d2_21 hby) (v := (32 : Int32)) rfl (pc' := 23) rfl ?_
     refine w_ixor X0 hx (d2_23 hby) (pc' := 24) rfl ?_
     refine w_i2c X0 hx (d2_24 hby) (pc' := 25) rfl ?_
     exact w_done X0 hlk (v := some (.int ((p0 ^^^ (32 : Int32)).toUInt32.toUInt16.toUInt32.toInt32))) e0 (fun h => by rw [hret] at h; cases h) (fun fs hr => retOut X0 hx hret (t := .char) (XT.narrow_c _) (Or.inl ⟨rfl, by simp, _, rfl⟩) (d2_25 hby) hr) (by decide) (by decide) (⟨((p0 ^^^ (32 : Int32)).toUInt32.toUInt16.toUInt32.toInt32), rfl, N0, rfl, (nar_c _)⟩)
   · refine w_icY X0 hx (d2_17 hby) (feq hc21).2 (pc' := 26) (by decide) (by decide) ?_
     refine w_iload X0 hx (d2_26 hby) rfl (pc' := 28) rfl ?_
     refine w_iconst X0 hx (d2_28 hby) (v := (2 : Int32)) rfl (pc' := 29) rfl ?_
     by_cases hc22 : (((p2.toUInt32 >>> (p3 &&& 31).toUInt32).toInt32) &&& (3 : Int32)) = (2 : Int32)
     · refine w_icN X0 hx (d2_29 hby) (teq hc22).2 (pc' := 32) rfl ?_
       refine w_iloadN X0 hx (d2_32 hby) rfl (pc' := 33) rfl ?_
       refine w_i2c X0 hx (d2_33 hby) (pc' := 34) rfl ?_
       exact w_done X0 hlk (v := some (.int (p1.toUInt32.toUInt16.toUInt32.toInt32))) e0 (fun h => by rw [hret] at h; cases h) (fun fs hr => retOut X0 hx hret (t := .char) (XT.narrow_c _) (Or.inl ⟨rfl, by simp, _, rfl⟩) (d2_34 hby) hr) (by decide) (by decide) (⟨(p1.toUInt32.toUInt16.toUInt32.toInt32), rfl, N0, rfl, (nar_c _)⟩)
     · refine w_icY X0 hx (d2_29 hby) (feq hc22).2 (pc' := 35) (by decide) (by decide) ?_
       refine w_iloadN X0 hx (d2_35 hby) rfl (pc' := 36) rfl ?_
       refine w_bipush X0 hx (d2_36 hby) (v := (127 : Int32)) rfl (pc' := 38) rfl ?_
       refine w_iand X0 hx (d2_38 hby) (pc' := 39) rfl ?_
       refine w_i2c X0 hx (d2_39 hby) (pc' := 40) rfl ?_
       exact w_done X0 hlk (v := some (.int ((p1 &&& (127 : Int32)).toUInt32.toUInt16.toUInt32.toInt32))) e0 (fun h => by rw [hret] at h; cases h) (fun fs hr => retOut X0 hx hret (t := .char) (XT.narrow_c _) (Or.inl ⟨rfl, by simp, _, rfl⟩) (d2_40 hby) hr) (by decide) (by decide) (⟨((p1 &&& (127 : Int32)).toUInt32.toUInt16.toUInt32.toInt32), rfl, N0, rfl, (nar_c _)⟩)
theorem ef_lower (m : MethodId) (p0 : Int32)  : entryFrame m #[(.int p0)] 1 = mkF m 0 #[.val (.int p0)] [] := by first | (simp [entryFrame, mkF, argsToLocals, Value.category]; done) | rfl
def Q_lower (Z : State) (p0 : Int32) (h0 : Heap) (n0 : Nat) (v : Option Value) (h : Heap) (L : List Loc) : Prop := v = some (.int (lowF p0)) ∧ Fr n0 L ∧ h = h0
theorem rm_lower (l : Launch) (Z : State) (aZ : Array Value) (hw : ∀ d ∈ tables_1, d.before aZ Z = true) (ws : List Jvm.Cond) (p0 : Int32) (h0 : Heap) (n0 : Nat) (Z0 : n0 ≤ h0.size) (zz0 : nar .char p0 = p0) :
    MetN l Z yn_25 prog_12_method_5_code 1 (some .char) ws ({ frames := 0, cells := 0, slots := 0, locals := 0 } : Room) #[(.int p0)] h0 (Q_lower Z p0 h0 n0) := by
 refine MetN.of (plainFor_of_name pn_1) ?_
 intro p e s m below meth c s₁ hret hx hby hml hown hnm hlk hZ X0 e0
 have N0 := Fr.nil n0
 rw [ef_lower m p0]
 refine w_iloadN X0 hx (d25_0 hby) rfl (pc' := 1) rfl ?_
 refine w_bipush X0 hx (d25_1 hby) (v := (65 : Int32)) rfl (pc' := 3) rfl ?_
 by_cases hc20 : p0 < (65 : Int32)
 · refine w_icY X0 hx (d25_3 hby) (tlt hc20).1 (pc' := 23) (by decide) (by decide) ?_
   refine w_iloadN X0 hx (d25_23 hby) rfl (pc' := 24) rfl ?_
   exact w_done X0 hlk (v := some (.int p0)) e0 (fun h => by rw [hret] at h; cases h) (fun fs hr => retOut X0 hx hret (t := .char) (narrow_nar (t := .char) (by simp) zz0) (Or.inl ⟨rfl, by simp, _, rfl⟩) (d25_24 hby) hr) (by decide) (by decide) (⟨(congrArg (fun z => some (Value.int z)) (show p0 = (lowF p0) from (lowF_a hc20).symm)), N0, rfl⟩)
 · refine w_icN X0 hx (d25_3 hby) (flt hc20).1 (pc' := 6) rfl ?_
   refine w_iloadN X0 hx (d25_6 hby) rfl (pc' := 7) rfl ?_
   refine w_bipush X0 hx (d25_7 hby) (v := (90 : Int32)) rfl (pc' := 9) rfl ?_
   by_cases hc21 : (90 : Int32) < p0
   · refine w_icY X0 hx (d25_9 hby) (tlt hc21).2.2.1 (pc' := 23) (by decide) (by decide) ?_
     refine w_iloadN X0 hx (d25_23 hby) rfl (pc' := 24) rfl ?_
     exact w_done X0 hlk (v := some (.int p0)) e0 (fun h => by rw [hret] at h; cases h) (fun fs hr => retOut X0 hx hret (t := .char) (narrow_nar (t := .char) (by simp) zz0) (Or.inl ⟨rfl, by simp, _, rfl⟩) (d25_24 hby) hr) (by decide) (by decide) (⟨(congrArg (fun z => some (Value.int z)) (show p0 = (lowF p0) from (lowF_b hc21).symm)), N0, rfl⟩)
   · refine w_icN X0 hx (d25_9 hby) (flt hc21).2.2.1 (pc' := 12) rfl ?_
     refine w_iloadN X0 hx (d25_12 hby) rfl (pc' := 13) rfl ?_
     refine w_bipush X0 hx (d25_13 hby) (v := (65 : Int32)) rfl (pc' := 15) rfl ?_
     refine w_isub X0 hx (d25_15 hby) (pc' := 16) rfl ?_
     refine w_bipush X0 hx (d25_16 hby) (v := (97 : Int32)) rfl (pc' := 18) rfl ?_
     refine w_iadd X0 hx (d25_18 hby) (pc' := 19) rfl ?_
     refine w_i2c X0 hx (d25_19 hby) (pc' := 20) rfl ?_
     refine w_goto X0 hx (d25_20 hby) (pc' := 24) (by decide) (by decide) ?_
     exact w_done X0 hlk (v := some (.int (((p0 - (65 : Int32)) + (97 : Int32)).toUInt32.toUInt16.toUInt32.toInt32))) e0 (fun h => by rw [hret] at h; cases h) (fun fs hr => retOut X0 hx hret (t := .char) (XT.narrow_c _) (Or.inl ⟨rfl, by simp, _, rfl⟩) (d25_24 hby) hr) (by decide) (by decide) (⟨(congrArg (fun z => some (Value.int z)) (show (((p0 - (65 : Int32)) + (97 : Int32)).toUInt32.toUInt16.toUInt32.toInt32) = (lowF p0) from (lowF_c hc20 hc21).symm)), N0, rfl⟩)
theorem ef_same (m : MethodId) (p0 : Int32) (p1 : Int32)  : entryFrame m #[(.int p0), (.int p1)] 3 = mkF m 0 #[.val (.int p0), .val (.int p1), .unset] [] := by first | (simp [entryFrame, mkF, argsToLocals, Value.category]; done) | rfl
def Q_same (Z : State) (p0 : Int32) (p1 : Int32) (h0 : Heap) (n0 : Nat) (v : Option Value) (h : Heap) (L : List Loc) : Prop := v = some (.int (if (lowF p0) = (lowF p1) then (1 : Int32) else (0 : Int32))) ∧ Fr n0 L ∧ h = h0
theorem rm_same (l : Launch) (Z : State) (aZ : Array Value) (hw : ∀ d ∈ tables_1, d.before aZ Z = true) (ws : List Jvm.Cond) (p0 : Int32) (p1 : Int32) (h0 : Heap) (n0 : Nat) (Z0 : n0 ≤ h0.size) (zz0 : nar .char p0 = p0) (zz1 : nar .char p1 = p1) :
    MetN l Z yn_26 method_6_code 3 (some .boolean) ws ({ frames := 0, cells := 0, slots := 0, locals := 0 } : Room) #[(.int p0), (.int p1)] h0 (Q_same Z p0 p1 h0 n0) := by
 refine MetN.of (plainFor_of_name pn_0) ?_
 intro p e s m below meth c s₁ hret hx hby hml hown hnm hlk hZ X0 e0
 have N0 := Fr.nil n0
 rw [ef_same m p0 p1]
 refine w_iloadN X0 hx (d26_0 hby) rfl (pc' := 1) rfl ?_
 refine w_iloadN X0 hx (d26_1 hby) rfl (pc' := 2) rfl ?_
 by_cases hc20 : p0 = p1
 · refine w_icN X0 hx (d26_2 hby) (teq hc20).2 (pc' := 5) rfl ?_
   refine w_iconst X0 hx (d26_5 hby) (v := (1 : Int32)) rfl (pc' := 6) rfl ?_
   exact w_done X0 hlk (v := some (.int (1 : Int32))) e0 (fun h => by rw [hret] at h; cases h) (fun fs hr => retN X0 hx (t := .boolean) hret (by simp) (d26_6 hby) hr) (by decide) (by decide) (⟨(congrArg (fun z => some (Value.int z)) (show (1 : Int32) = (if (lowF p0) = (lowF p1) then (1 : Int32) else (0 : Int32)) from (if_pos (congrArg lowF hc20)).symm)), N0, rfl⟩)
 · refine w_icY X0 hx (d26_2 hby) (feq hc20).2 (pc' := 7) (by decide) (by decide) ?_
   refine w_iloadN X0 hx (d26_7 hby) rfl (pc' := 8) rfl ?_
   refine w_bipush X0 hx (d26_8 hby) (v := (32 : Int32)) rfl (pc' := 10) rfl ?_
   refine w_ior X0 hx (d26_10 hby) (pc' := 11) rfl ?_
   refine w_istoreN X0 hx (d26_11 hby) (L' := #[.val (.int p0), .val (.int p1), .val (.int (p0 ||| (32 : Int32)))]) rfl (pc' := 12) rfl ?_
   refine w_iloadN X0 hx (d26_12 hby) rfl (pc' := 13) rfl ?_
   refine w_iloadN X0 hx (d26_13 hby) rfl (pc' := 14) rfl ?_
   refine w_ixor X0 hx (d26_14 hby) (pc' := 15) rfl ?_
   refine w_bipush X0 hx (d26_15 hby) (v := (32 : Int32)) rfl (pc' := 17) rfl ?_
   by_cases hc21 : (p0 ^^^ p1) = (32 : Int32)
   · refine w_icN X0 hx (d26_17 hby) (teq hc21).2 (pc' := 20) rfl ?_
     refine w_iloadN X0 hx (d26_20 hby) rfl (pc' := 21) rfl ?_
     refine w_bipush X0 hx (d26_21 hby) (v := (97 : Int32)) rfl (pc' := 23) rfl ?_
     by_cases hc22 : (p0 ||| (32 : Int32)) < (97 : Int32)
     · refine w_icY X0 hx (d26_23 hby) (tlt hc22).1 (pc' := 36) (by decide) (by decide) ?_
       refine w_iconst X0 hx (d26_36 hby) (v := (0 : Int32)) rfl (pc' := 37) rfl ?_
       exact w_done X0 hlk (v := some (.int (0 : Int32))) e0 (fun h => by rw [hret] at h; cases h) (fun fs hr => retN X0 hx (t := .boolean) hret (by simp) (d26_37 hby) hr) (by decide) (by decide) (⟨(congrArg (fun z => some (Value.int z)) (show (0 : Int32) = (if (lowF p0) = (lowF p1) then (1 : Int32) else (0 : Int32)) from (if_neg (same_lo zz0 zz1 hc20 hc22)).symm)), N0, rfl⟩)
     · refine w_icN X0 hx (d26_23 hby) (flt hc22).1 (pc' := 26) rfl ?_
       refine w_iloadN X0 hx (d26_26 hby) rfl (pc' := 27) rfl ?_
       refine w_bipush X0 hx (d26_27 hby) (v := (122 : Int32)) rfl (pc' := 29) rfl ?_
       by_cases hc23 : (122 : Int32) < (p0 ||| (32 : Int32))
       · refine w_icY X0 hx (d26_29 hby) (tlt hc23).2.2.1 (pc' := 36) (by decide) (by decide) ?_
         refine w_iconst X0 hx (d26_36 hby) (v := (0 : Int32)) rfl (pc' := 37) rfl ?_
         exact w_done X0 hlk (v := some (.int (0 : Int32))) e0 (fun h => by rw [hret] at h; cases h) (fun fs hr => retN X0 hx (t := .boolean) hret (by simp) (d26_37 hby) hr) (by decide) (by decide) (⟨(congrArg (fun z => some (Value.int z)) (show (0 : Int32) = (if (lowF p0) = (lowF p1) then (1 : Int32) else (0 : Int32)) from (if_neg (same_hi zz0 zz1 hc20 hc23)).symm)), N0, rfl⟩)
       · refine w_icN X0 hx (d26_29 hby) (flt hc23).2.2.1 (pc' := 32) rfl ?_
         refine w_iconst X0 hx (d26_32 hby) (v := (1 : Int32)) rfl (pc' := 33) rfl ?_
         refine w_goto X0 hx (d26_33 hby) (pc' := 37) (by decide) (by decide) ?_
         exact w_done X0 hlk (v := some (.int (1 : Int32))) e0 (fun h => by rw [hret] at h; cases h) (fun fs hr => retN X0 hx (t := .boolean) hret (by simp) (d26_37 hby) hr) (by decide) (by decide) (⟨(congrArg (fun z => some (Value.int z)) (show (1 : Int32) = (if (lowF p0) = (lowF p1) then (1 : Int32) else (0 : Int32)) from (if_pos (same_in zz0 zz1 hc21 hc22 hc23)).symm)), N0, rfl⟩)
   · refine w_icY X0 hx (d26_17 hby) (feq hc21).2 (pc' := 36) (by decide) (by decide) ?_
     refine w_iconst X0 hx (d26_36 hby) (v := (0 : Int32)) rfl (pc' := 37) rfl ?_
     exact w_done X0 hlk (v := some (.int (0 : Int32))) e0 (fun h => by rw [hret] at h; cases h) (fun fs hr => retN X0 hx (t := .boolean) hret (by simp) (d26_37 hby) hr) (by decide) (by decide) (⟨(congrArg (fun z => some (Value.int z)) (show (0 : Int32) = (if (lowF p0) = (lowF p1) then (1 : Int32) else (0 : Int32)) from (if_neg (same_x zz0 zz1 hc20 hc21)).symm)), N0, rfl⟩)
theorem ef_m5_6 (m : MethodId) (a0 : Addr) (a1 : Addr)  : entryFrame m #[(.ref a0), (.ref a1), (.int (0 : Int32)), (.int (0 : Int32)), .null] 6 = mkF m 0 #[.val (.ref a0), .val (.ref a1), .val (.int (0 : Int32)), .val (.int (0 : Int32)), .val .null, .unset] [] := by first | (simp [entryFrame, mkF, argsToLocals, Value.category]; done) | rfl
def Q_m5_6 (Z : State) (a0 : Addr) (a1 : Addr) (h0 : Heap) (n0 : Nat) (v : Option Value) (h : Heap) (L : List Loc) (S : Addr → Prop) : Prop := ∃ (r0 : Addr) (c0 : ClassId), v = none ∧ Fr n0 L ∧ Keep h0 h [a0] ∧ Arv Z h r0 c0 .byte (0 : Int32) [] (.int (0 : Int32)) ∧ Exa Z h a0 kc0 ∧ Fld Z h a0 kc0 "value" "[B" (.ref r0) ∧ Fld Z h a0 kc0 "coder" "B" (.int (0 : Int32))
theorem rm_m5_6 (l : Launch) (Z : State) (aZ : Array Value) (hw : ∀ d ∈ tables_1, d.before aZ Z = true) (ws : List Jvm.Cond) (a0 : Addr) (a1 : Addr) (h0 : Heap) (n0 : Nat) (Z0 : n0 ≤ h0.size) (E_a0 : Exa Z h0 a0 kc0) (zz0 : Fld Z h0 a0 kc0 "value" "[B" .null) (zz1 : n0 ≤ a0) (zz2 : Fld Z h0 a0 kc0 "coder" "B" (.int (0 : Int32))) :
    MetH l Z EL yn_5 jdk_42_method_149_code 6 none ws ({ frames := 1, cells := 4, slots := 8, locals := 12 } : Room) #[(.ref a0), (.ref a1), (.int (0 : Int32)), (.int (0 : Int32)), .null] h0 (Q_m5_6 Z a0 a1 h0 n0) [a0] := by
 refine MetH.of (plainFor_of_name pn_2) ?_
 intro p e s m below meth c s₁ hret hx hby hml hown hnm hlk hZ X0 e0 hh hH hsf hS0 C0
 have N0 := Fr.nil n0
 rw [ef_m5_6 m a0 a1]
 refine w_aloadN X0 hx (d5_0 hby) rfl rfl (pc' := 1) rfl ?_
 refine w_initO X0 hx 0 hZ hown (wd_22 hw) (wd_23 hw) (wd_24 hw) e0 (by rw [hml]; rfl) (d5_1 hby) (by decide) (Nat.le_of_eq rfl) (by decide) (pc' := 4) rfl ?_
 intro T20 X20 e20
 refine w_iloadN X20 hx (d5_4 hby) rfl (pc' := 5) rfl ?_
 refine w_ifN X20 hx (d5_5 hby) (teq (by decide : (0 : Int32) = (0 : Int32))).2 (pc' := 8) rfl ?_
 refine w_aloadN X20 hx (d5_8 hby) rfl rfl (pc' := 9) rfl ?_
 obtain ⟨a21, T21, h21, k21, b21, c21, X21, e21, E21, hS21, hk21, hZ21, hown21, gE21, gC21, gV21, gA21, lt21, ltb21, A21, -, ns21, st21⟩ := ldcCH X20 hx hZ hown (wd_25 hw) (own_wS hw) e20 hS0 (Nat.le_refl _) (own_EW hw) (by simp [EL, x]) C0.1 (vs := []) (z := (0 : Int32)) (by decide +kernel) (by decide) (by decide) (g := (mkF m 9 #[.val (.ref a0), .val (.ref a1), .val (.int (0 : Int32)), .val (.int (0 : Int32)), .val .null, .unset] [(.ref a0)])) rfl (d5_9 hby) (n := 0) (by decide +kernel) (by decide) (by decide) (by decide)
 refine Runs.by ?_ st21
 have C22 : CHr Z EL s.vm h0 T21.vm h21 := C0.trans A21
 have K23 : Keep h0 h21 [a0] := (Keep.refl h0 [a0]).ext E21
 show Runs _ _ _ _ (T21.setTop (mkF m 11 #[.val (.ref a0), .val (.ref a1), .val (.int (0 : Int32)), .val (.int (0 : Int32)), .val .null, .unset] [(.ref a21), (.ref a0)]))
 refine w_getF X21 hx "" hZ21 hown21 (Or.inl (wd_31 hw)) Via.refl e21 gV21 (d5_11 hby) (pc' := 14) rfl ?_
 intro T24 X24 e24
 have f25 : Exa Z h21 a0 kc0 := (E_a0.ext E21)
 have f26 : Fld Z h21 a0 kc0 "value" "[B" .null := (zz0.ext E21)
 refine w_putF X24 hx "" hZ21 hown21 (Or.inl (wd_31 hw)) Via.refl e24 f26 f25 (Or.inr ⟨(wd_27 hw), rfl, hnm⟩) (wd_13 hw) (ty := (.array .byte)) (by decide) rfl rfl (d5_14 hby) (pc' := 17) rfl ?_
 intro T27 h27 X27 e27 W27
 have y28 : Safe Z EL T21.vm h21 a0 := (CHr.safe A21 (Nat.lt_of_lt_of_le E_a0.lt (Nat.le_refl _)) (hsf a0 (by simp)))
 have C29 : CHr Z EL s.vm h0 T21.vm h27 := C22.trans (CHr.wr W27 y28 C22.1)
 have f30 : Fld Z h27 a0 kc0 "value" "[B" (.ref b21) := f26.same W27
 have K31 : Keep h0 h27 [a0] := K23.wr W27 (Or.inl (by simp))
 have N32 := Fr.snoc X27 N0 zz1
 refine w_aloadN X27 hx (d5_17 hby) rfl rfl (pc' := 18) rfl ?_
 obtain ⟨a33, T33, h33, k33, b33, c33, X33, e33, E33, hS33, hk33, hZ33, hown33, gE33, gC33, gV33, gA33, lt33, ltb33, A33, -, ns33, st33⟩ := ldcCH X27 hx hZ21 hown21 (wd_25 hw) (own_wS hw) e27 hS21 (Nat.le_trans hk21 (Keep.of_wr W27).1) (own_EW hw) (by simp [EL, x]) C29.1 (vs := []) (z := (0 : Int32)) (by decide +kernel) (by decide) (by decide) (g := (mkF m 18 #[.val (.ref a0), .val (.ref a1), .val (.int (0 : Int32)), .val (.int (0 : Int32)), .val .null, .unset] [(.ref a0)])) rfl (d5_18 hby) (n := 0) (by decide +kernel) (by decide) (by decide) (by decide)
 refine Runs.by ?_ st33
 have C34 : CHr Z EL s.vm h0 T33.vm h33 := C29.trans A33
 have K35 : Keep h0 h33 [a0] := K31.ext E33
 show Runs _ _ _ _ (T33.setTop (mkF m 20 #[.val (.ref a0), .val (.ref a1), .val (.int (0 : Int32)), .val (.int (0 : Int32)), .val .null, .unset] [(.ref a33), (.ref a0)]))
 refine w_getF X33 hx "" hZ33 hown33 (Or.inl (wd_32 hw)) Via.refl e33 gC33 (d5_20 hby) (pc' := 23) rfl ?_
 intro T36 X36 e36
 have f37 : Exa Z h33 a0 kc0 := ((f25.wr W27).ext E33)
 have f38 : Fld Z h33 a0 kc0 "coder" "B" (.int (0 : Int32)) := (((zz2.ext E21).other W27 (Or.inr (slot_ne (Or.inr (wd_28 hw)) (Or.inr (wd_27 hw)) (by decide) (t := .byte) (t' := (.array .byte)) (by decide) (by decide)))).ext E33)
 refine w_putF X36 hx "" hZ33 hown33 (Or.inl (wd_32 hw)) Via.refl e36 f38 f37 (Or.inr ⟨(wd_28 hw), rfl, hnm⟩) (wd_13 hw) (ty := .byte) (by decide) rfl rfl (d5_23 hby) (pc' := 26) rfl ?_
 intro T39 h39 X39 e39 W39
 have le40 : h0.size ≤ h27.size := (Nat.le_trans E21.1 (Keep.of_wr W27).1)
 have y41 : Safe Z EL T33.vm h33 a0 := (CHr.safe A33 (Nat.lt_of_lt_of_le E_a0.lt le40) (Safe.wr W27 y28 C22.1 y28))
 have C42 : CHr Z EL s.vm h0 T33.vm h39 := C34.trans (CHr.wr W39 y41 C34.1)
 have f43 : Fld Z h39 a0 kc0 "coder" "B" (.int (0 : Int32)) := f38.same W39
 have K44 : Keep h0 h39 [a0] := K35.wr W39 (Or.inl (by simp))
 have N45 := Fr.snoc X39 N32 zz1
 have ne46 : a0 ≠ b21 := (ns21 a0 (CHr.safe A21 (Nat.lt_of_lt_of_le E_a0.lt (Nat.le_refl _)) (hsf a0 (by simp)))).2
 have f47 : Arv Z h39 b21 c21 .byte (0 : Int32) [] (.int (0 : Int32)) := (((gA21.other W27 (Ne.symm ne46)).ext E33).other W39 (Ne.symm ne46))
 have f48 : Exa Z h39 a0 kc0 := (f37.wr W39)
 have f49 : Fld Z h39 a0 kc0 "value" "[B" (.ref b21) := ((f30.ext E33).other W39 (Or.inr (slot_ne (Or.inr (wd_27 hw)) (Or.inr (wd_28 hw)) (by decide) (t := (.array .byte)) (t' := .byte) (by decide) (by decide))))
 exact w_doneH X39 hlk (v := none) e39 hh hZ33 (own_EW hw) hS33 (Nat.le_trans hk33 (Keep.of_wr W39).1) C42 (fun _ => rfl) (fun fs hr => X39.returnOut hx hret (d5_26 hby) hr) (by decide) (by decide) (fun hsy => ⟨b21, c21, rfl, N45, K44, f47, f48, f49, f43⟩)
theorem ef_m4_5 (m : MethodId) (a0 : Addr) (a1 : Addr)  : entryFrame m #[(.ref a0), (.ref a1)] 2 = mkF m 0 #[.val (.ref a0), .val (.ref a1)] [] := by first | (simp [entryFrame, mkF, argsToLocals, Value.category]; done) | rfl
def Q_m4_5 (Z : State) (a0 : Addr) (a1 : Addr) (k_a1 : ClassId) (h0 : Heap) (n0 : Nat) (v : Option Value) (h : Heap) (L : List Loc) (S : Addr → Prop) : Prop := ∃ (r0 : Addr) (c0 : ClassId), v = none ∧ Fr n0 L ∧ Keep h0 h [a0] ∧ Arv Z h r0 c0 .byte (0 : Int32) [] (.int (0 : Int32)) ∧ Exa Z h a0 kc0 ∧ Fld Z h a0 kc0 "value" "[B" (.ref r0) ∧ Fld Z h a0 kc0 "coder" "B" (.int (0 : Int32))
theorem rm_m4_5 (l : Launch) (Z : State) (aZ : Array Value) (hw : ∀ d ∈ tables_1, d.before aZ Z = true) (ws : List Jvm.Cond) (a0 : Addr) (a1 : Addr) (k_a1 : ClassId) (h0 : Heap) (n0 : Nat) (Z0 : n0 ≤ h0.size) (V_a1 : Arv Z h0 a1 k_a1 .char (0 : Int32) [] (.int (0 : Int32))) (E_a0 : Exa Z h0 a0 kc0) (zz0 : Fld Z h0 a0 kc0 "value" "[B" .null) (zz1 : Fld Z h0 a0 kc0 "coder" "B" (.int (0 : Int32))) (zz2 : n0 ≤ a0) :
    MetH l Z EL yn_4 jdk_42_method_3_code 2 none ws ({ frames := 2, cells := 4, slots := 8, locals := 29 } : Room) #[(.ref a0), (.ref a1)] h0 (Q_m4_5 Z a0 a1 k_a1 h0 n0) [a0] := by
 refine MetH.of (plainFor_of_name pn_2) ?_
 intro p e s m below meth c s₁ hret hx hby hml hown hnm hlk hZ X0 e0 hh hH hsf hS0 C0
 have N0 := Fr.nil n0
 rw [ef_m4_5 m a0 a1]
 refine w_aloadN X0 hx (d4_0 hby) rfl rfl (pc' := 1) rfl ?_
 refine w_aloadN X0 hx (d4_1 hby) rfl rfl (pc' := 2) rfl ?_
 refine w_iconst X0 hx (d4_2 hby) (v := (0 : Int32)) rfl (pc' := 3) rfl ?_
 refine w_aloadN X0 hx (d4_3 hby) rfl rfl (pc' := 4) rfl ?_
 refine w_alen X0 hx hZ e0 V_a1 (d4_4 hby) (pc' := 5) rfl ?_
 refine w_null X0 hx (d4_5 hby) (pc' := 6) rfl ?_
 refine w_specialS X0 hx (y := yn_5) rfl hown (mvT hZ (wd_18 hw)) (mvT hZ (wd_19 hw)) (mvT hZ (wd_21 hw)) (by decide) (backOfY (W := 0) (rm_m5_6 l Z aZ hw [] a0 a1 h0 n0 Z0 E_a0 zz0 zz2 zz1) hZ (wd_21 hw) (wd_14 hw) (by decide) (by decide) (own_EW hw) C0.1 (sfS (hsf a0 (by simp)) sf0) (allS (Nat.lt_of_lt_of_le E_a0.lt (Nat.le_refl _)) all0)) (by rw [hml]; rfl) [(.ref a1), (.int (0 : Int32)), (.int (0 : Int32)), .null] (lenOf pd_2 rfl) rfl (Nat.le_of_eq rfl) (d4_6 hby) (fun _ _ => ⟨rfl, e0, (by decide : 0 + 4 ≤ _), (by decide : 0 + 8 ≤ _)⟩) (pc' := 9) rfl ?_
 rintro _ _ ⟨T20, L20, k20, n20⟩ XX20 hSS20 hg20 ⟨Lc20, hQ20, l20, y20, z20, A20⟩
 dsimp only [Pt.U, Pt.locs, Pt.cells, Pt.slots] at XX20 l20 y20 z20 hQ20 hSS20 hg20 A20 ⊢
 rw [l20, y20, z20] at XX20
 obtain ⟨X20, hS20, hZ20, hown20⟩ := rebS hS0 (Nat.le_refl _) XX20 hSS20 (e0 ▸ hg20) hZ hown
 obtain ⟨r0_20, c0_20, rfl, N20q, K20, g20_0, g20_1, g20_2, g20_3⟩ := hQ20
 have N21 := Fr.app N0 N20q
 have C22 : CHr Z EL s.vm h0 T20.vm T20.heap := C0.trans A20
 have K23 : Keep h0 T20.heap [a0] := (Keep.refl h0 [a0]).trans K20 (allS (Or.inl (by simp)) (all0 (P := fun x => x ∈ [a0] ∨ h0.size ≤ x)))
 show Runs _ _ _ _ (T20.setTop (mkF m 9 #[.val (.ref a0), .val (.ref a1)] []))
 exact w_doneH X20 hlk (v := none) rfl hh hZ20 (own_EW hw) hS20 (Nat.le_refl _) C22 (fun _ => rfl) (fun fs hr => X20.returnOut hx hret (d4_9 hby) hr) (by decide) (by decide) (fun hsy => ⟨r0_20, c0_20, rfl, N21, K23, g20_0, g20_1, g20_2, g20_3⟩)
theorem ef_m9_10 (m : MethodId) (a0 : Addr) (a2 : Addr)  : entryFrame m #[(.ref a0), (.int (0 : Int32)), (.ref a2), (.int (0 : Int32)), (.int (1 : Int32))] 7 = mkF m 0 #[.val (.ref a0), .val (.int (0 : Int32)), .val (.ref a2), .val (.int (0 : Int32)), .val (.int (1 : Int32)), .unset, .unset] [] := by first | (simp [entryFrame, mkF, argsToLocals, Value.category]; done) | rfl
def Q_m9_10 (Z : State) (a0 : Addr) (a2 : Addr) (k_a0 : ClassId) (jj0 : Int32) (k_a2 : ClassId) (h0 : Heap) (n0 : Nat) (v : Option Value) (h : Heap) (L : List Loc) : Prop := (v = some (.int (1 : Int32)) ∧ Fr n0 L ∧ Keep h0 h [a2] ∧ Arv Z h a2 k_a2 .byte (1 : Int32) [(.int (jj0.toInt8.toInt32))] (.int (0 : Int32)) ∧ ¬ ((255 : Int32) < jj0)) ∨ (∃ (j : Int32), v = some (.int j) ∧ Fr n0 L ∧ Keep h0 h [a2] ∧ ¬ (j < (0 : Int32)) ∧ j < (1 : Int32) ∧ (255 : Int32) < (gI [jj0, (0 : Int32), (0 : Int32), (0 : Int32)] j))
theorem rm_m9_10 (l : Launch) (Z : State) (aZ : Array Value) (hw : ∀ d ∈ tables_1, d.before aZ Z = true) (ws : List Jvm.Cond) (a0 : Addr) (a2 : Addr) (k_a0 : ClassId) (jj0 : Int32) (k_a2 : ClassId) (h0 : Heap) (n0 : Nat) (Z0 : n0 ≤ h0.size) (V_a0 : Arv Z h0 a0 k_a0 .char (1 : Int32) [(.int jj0)] (.int (0 : Int32))) (V_a2 : Arv Z h0 a2 k_a2 .byte (1 : Int32) [(.int (0 : Int32))] (.int (0 : Int32))) (zz1 : n0 ≤ a2) :
    MetN l Z yn_9 jdk_52_method_21_code 7 (some .int) ws ({ frames := 0, cells := 0, slots := 0, locals := 0 } : Room) #[(.ref a0), (.int (0 : Int32)), (.ref a2), (.int (0 : Int32)), (.int (1 : Int32))] h0 (Q_m9_10 Z a0 a2 k_a0 jj0 k_a2 h0 n0) := by
 refine MetN.of (plainFor_of_name pn_3) ?_
 intro p e s m below meth c s₁ hret hx hby hml hown hnm hlk hZ X0 e0
 have N0 := Fr.nil n0
 rw [ef_m9_10 m a0 a2]
 refine w_iconst X0 hx (d9_0 hby) (v := (0 : Int32)) rfl (pc' := 1) rfl ?_
 refine w_istore X0 hx (d9_1 hby) (L' := #[.val (.ref a0), .val (.int (0 : Int32)), .val (.ref a2), .val (.int (0 : Int32)), .val (.int (1 : Int32)), .val (.int (0 : Int32)), .unset]) rfl (pc' := 3) rfl ?_
 refine w_iload X0 hx (d9_3 hby) rfl (pc' := 5) rfl ?_
 refine w_iload X0 hx (d9_5 hby) rfl (pc' := 7) rfl ?_
 refine w_icN X0 hx (d9_7 hby) (tlt (by decide : (0 : Int32) < (1 : Int32))).2.1 (pc' := 10) rfl ?_
 refine w_aloadN X0 hx (d9_10 hby) rfl rfl (pc' := 11) rfl ?_
 refine w_iloadN X0 hx (d9_11 hby) rfl (pc' := 12) rfl ?_
 obtain ⟨clu20, Aru20, qu20, Su20, Nu20, Hu20, Gu20⟩ := id V_a0
 have hinu20 := inb_of (j := (0 : Int32)) Su20 ⟨by decide, by decide⟩
 refine w_caload X0 hx hZ e0 Aru20 hinu20 (Hu20.at hinu20 rfl) (d9_12 hby) (pc' := 13) rfl ?_
 refine w_istore X0 hx (d9_13 hby) (L' := #[.val (.ref a0), .val (.int (0 : Int32)), .val (.ref a2), .val (.int (0 : Int32)), .val (.int (1 : Int32)), .val (.int (0 : Int32)), .val (.int jj0)]) rfl (pc' := 15) rfl ?_
 refine w_iload X0 hx (d9_15 hby) rfl (pc' := 17) rfl ?_
 refine w_sipush X0 hx (d9_17 hby) (v := (255 : Int32)) rfl (pc' := 20) rfl ?_
 by_cases hc21 : (255 : Int32) < jj0
 · refine w_icN X0 hx (d9_20 hby) (tlt hc21).2.2.2 (pc' := 23) rfl ?_
   refine w_iload X0 hx (d9_23 hby) rfl (pc' := 25) rfl ?_
   exact w_done X0 hlk (v := some (.int (0 : Int32))) e0 (fun h => by rw [hret] at h; cases h) (fun fs hr => retI X0 hx hret (d9_25 hby) hr) (by decide) (by decide) (Or.inr (⟨(0 : Int32), rfl, N0, (Keep.refl h0 [a2]), (by decide : ¬ ((0 : Int32) < (0 : Int32))), (by decide : (0 : Int32) < (1 : Int32)), (show (255 : Int32) < (gI [jj0, (0 : Int32), (0 : Int32), (0 : Int32)] (0 : Int32)) from hc21)⟩))
 · refine w_icY X0 hx (d9_20 hby) (flt hc21).2.2.2 (pc' := 26) (by decide) (by decide) ?_
   refine w_aloadN X0 hx (d9_26 hby) rfl rfl (pc' := 27) rfl ?_
   refine w_iloadN X0 hx (d9_27 hby) rfl (pc' := 28) rfl ?_
   refine w_iload X0 hx (d9_28 hby) rfl (pc' := 30) rfl ?_
   refine w_i2b X0 hx (d9_30 hby) (pc' := 31) rfl ?_
   obtain ⟨clu22, Aru22, qu22, Su22, Nu22, Hu22, Gu22⟩ := id V_a2
   have hinu22 := inb_of (j := (0 : Int32)) Su22 ⟨by decide, by decide⟩
   refine w_stB X0 hx hZ e0 Aru22 hinu22 (d9_31 hby) (pc' := 32) rfl ?_
   intro T23 h23 X23 e23 W23
   have V24 : Arv Z h23 a2 k_a2 .byte (1 : Int32) [(.int (nar .byte (jj0.toInt8.toInt32)))] (.int (0 : Int32)) := Arv.set Aru22 qu22 Su22 Nu22 Hu22 Gu22 (fits_nar_byte _) W23 0 rfl (Nat.le_of_ble_eq_true rfl)
   have V25 : Arv Z h23 a2 k_a2 .byte (1 : Int32) [(.int (jj0.toInt8.toInt32))] (.int (0 : Int32)) := by rw [nar_b] at V24; exact V24
   have K26 : Keep h0 h23 [a2] := (Keep.refl h0 [a2]).wr W23 (Or.inl (by simp))
   have N27 := Fr.snoc X23 N0 zz1
   refine w_iinc X23 hx (d9_32 hby) (v := (1 : Int32)) rfl rfl (L' := #[.val (.ref a0), .val (.int ((0 : Int32) + (1 : Int32))), .val (.ref a2), .val (.int (0 : Int32)), .val (.int (1 : Int32)), .val (.int (0 : Int32)), .val (.int jj0)]) rfl (pc' := 35) rfl ?_
   rw [show ((0 : Int32) + (1 : Int32)) = (1 : Int32) from by decide]
   refine w_iinc X23 hx (d9_35 hby) (v := (1 : Int32)) rfl rfl (L' := #[.val (.ref a0), .val (.int (1 : Int32)), .val (.ref a2), .val (.int ((0 : Int32) + (1 : Int32))), .val (.int (1 : Int32)), .val (.int (0 : Int32)), .val (.int jj0)]) rfl (pc' := 38) rfl ?_
   rw [show ((0 : Int32) + (1 : Int32)) = (1 : Int32) from by decide]
   refine w_iinc X23 hx (d9_38 hby) (v := (1 : Int32)) rfl rfl (L' := #[.val (.ref a0), .val (.int (1 : Int32)), .val (.ref a2), .val (.int (1 : Int32)), .val (.int (1 : Int32)), .val (.int ((0 : Int32) + (1 : Int32))), .val (.int jj0)]) rfl (pc' := 41) rfl ?_
   rw [show ((0 : Int32) + (1 : Int32)) = (1 : Int32) from by decide]
   refine w_goto X23 hx (d9_41 hby) (pc' := 3) (by decide) (by decide) ?_
   refine w_iload X23 hx (d9_3 hby) rfl (pc' := 5) rfl ?_
   refine w_iload X23 hx (d9_5 hby) rfl (pc' := 7) rfl ?_
   refine w_icY X23 hx (d9_7 hby) (flt (by decide : ¬ ((1 : Int32) < (1 : Int32)))).2.1 (pc' := 44) (by decide) (by decide) ?_
   refine w_iload X23 hx (d9_44 hby) rfl (pc' := 46) rfl ?_
   exact w_done X23 hlk (v := some (.int (1 : Int32))) e23 (fun h => by rw [hret] at h; cases h) (fun fs hr => retI X23 hx hret (d9_46 hby) hr) (by decide) (by decide) (Or.inl ⟨rfl, N27, K26, V25, hc21⟩)
theorem ef_m13_13 (m : MethodId)   : entryFrame m #[(.int (1 : Int32))] 1 = mkF m 0 #[.val (.int (1 : Int32))] [] := by first | (simp [entryFrame, mkF, argsToLocals, Value.category]; done) | rfl
def Q_m13_13 (Z : State)  (h0 : Heap) (n0 : Nat) (v : Option Value) (h : Heap) (L : List Loc) : Prop := v = some (.int (2 : Int32)) ∧ Fr n0 L ∧ h = h0
theorem rm_m13_13 (l : Launch) (Z : State) (aZ : Array Value) (hw : ∀ d ∈ tables_1, d.before aZ Z = true) (ws : List Jvm.Cond)  (h0 : Heap) (n0 : Nat) (Z0 : n0 ≤ h0.size) :
    MetN l Z yn_13 jdk_52_method_3_code 1 (some .int) ws ({ frames := 0, cells := 0, slots := 0, locals := 0 } : Room) #[(.int (1 : Int32))] h0 (Q_m13_13 Z  h0 n0) := by
 refine MetN.of (plainFor_of_name pn_3) ?_
 intro p e s m below meth c s₁ hret hx hby hml hown hnm hlk hZ X0 e0
 have N0 := Fr.nil n0
 rw [ef_m13_13 m ]
 refine w_iloadN X0 hx (d13_0 hby) rfl (pc' := 1) rfl ?_
 refine w_ifY X0 hx (d13_1 hby) (flt (by decide : ¬ ((1 : Int32) < (0 : Int32)))).2.1 (pc' := 12) (by decide) (by decide) ?_
 refine w_iloadN X0 hx (d13_12 hby) rfl (pc' := 13) rfl ?_
 refine w_ldcI X0 hx hZ hown (wd_57 hw) (d13_13 hby) (pc' := 15) rfl ?_
 refine w_icY X0 hx (d13_15 hby) (tlt (by decide : (1 : Int32) < (1073741823 : Int32))).1 (pc' := 55) (by decide) (by decide) ?_
 refine w_iloadN X0 hx (d13_55 hby) rfl (pc' := 56) rfl ?_
 refine w_iconst X0 hx (d13_56 hby) (v := (1 : Int32)) rfl (pc' := 57) rfl ?_
 refine w_ishl X0 hx (d13_57 hby) (pc' := 58) rfl ?_
 rw [show ((1 : Int32) <<< ((1 : Int32) &&& 31)) = (2 : Int32) from by decide]
 exact w_done X0 hlk (v := some (.int (2 : Int32))) e0 (fun h => by rw [hret] at h; cases h) (fun fs hr => retI X0 hx hret (d13_58 hby) hr) (by decide) (by decide) (⟨rfl, N0, rfl⟩)
theorem ef_m12_12 (m : MethodId)   : entryFrame m #[(.int (1 : Int32))] 1 = mkF m 0 #[.val (.int (1 : Int32))] [] := by first | (simp [entryFrame, mkF, argsToLocals, Value.category]; done) | rfl
def Q_m12_12 (Z : State)  (h0 : Heap) (n0 : Nat) (v : Option Value) (h : Heap) (L : List Loc) : Prop := ∃ (r0 : Addr) (c0 : ClassId), v = some (.ref r0) ∧ Fr n0 L ∧ Keep h0 h [] ∧ h0.size ≤ r0 ∧ Arv Z h r0 c0 .byte (2 : Int32) [(.int (0 : Int32)), (.int (0 : Int32))] (.int (0 : Int32))
theorem rm_m12_12 (l : Launch) (Z : State) (aZ : Array Value) (hw : ∀ d ∈ tables_1, d.before aZ Z = true) (ws : List Jvm.Cond)  (h0 : Heap) (n0 : Nat) (Z0 : n0 ≤ h0.size) :
    MetN l Z yn_12 jdk_52_method_2_code 1 (some (.array .byte)) ws ({ frames := 1, cells := 1, slots := 2, locals := 12 } : Room) #[(.int (1 : Int32))] h0 (Q_m12_12 Z  h0 n0) := by
 refine MetN.of (plainFor_of_name pn_3) ?_
 intro p e s m below meth c s₁ hret hx hby hml hown hnm hlk hZ X0 e0
 have N0 := Fr.nil n0
 rw [ef_m12_12 m ]
 refine w_iloadN X0 hx (d12_0 hby) rfl (pc' := 1) rfl ?_
 refine w_static X0 hx (y := yn_13) hown (mvT hZ (wd_54 hw)) (mvT hZ (wd_55 hw)) (mvT hZ (wd_40 hw)) (mvT hZ (wd_56 hw)) (by decide) (backOf (W := 0) (rm_m13_13 l Z aZ hw []  h0 n0 Z0 ) hZ (wd_56 hw) (wd_40 hw) (by decide) (by decide)) (by rw [hml]; rfl) [(.int (1 : Int32))] (lenOf pd_5 rfl) rfl (Nat.le_of_eq rfl) (d12_1 hby) (fun _ _ => ⟨rfl, e0, (by decide : 0 + 0 ≤ _), (by decide : 0 + 0 ≤ _)⟩) (pc' := 4) rfl ?_
 rintro _ _ ⟨T20, L20, k20, n20⟩ X20 ⟨Lc20, hQ20, l20, y20, z20⟩
 dsimp only [Pt.U, Pt.locs, Pt.cells, Pt.slots] at X20 l20 y20 z20 hQ20 ⊢
 rw [l20, y20, z20] at X20
 obtain ⟨rfl, N20q, e20⟩ := hQ20
 have N21 := Fr.app N0 N20q
 show Runs _ _ _ _ (T20.setTop (mkF m 4 #[.val (.int (1 : Int32))] [(.int (2 : Int32))]))
 refine w_newP X20 hx .byte .byte 2 rfl hZ (wd_26 hw) e20 (d12_4 hby) (by decide) (by decide) (by decide) (by decide) (by decide) (pc' := 6) rfl ?_
 intro T22 h22 k22 b22 X22 e22 E22 g22 A22
 have ge23 : n0 ≤ b22 := Nat.le_trans Z0 (Nat.le_of_eq g22.symm)
 have sz24 : h0.size ≤ b22 := Nat.le_trans (Nat.le_refl _) (Nat.le_of_eq g22.symm)
 have K25 : Keep h0 h22 [] := (Keep.refl h0 []).ext E22
 have V26 : Arv Z h22 b22 k22 .byte (2 : Int32) [(.int (0 : Int32)), (.int (0 : Int32))] (.int (0 : Int32)) := (Arv.new A22 (by decide)).pad (pad_rep [] (.int (0 : Int32)) 2)
 exact w_done X22 hlk (v := some (.ref b22)) e22 (fun h => by rw [hret] at h; cases h) (fun fs hr => retOut X22 hx hret rfl (Or.inr (Or.inr (Or.inr (Or.inr ⟨rfl, rfl, rfl⟩)))) (d12_6 hby) hr) (by decide) (by decide) (⟨b22, k22, rfl, N21, K25, sz24, V26⟩)
theorem ef_m14_14 (m : MethodId) (a0 : Addr) (p2 : Int32)  : entryFrame m #[(.ref a0), (.int (0 : Int32)), (.int p2)] 3 = mkF m 0 #[.val (.ref a0), .val (.int (0 : Int32)), .val (.int p2)] [] := by first | (simp [entryFrame, mkF, argsToLocals, Value.category]; done) | rfl
def Q_m14_14 (Z : State) (a0 : Addr) (p2 : Int32) (k_a0 : ClassId) (h0 : Heap) (n0 : Nat) (v : Option Value) (h : Heap) (L : List Loc) : Prop := v = none ∧ Fr n0 L ∧ Keep h0 h [a0] ∧ Arv Z h a0 k_a0 .byte (2 : Int32) [(.int ((p2 >>> ((0 : Int32) &&& 31)).toInt8.toInt32)), (.int ((p2 >>> ((8 : Int32) &&& 31)).toInt8.toInt32))] (.int (0 : Int32))
theorem rm_m14_14 (l : Launch) (Z : State) (aZ : Array Value) (hw : ∀ d ∈ tables_1, d.before aZ Z = true) (ws : List Jvm.Cond) (a0 : Addr) (p2 : Int32) (k_a0 : ClassId) (h0 : Heap) (n0 : Nat) (Z0 : n0 ≤ h0.size) (zz0 : Sta Z Z.heap kc1 "$assertionsDisabled" "Z" (.int (1 : Int32))) (O0 : Old Z n0 h0) (zz1 : Sta Z Z.heap kc1 "HI_BYTE_SHIFT" "I" (.int (0 : Int32))) (V_a0 : Arv Z h0 a0 k_a0 .byte (2 : Int32) [(.int (0 : Int32)), (.int (0 : Int32))] (.int (0 : Int32))) (zz2 : n0 ≤ a0) (zz3 : Sta Z Z.heap kc1 "LO_BYTE_SHIFT" "I" (.int (8 : Int32))) :
    MetN l Z yn_14 jdk_52_method_4_code 3 none ws ({ frames := 0, cells := 0, slots := 0, locals := 0 } : Room) #[(.ref a0), (.int (0 : Int32)), (.int p2)] h0 (Q_m14_14 Z a0 p2 k_a0 h0 n0) := by
 refine MetN.of (plainFor_of_name pn_3) ?_
 intro p e s m below meth c s₁ hret hx hby hml hown hnm hlk hZ X0 e0
 have N0 := Fr.nil n0
 rw [ef_m14_14 m a0 p2]
 refine w_getS X0 hx "" hZ hown (Or.inl (wd_61 hw)) Via.refl e0 (zz0.ext O0.2) (d14_0 hby) (pc' := 3) rfl ?_
 intro T20 X20 e20
 refine w_ifY X20 hx (d14_3 hby) (feq (by decide : ¬ ((1 : Int32) = (0 : Int32)))).2 (pc' := 28) (by decide) (by decide) ?_
 refine w_iloadN X20 hx (d14_28 hby) rfl (pc' := 29) rfl ?_
 refine w_iconst X20 hx (d14_29 hby) (v := (1 : Int32)) rfl (pc' := 30) rfl ?_
 refine w_ishl X20 hx (d14_30 hby) (pc' := 31) rfl ?_
 rw [show ((0 : Int32) <<< ((1 : Int32) &&& 31)) = (0 : Int32) from by decide]
 refine w_istoreN X20 hx (d14_31 hby) (L' := #[.val (.ref a0), .val (.int (0 : Int32)), .val (.int p2)]) rfl (pc' := 32) rfl ?_
 refine w_aloadN X20 hx (d14_32 hby) rfl rfl (pc' := 33) rfl ?_
 refine w_iloadN X20 hx (d14_33 hby) rfl (pc' := 34) rfl ?_
 refine w_iinc X20 hx (d14_34 hby) (v := (1 : Int32)) rfl rfl (L' := #[.val (.ref a0), .val (.int ((0 : Int32) + (1 : Int32))), .val (.int p2)]) rfl (pc' := 37) rfl ?_
 rw [show ((0 : Int32) + (1 : Int32)) = (1 : Int32) from by decide]
 refine w_iloadN X20 hx (d14_37 hby) rfl (pc' := 38) rfl ?_
 refine w_getS X20 hx "" hZ hown (Or.inl (wd_62 hw)) Via.refl e20 (zz1.ext O0.2) (d14_38 hby) (pc' := 41) rfl ?_
 intro T21 X21 e21
 refine w_ishr X21 hx (d14_41 hby) (pc' := 42) rfl ?_
 refine w_i2b X21 hx (d14_42 hby) (pc' := 43) rfl ?_
 obtain ⟨clu22, Aru22, qu22, Su22, Nu22, Hu22, Gu22⟩ := id V_a0
 have hinu22 := inb_of (j := (0 : Int32)) Su22 ⟨by decide, by decide⟩
 refine w_stB X21 hx hZ e21 Aru22 hinu22 (d14_43 hby) (pc' := 44) rfl ?_
 intro T23 h23 X23 e23 W23
 have V24 : Arv Z h23 a0 k_a0 .byte (2 : Int32) [(.int (nar .byte ((p2 >>> ((0 : Int32) &&& 31)).toInt8.toInt32))), (.int (0 : Int32))] (.int (0 : Int32)) := Arv.set Aru22 qu22 Su22 Nu22 Hu22 Gu22 (fits_nar_byte _) W23 0 rfl (Nat.le_of_ble_eq_true rfl)
 have V25 : Arv Z h23 a0 k_a0 .byte (2 : Int32) [(.int ((p2 >>> ((0 : Int32) &&& 31)).toInt8.toInt32)), (.int (0 : Int32))] (.int (0 : Int32)) := by rw [nar_b] at V24; exact V24
 have K26 : Keep h0 h23 [a0] := (Keep.refl h0 [a0]).wr W23 (Or.inl (by simp))
 have N27 := Fr.snoc X23 N0 zz2
 refine w_aloadN X23 hx (d14_44 hby) rfl rfl (pc' := 45) rfl ?_
 refine w_iloadN X23 hx (d14_45 hby) rfl (pc' := 46) rfl ?_
 refine w_iloadN X23 hx (d14_46 hby) rfl (pc' := 47) rfl ?_
 have f28 : Old Z n0 h23 := (O0.wr W23 zz2)
 refine w_getS X23 hx "" hZ hown (Or.inl (wd_63 hw)) Via.refl e23 (zz3.ext f28.2) (d14_47 hby) (pc' := 50) rfl ?_
 intro T29 X29 e29
 refine w_ishr X29 hx (d14_50 hby) (pc' := 51) rfl ?_
 refine w_i2b X29 hx (d14_51 hby) (pc' := 52) rfl ?_
 obtain ⟨clu30, Aru30, qu30, Su30, Nu30, Hu30, Gu30⟩ := id V25
 have hinu30 := inb_of (j := (1 : Int32)) Su30 ⟨by decide, by decide⟩
 refine w_stB X29 hx hZ e29 Aru30 hinu30 (d14_52 hby) (pc' := 53) rfl ?_
 intro T31 h31 X31 e31 W31
 have V32 : Arv Z h31 a0 k_a0 .byte (2 : Int32) [(.int ((p2 >>> ((0 : Int32) &&& 31)).toInt8.toInt32)), (.int (nar .byte ((p2 >>> ((8 : Int32) &&& 31)).toInt8.toInt32)))] (.int (0 : Int32)) := Arv.set Aru30 qu30 Su30 Nu30 Hu30 Gu30 (fits_nar_byte _) W31 1 rfl (Nat.le_of_ble_eq_true rfl)
 have V33 : Arv Z h31 a0 k_a0 .byte (2 : Int32) [(.int ((p2 >>> ((0 : Int32) &&& 31)).toInt8.toInt32)), (.int ((p2 >>> ((8 : Int32) &&& 31)).toInt8.toInt32))] (.int (0 : Int32)) := by rw [nar_b] at V32; exact V32
 have K34 : Keep h0 h31 [a0] := K26.wr W31 (Or.inl (by simp))
 have N35 := Fr.snoc X31 N27 zz2
 exact w_done X31 hlk (v := none) e31 (fun _ => rfl) (fun fs hr => X31.returnOut hx hret (d14_53 hby) hr) (by decide) (by decide) (⟨rfl, N35, K34, V33⟩)
theorem ef_m11_11 (m : MethodId) (a0 : Addr)  : entryFrame m #[(.ref a0), (.int (0 : Int32)), (.int (1 : Int32))] 5 = mkF m 0 #[.val (.ref a0), .val (.int (0 : Int32)), .val (.int (1 : Int32)), .unset, .unset] [] := by first | (simp [entryFrame, mkF, argsToLocals, Value.category]; done) | rfl
def Q_m11_11 (Z : State) (a0 : Addr) (k_a0 : ClassId) (jj0 : Int32) (h0 : Heap) (n0 : Nat) (v : Option Value) (h : Heap) (L : List Loc) : Prop := ∃ (r0 : Addr) (c0 : ClassId), v = some (.ref r0) ∧ Fr n0 L ∧ Keep h0 h [] ∧ h0.size ≤ r0 ∧ Arv Z h r0 c0 .byte (2 : Int32) [(.int ((jj0 >>> ((0 : Int32) &&& 31)).toInt8.toInt32)), (.int ((jj0 >>> ((8 : Int32) &&& 31)).toInt8.toInt32))] (.int (0 : Int32))
theorem rm_m11_11 (l : Launch) (Z : State) (aZ : Array Value) (hw : ∀ d ∈ tables_1, d.before aZ Z = true) (ws : List Jvm.Cond) (a0 : Addr) (k_a0 : ClassId) (jj0 : Int32) (h0 : Heap) (n0 : Nat) (Z0 : n0 ≤ h0.size) (V_a0 : Arv Z h0 a0 k_a0 .char (1 : Int32) [(.int jj0)] (.int (0 : Int32))) (zz1 : Sta Z Z.heap kc1 "$assertionsDisabled" "Z" (.int (1 : Int32))) (O0 : Old Z n0 h0) (zz2 : Sta Z Z.heap kc1 "HI_BYTE_SHIFT" "I" (.int (0 : Int32))) (zz3 : Sta Z Z.heap kc1 "LO_BYTE_SHIFT" "I" (.int (8 : Int32))) :
    MetN l Z yn_11 jdk_52_method_14_code 5 (some (.array .byte)) ws ({ frames := 2, cells := 1, slots := 2, locals := 24 } : Room) #[(.ref a0), (.int (0 : Int32)), (.int (1 : Int32))] h0 (Q_m11_11 Z a0 k_a0 jj0 h0 n0) := by
 refine MetN.of (plainFor_of_name pn_3) ?_
 intro p e s m below meth c s₁ hret hx hby hml hown hnm hlk hZ X0 e0
 have N0 := Fr.nil n0
 rw [ef_m11_11 m a0]
 refine w_iloadN X0 hx (d11_0 hby) rfl (pc' := 1) rfl ?_
 refine w_static X0 hx (y := yn_12) hown (mvT hZ (wd_51 hw)) (mvT hZ (wd_52 hw)) (mvT hZ (wd_40 hw)) (mvT hZ (wd_53 hw)) (by decide) (backOf (W := 0) (rm_m12_12 l Z aZ hw []  h0 n0 Z0 ) hZ (wd_53 hw) (wd_40 hw) (by decide) (by decide)) (by rw [hml]; rfl) [(.int (1 : Int32))] (lenOf pd_6 rfl) rfl (Nat.le_of_eq rfl) (d11_1 hby) (fun _ _ => ⟨rfl, e0, (by decide : 0 + 1 ≤ _), (by decide : 0 + 2 ≤ _)⟩) (pc' := 4) rfl ?_
 rintro _ _ ⟨T20, L20, k20, n20⟩ X20 ⟨Lc20, hQ20, l20, y20, z20⟩
 dsimp only [Pt.U, Pt.locs, Pt.cells, Pt.slots] at X20 l20 y20 z20 hQ20 ⊢
 rw [l20, y20, z20] at X20
 obtain ⟨r0_20, c0_20, rfl, N20q, K20, g20_0, g20_1⟩ := hQ20
 have N21 := Fr.app N0 N20q
 have K22 : Keep h0 T20.heap [] := (Keep.refl h0 []).trans K20 (all0 (P := fun x => x ∈ [] ∨ h0.size ≤ x))
 have ge23 : n0 ≤ r0_20 := Nat.le_trans Z0 g20_0
 have sz24 : h0.size ≤ r0_20 := Nat.le_trans (Nat.le_refl _) g20_0
 show Runs _ _ _ _ (T20.setTop (mkF m 4 #[.val (.ref a0), .val (.int (0 : Int32)), .val (.int (1 : Int32)), .unset, .unset] [(.ref r0_20)]))
 refine w_astoreN X20 hx (d11_4 hby) rfl (L' := #[.val (.ref a0), .val (.int (0 : Int32)), .val (.int (1 : Int32)), .val (.ref r0_20), .unset]) rfl (pc' := 5) rfl ?_
 refine w_iconst X20 hx (d11_5 hby) (v := (0 : Int32)) rfl (pc' := 6) rfl ?_
 refine w_istore X20 hx (d11_6 hby) (L' := #[.val (.ref a0), .val (.int (0 : Int32)), .val (.int (1 : Int32)), .val (.ref r0_20), .val (.int (0 : Int32))]) rfl (pc' := 8) rfl ?_
 refine w_iload X20 hx (d11_8 hby) rfl (pc' := 10) rfl ?_
 refine w_iloadN X20 hx (d11_10 hby) rfl (pc' := 11) rfl ?_
 refine w_icN X20 hx (d11_11 hby) (tlt (by decide : (0 : Int32) < (1 : Int32))).2.1 (pc' := 14) rfl ?_
 refine w_aloadN X20 hx (d11_14 hby) rfl rfl (pc' := 15) rfl ?_
 refine w_iload X20 hx (d11_15 hby) rfl (pc' := 17) rfl ?_
 refine w_aloadN X20 hx (d11_17 hby) rfl rfl (pc' := 18) rfl ?_
 refine w_iloadN X20 hx (d11_18 hby) rfl (pc' := 19) rfl ?_
 have f25 : Arv Z T20.heap a0 k_a0 .char (1 : Int32) [(.int jj0)] (.int (0 : Int32)) := (V_a0.keep K20 nin0)
 obtain ⟨clu26, Aru26, qu26, Su26, Nu26, Hu26, Gu26⟩ := id f25
 have hinu26 := inb_of (j := (0 : Int32)) Su26 ⟨by decide, by decide⟩
 refine w_caload X20 hx hZ rfl Aru26 hinu26 (Hu26.at hinu26 rfl) (d11_19 hby) (pc' := 20) rfl ?_
 have f27 : Old Z n0 T20.heap := (O0.keep K20 all0)
 refine w_static X20 hx (y := yn_14) hown (mvT hZ (wd_58 hw)) (mvT hZ (wd_59 hw)) (mvT hZ (wd_40 hw)) (mvT hZ (wd_60 hw)) (by decide) (backOf (W := 0) (rm_m14_14 l Z aZ hw [] r0_20 jj0 c0_20 T20.heap n0 (Nat.le_trans Z0 K20.1) zz1 f27 zz2 g20_1 ge23 zz3) hZ (wd_60 hw) (wd_40 hw) (by decide) (by decide)) (by rw [hml]; rfl) [(.ref r0_20), (.int (0 : Int32)), (.int jj0)] (lenOf pd_7 rfl) rfl (Nat.le_of_eq rfl) (d11_20 hby) (fun _ _ => ⟨rfl, rfl, (by decide : 1 + 0 ≤ _), (by decide : 2 + 0 ≤ _)⟩) (pc' := 23) rfl ?_
 rintro _ _ ⟨T28, L28, k28, n28⟩ X28 ⟨Lc28, hQ28, l28, y28, z28⟩
 dsimp only [Pt.U, Pt.locs, Pt.cells, Pt.slots] at X28 l28 y28 z28 hQ28 ⊢
 rw [l28, y28, z28] at X28
 obtain ⟨rfl, N28q, K28, g28_0⟩ := hQ28
 have N29 := Fr.app N21 N28q
 have K30 : Keep h0 T28.heap [] := K22.trans K28 (allS (Or.inr sz24) (all0 (P := fun x => x ∈ [] ∨ h0.size ≤ x)))
 show Runs _ _ _ _ (T28.setTop (mkF m 23 #[.val (.ref a0), .val (.int (0 : Int32)), .val (.int (1 : Int32)), .val (.ref r0_20), .val (.int (0 : Int32))] []))
 refine w_iinc X28 hx (d11_23 hby) (v := (1 : Int32)) rfl rfl (L' := #[.val (.ref a0), .val (.int ((0 : Int32) + (1 : Int32))), .val (.int (1 : Int32)), .val (.ref r0_20), .val (.int (0 : Int32))]) rfl (pc' := 26) rfl ?_
 rw [show ((0 : Int32) + (1 : Int32)) = (1 : Int32) from by decide]
 refine w_iinc X28 hx (d11_26 hby) (v := (1 : Int32)) rfl rfl (L' := #[.val (.ref a0), .val (.int (1 : Int32)), .val (.int (1 : Int32)), .val (.ref r0_20), .val (.int ((0 : Int32) + (1 : Int32)))]) rfl (pc' := 29) rfl ?_
 rw [show ((0 : Int32) + (1 : Int32)) = (1 : Int32) from by decide]
 refine w_goto X28 hx (d11_29 hby) (pc' := 8) (by decide) (by decide) ?_
 refine w_iload X28 hx (d11_8 hby) rfl (pc' := 10) rfl ?_
 refine w_iloadN X28 hx (d11_10 hby) rfl (pc' := 11) rfl ?_
 refine w_icY X28 hx (d11_11 hby) (flt (by decide : ¬ ((1 : Int32) < (1 : Int32)))).2.1 (pc' := 32) (by decide) (by decide) ?_
 refine w_aloadN X28 hx (d11_32 hby) rfl rfl (pc' := 33) rfl ?_
 exact w_done X28 hlk (v := some (.ref r0_20)) rfl (fun h => by rw [hret] at h; cases h) (fun fs hr => retOut X28 hx hret rfl (Or.inr (Or.inr (Or.inr (Or.inr ⟨rfl, rfl, rfl⟩)))) (d11_33 hby) hr) (by decide) (by decide) (⟨r0_20, c0_20, rfl, N29, K30, sz24, g28_0⟩)
theorem ef_m15_15 (m : MethodId) (a0 : Addr) (p1 : Int32)  : entryFrame m #[(.ref a0), (.int p1)] 2 = mkF m 0 #[.val (.ref a0), .val (.int p1)] [] := by first | (simp [entryFrame, mkF, argsToLocals, Value.category]; done) | rfl
def Q_m15_15 (Z : State) (a0 : Addr) (p1 : Int32) (k_a0 : ClassId) (jj0 : Int32) (jj1 : Int32) (h0 : Heap) (n0 : Nat) (v : Option Value) (h : Heap) (L : List Loc) : Prop := v = some (.int (((((gI [jj0, jj1] (p1 <<< ((1 : Int32) &&& 31))) &&& (255 : Int32)) <<< ((0 : Int32) &&& 31)) ||| (((gI [jj0, jj1] ((p1 <<< ((1 : Int32) &&& 31)) + (1 : Int32))) &&& (255 : Int32)) <<< ((8 : Int32) &&& 31))).toUInt32.toUInt16.toUInt32.toInt32)) ∧ Fr n0 L ∧ h = h0
theorem rm_m15_15 (l : Launch) (Z : State) (aZ : Array Value) (hw : ∀ d ∈ tables_1, d.before aZ Z = true) (ws : List Jvm.Cond) (a0 : Addr) (p1 : Int32) (k_a0 : ClassId) (jj0 : Int32) (jj1 : Int32) (h0 : Heap) (n0 : Nat) (Z0 : n0 ≤ h0.size) (zz2 : Sta Z Z.heap kc1 "$assertionsDisabled" "Z" (.int (1 : Int32))) (O0 : Old Z n0 h0) (V_a0 : Arv Z h0 a0 k_a0 .byte (2 : Int32) [(.int jj0), (.int jj1)] (.int (0 : Int32))) (hP_3 : ¬ (p1 < (0 : Int32))) (hP_4 : p1 < (1 : Int32)) (zz3 : Sta Z Z.heap kc1 "HI_BYTE_SHIFT" "I" (.int (0 : Int32))) (zz4 : Sta Z Z.heap kc1 "LO_BYTE_SHIFT" "I" (.int (8 : Int32))) :
    MetN l Z yn_15 jdk_52_method_5_code 2 (some .char) ws ({ frames := 0, cells := 0, slots := 0, locals := 0 } : Room) #[(.ref a0), (.int p1)] h0 (Q_m15_15 Z a0 p1 k_a0 jj0 jj1 h0 n0) := by
 refine MetN.of (plainFor_of_name pn_3) ?_
 intro p e s m below meth c s₁ hret hx hby hml hown hnm hlk hZ X0 e0
 have N0 := Fr.nil n0
 rw [ef_m15_15 m a0 p1]
 refine w_getS X0 hx "" hZ hown (Or.inl (wd_61 hw)) Via.refl e0 (zz2.ext O0.2) (d15_0 hby) (pc' := 3) rfl ?_
 intro T20 X20 e20
 refine w_ifY X20 hx (d15_3 hby) (feq (by decide : ¬ ((1 : Int32) = (0 : Int32)))).2 (pc' := 28) (by decide) (by decide) ?_
 refine w_iloadN X20 hx (d15_28 hby) rfl (pc' := 29) rfl ?_
 refine w_iconst X20 hx (d15_29 hby) (v := (1 : Int32)) rfl (pc' := 30) rfl ?_
 refine w_ishl X20 hx (d15_30 hby) (pc' := 31) rfl ?_
 refine w_istoreN X20 hx (d15_31 hby) (L' := #[.val (.ref a0), .val (.int (p1 <<< ((1 : Int32) &&& 31)))]) rfl (pc' := 32) rfl ?_
 refine w_aloadN X20 hx (d15_32 hby) rfl rfl (pc' := 33) rfl ?_
 refine w_iloadN X20 hx (d15_33 hby) rfl (pc' := 34) rfl ?_
 refine w_iinc X20 hx (d15_34 hby) (v := (1 : Int32)) rfl rfl (L' := #[.val (.ref a0), .val (.int ((p1 <<< ((1 : Int32) &&& 31)) + (1 : Int32)))]) rfl (pc' := 37) rfl ?_
 obtain ⟨clu21, Aru21, qu21, Su21, Nu21, Hu21, Gu21⟩ := id V_a0
 have hinu21 := inb_of (j := (p1 <<< ((1 : Int32) &&& 31))) Su21 ⟨(own_shl_in (n := 1) (by decide) (by decide) hP_3 hP_4).1.1, (Eq.mp (congrArg (fun z => (p1 <<< ((1 : Int32) &&& 31)) < z) (by decide : (1 : Int32) <<< ((1 : Int32) &&& 31) = 2)) (own_shl_in (n := 1) (by decide) (by decide) hP_3 hP_4).1.2)⟩
 refine w_baload X20 hx hZ e20 Aru21 hinu21 (Hu21.at hinu21 (own_gI [jj0, jj1] (p1 <<< ((1 : Int32) &&& 31)))) (d15_37 hby) (pc' := 38) rfl ?_
 refine w_sipush X20 hx (d15_38 hby) (v := (255 : Int32)) rfl (pc' := 41) rfl ?_
 refine w_iand X20 hx (d15_41 hby) (pc' := 42) rfl ?_
 refine w_getS X20 hx "" hZ hown (Or.inl (wd_62 hw)) Via.refl e20 (zz3.ext O0.2) (d15_42 hby) (pc' := 45) rfl ?_
 intro T22 X22 e22
 refine w_ishl X22 hx (d15_45 hby) (pc' := 46) rfl ?_
 refine w_aloadN X22 hx (d15_46 hby) rfl rfl (pc' := 47) rfl ?_
 refine w_iloadN X22 hx (d15_47 hby) rfl (pc' := 48) rfl ?_
 obtain ⟨clu23, Aru23, qu23, Su23, Nu23, Hu23, Gu23⟩ := id V_a0
 have hinu23 := inb_of (j := ((p1 <<< ((1 : Int32) &&& 31)) + (1 : Int32))) Su23 ⟨(own_shl_in (n := 1) (by decide) (by decide) hP_3 hP_4).2.1, (Eq.mp (congrArg (fun z => ((p1 <<< ((1 : Int32) &&& 31)) + (1 : Int32)) < z) (by decide : (1 : Int32) <<< ((1 : Int32) &&& 31) = 2)) (own_shl_in (n := 1) (by decide) (by decide) hP_3 hP_4).2.2)⟩
 refine w_baload X22 hx hZ e22 Aru23 hinu23 (Hu23.at hinu23 (own_gI [jj0, jj1] ((p1 <<< ((1 : Int32) &&& 31)) + (1 : Int32)))) (d15_48 hby) (pc' := 49) rfl ?_
 refine w_sipush X22 hx (d15_49 hby) (v := (255 : Int32)) rfl (pc' := 52) rfl ?_
 refine w_iand X22 hx (d15_52 hby) (pc' := 53) rfl ?_
 refine w_getS X22 hx "" hZ hown (Or.inl (wd_63 hw)) Via.refl e22 (zz4.ext O0.2) (d15_53 hby) (pc' := 56) rfl ?_
 intro T24 X24 e24
 refine w_ishl X24 hx (d15_56 hby) (pc' := 57) rfl ?_
 refine w_ior X24 hx (d15_57 hby) (pc' := 58) rfl ?_
 refine w_i2c X24 hx (d15_58 hby) (pc' := 59) rfl ?_
 exact w_done X24 hlk (v := some (.int (((((gI [jj0, jj1] (p1 <<< ((1 : Int32) &&& 31))) &&& (255 : Int32)) <<< ((0 : Int32) &&& 31)) ||| (((gI [jj0, jj1] ((p1 <<< ((1 : Int32) &&& 31)) + (1 : Int32))) &&& (255 : Int32)) <<< ((8 : Int32) &&& 31))).toUInt32.toUInt16.toUInt32.toInt32))) e24 (fun h => by rw [hret] at h; cases h) (fun fs hr => retOut X24 hx hret (t := .char) (XT.narrow_c _) (Or.inl ⟨rfl, by simp, _, rfl⟩) (d15_59 hby) hr) (by decide) (by decide) (⟨rfl, N0, rfl⟩)
theorem ef_m8_9 (m : MethodId) (a0 : Addr)  : entryFrame m #[(.ref a0), (.int (0 : Int32)), (.int (1 : Int32))] 6 = mkF m 0 #[.val (.ref a0), .val (.int (0 : Int32)), .val (.int (1 : Int32)), .unset, .unset, .unset] [] := by first | (simp [entryFrame, mkF, argsToLocals, Value.category]; done) | rfl
def Q_m8_9 (Z : State) (a0 : Addr) (k_a0 : ClassId) (jj0 : Int32) (h0 : Heap) (n0 : Nat) (v : Option Value) (h : Heap) (L : List Loc) : Prop := (∃ (t : Addr) (kb : ClassId), v = some (.ref t) ∧ Fr n0 L ∧ Keep h0 h [] ∧ h0.size ≤ t ∧ Arv Z h t kb .byte (1 : Int32) [(.int (jj0.toInt8.toInt32))] (.int (0 : Int32)) ∧ ¬ ((255 : Int32) < jj0)) ∨ (∃ (t : Addr) (kb : ClassId), v = some (.ref t) ∧ Fr n0 L ∧ Keep h0 h [] ∧ h0.size ≤ t ∧ Arv Z h t kb .byte (2 : Int32) [(.int ((jj0 >>> ((0 : Int32) &&& 31)).toInt8.toInt32)), (.int ((jj0 >>> ((8 : Int32) &&& 31)).toInt8.toInt32))] (.int (0 : Int32)) ∧ (255 : Int32) < jj0)
theorem rm_m8_9 (l : Launch) (Z : State) (aZ : Array Value) (hw : ∀ d ∈ tables_1, d.before aZ Z = true) (ws : List Jvm.Cond) (a0 : Addr) (k_a0 : ClassId) (jj0 : Int32) (h0 : Heap) (n0 : Nat) (Z0 : n0 ≤ h0.size) (V_a0 : Arv Z h0 a0 k_a0 .char (1 : Int32) [(.int jj0)] (.int (0 : Int32))) (zz1 : Sta Z Z.heap kc1 "$assertionsDisabled" "Z" (.int (1 : Int32))) (O0 : Old Z n0 h0) (zz2 : Sta Z Z.heap kc1 "HI_BYTE_SHIFT" "I" (.int (0 : Int32))) (zz3 : Sta Z Z.heap kc1 "LO_BYTE_SHIFT" "I" (.int (8 : Int32))) (zz4 : nar .char jj0 = jj0) :
    MetN l Z yn_8 jdk_52_method_16_code 6 (some (.array .byte)) ws ({ frames := 3, cells := 2, slots := 3, locals := 40 } : Room) #[(.ref a0), (.int (0 : Int32)), (.int (1 : Int32))] h0 (Q_m8_9 Z a0 k_a0 jj0 h0 n0) := by
 refine MetN.of (plainFor_of_name pn_3) ?_
 intro p e s m below meth c s₁ hret hx hby hml hown hnm hlk hZ X0 e0
 have N0 := Fr.nil n0
 rw [ef_m8_9 m a0]
 refine w_iloadN X0 hx (d8_0 hby) rfl (pc' := 1) rfl ?_
 refine w_newP X0 hx .byte .byte 1 rfl hZ (wd_26 hw) e0 (d8_1 hby) (by decide) (by decide) (by decide) (by decide) (by decide) (pc' := 3) rfl ?_
 intro T20 h20 k20 b20 X20 e20 E20 g20 A20
 have ge21 : n0 ≤ b20 := Nat.le_trans Z0 (Nat.le_of_eq g20.symm)
 have sz22 : h0.size ≤ b20 := Nat.le_trans (Nat.le_refl _) (Nat.le_of_eq g20.symm)
 have K23 : Keep h0 h20 [] := (Keep.refl h0 []).ext E20
 have V24 : Arv Z h20 b20 k20 .byte (1 : Int32) [(.int (0 : Int32))] (.int (0 : Int32)) := (Arv.new A20 (by decide)).pad (pad_rep [] (.int (0 : Int32)) 1)
 refine w_astoreN X20 hx (d8_3 hby) rfl (L' := #[.val (.ref a0), .val (.int (0 : Int32)), .val (.int (1 : Int32)), .val (.ref b20), .unset, .unset]) rfl (pc' := 4) rfl ?_
 refine w_aloadN X20 hx (d8_4 hby) rfl rfl (pc' := 5) rfl ?_
 refine w_iloadN X20 hx (d8_5 hby) rfl (pc' := 6) rfl ?_
 refine w_aloadN X20 hx (d8_6 hby) rfl rfl (pc' := 7) rfl ?_
 refine w_iconst X20 hx (d8_7 hby) (v := (0 : Int32)) rfl (pc' := 8) rfl ?_
 refine w_iloadN X20 hx (d8_8 hby) rfl (pc' := 9) rfl ?_
 have f25 : Arv Z h20 a0 k_a0 .char (1 : Int32) [(.int jj0)] (.int (0 : Int32)) := (V_a0.ext E20)
 refine w_static X20 hx (y := yn_9) hown (mvT hZ (wd_42 hw)) (mvT hZ (wd_43 hw)) (mvT hZ (wd_40 hw)) (mvT hZ (wd_44 hw)) (by decide) (backOf (W := 0) (rm_m9_10 l Z aZ hw [] a0 b20 k_a0 jj0 k20 h20 n0 (Nat.le_trans Z0 E20.1) f25 V24 ge21) hZ (wd_44 hw) (wd_40 hw) (by decide) (by decide)) (by rw [hml]; rfl) [(.ref a0), (.int (0 : Int32)), (.ref b20), (.int (0 : Int32)), (.int (1 : Int32))] (lenOf pd_4 rfl) rfl (Nat.le_of_eq rfl) (d8_9 hby) (fun _ _ => ⟨rfl, e20, (by decide : 1 + 0 ≤ _), (by decide : 1 + 0 ≤ _)⟩) (pc' := 12) rfl ?_
 rintro _ _ ⟨T26, L26, k26, n26⟩ X26 ⟨Lc26, hQ26, l26, y26, z26⟩
 dsimp only [Pt.U, Pt.locs, Pt.cells, Pt.slots] at X26 l26 y26 z26 hQ26 ⊢
 rw [l26, y26, z26] at X26
 rcases hQ26 with ⟨rfl, N26q, K26, g26_0, g26_1⟩ | ⟨j_26, rfl, N26q, K26, g26_0, g26_1, g26_2⟩
 · have N27 := Fr.app N0 N26q
   have K28 : Keep h0 T26.heap [] := K23.trans K26 (allS (Or.inr sz22) (all0 (P := fun x => x ∈ [] ∨ h0.size ≤ x)))
   show Runs _ _ _ _ (T26.setTop (mkF m 12 #[.val (.ref a0), .val (.int (0 : Int32)), .val (.int (1 : Int32)), .val (.ref b20), .unset, .unset] [(.int (1 : Int32))]))
   refine w_istore X26 hx (d8_12 hby) (L' := #[.val (.ref a0), .val (.int (0 : Int32)), .val (.int (1 : Int32)), .val (.ref b20), .val (.int (1 : Int32)), .unset]) rfl (pc' := 14) rfl ?_
   refine w_iload X26 hx (d8_14 hby) rfl (pc' := 16) rfl ?_
   refine w_iloadN X26 hx (d8_16 hby) rfl (pc' := 17) rfl ?_
   refine w_icY X26 hx (d8_17 hby) (teq (by decide : (1 : Int32) = (1 : Int32))).1 (pc' := 57) (by decide) (by decide) ?_
   refine w_aloadN X26 hx (d8_57 hby) rfl rfl (pc' := 58) rfl ?_
   exact w_done X26 hlk (v := some (.ref b20)) rfl (fun h => by rw [hret] at h; cases h) (fun fs hr => retOut X26 hx hret rfl (Or.inr (Or.inr (Or.inr (Or.inr ⟨rfl, rfl, rfl⟩)))) (d8_58 hby) hr) (by decide) (by decide) (Or.inl ⟨b20, k20, rfl, N27, K28, sz22, g26_0, g26_1⟩)
 · have N29 := Fr.app N0 N26q
   have K30 : Keep h0 T26.heap [] := K23.trans K26 (allS (Or.inr sz22) (all0 (P := fun x => x ∈ [] ∨ h0.size ≤ x)))
   show Runs _ _ _ _ (T26.setTop (mkF m 12 #[.val (.ref a0), .val (.int (0 : Int32)), .val (.int (1 : Int32)), .val (.ref b20), .unset, .unset] [(.int j_26)]))
   refine w_istore X26 hx (d8_12 hby) (L' := #[.val (.ref a0), .val (.int (0 : Int32)), .val (.int (1 : Int32)), .val (.ref b20), .val (.int j_26), .unset]) rfl (pc' := 14) rfl ?_
   refine w_iload X26 hx (d8_14 hby) rfl (pc' := 16) rfl ?_
   refine w_iloadN X26 hx (d8_16 hby) rfl (pc' := 17) rfl ?_
   refine w_icN X26 hx (d8_17 hby) (feq (fun q => by have h9 := g26_1; rw [q] at h9; exact absurd h9 (by decide))).1 (pc' := 20) rfl ?_
   refine w_aloadN X26 hx (d8_20 hby) rfl rfl (pc' := 21) rfl ?_
   refine w_iloadN X26 hx (d8_21 hby) rfl (pc' := 22) rfl ?_
   refine w_iloadN X26 hx (d8_22 hby) rfl (pc' := 23) rfl ?_
   have ne31 : a0 ≠ b20 := (Nat.ne_of_lt (Nat.lt_of_lt_of_le V_a0.lt (Nat.le_trans (Nat.le_refl _) (Nat.le_of_eq g20.symm))))
   have f32 : Arv Z T26.heap a0 k_a0 .char (1 : Int32) [(.int jj0)] (.int (0 : Int32)) := (f25.keep K26 (ninS ne31 nin0))
   have f33 : Old Z n0 T26.heap := ((O0.ext E20).keep K26 (allS ge21 all0))
   have le34 : h0.size ≤ T26.heap.size := (Nat.le_trans E20.1 K26.1)
   refine w_static X26 hx (y := yn_11) hown (mvT hZ (wd_48 hw)) (mvT hZ (wd_49 hw)) (mvT hZ (wd_40 hw)) (mvT hZ (wd_50 hw)) (by decide) (backOf (W := 0) (rm_m11_11 l Z aZ hw [] a0 k_a0 jj0 T26.heap n0 (Nat.le_trans Z0 le34) f32 zz1 f33 zz2 zz3) hZ (wd_50 hw) (wd_40 hw) (by decide) (by decide)) (by rw [hml]; rfl) [(.ref a0), (.int (0 : Int32)), (.int (1 : Int32))] (lenOf pd_8 rfl) rfl (Nat.le_of_eq rfl) (d8_23 hby) (fun _ _ => ⟨rfl, rfl, (by decide : 1 + 1 ≤ _), (by decide : 1 + 2 ≤ _)⟩) (pc' := 26) rfl ?_
   rintro _ _ ⟨T35, L35, k35, n35⟩ X35 ⟨Lc35, hQ35, l35, y35, z35⟩
   dsimp only [Pt.U, Pt.locs, Pt.cells, Pt.slots] at X35 l35 y35 z35 hQ35 ⊢
   rw [l35, y35, z35] at X35
   obtain ⟨r0_35, c0_35, rfl, N35q, K35, g35_0, g35_1⟩ := hQ35
   have N36 := Fr.app N29 N35q
   have K37 : Keep h0 T35.heap [] := K30.trans K35 (all0 (P := fun x => x ∈ [] ∨ h0.size ≤ x))
   have ge38 : n0 ≤ r0_35 := Nat.le_trans (Nat.le_trans Z0 le34) g35_0
   have sz39 : h0.size ≤ r0_35 := Nat.le_trans le34 g35_0
   show Runs _ _ _ _ (T35.setTop (mkF m 26 #[.val (.ref a0), .val (.int (0 : Int32)), .val (.int (1 : Int32)), .val (.ref b20), .val (.int j_26), .unset] [(.ref r0_35)]))
   refine w_astore X35 hx (d8_26 hby) rfl (L' := #[.val (.ref a0), .val (.int (0 : Int32)), .val (.int (1 : Int32)), .val (.ref b20), .val (.int j_26), .val (.ref r0_35)]) rfl (pc' := 28) rfl ?_
   refine w_aload X35 hx (d8_28 hby) rfl rfl (pc' := 30) rfl ?_
   refine w_iload X35 hx (d8_30 hby) rfl (pc' := 32) rfl ?_
   have f40 : Old Z n0 T35.heap := (f33.keep K35 all0)
   have le41 : h0.size ≤ T35.heap.size := (Nat.le_trans le34 K35.1)
   refine w_static X35 hx (y := yn_15) hown (mvT hZ (wd_64 hw)) (mvT hZ (wd_65 hw)) (mvT hZ (wd_40 hw)) (mvT hZ (wd_66 hw)) (by decide) (backOf (W := 0) (rm_m15_15 l Z aZ hw [] r0_35 j_26 c0_35 ((jj0 >>> ((0 : Int32) &&& 31)).toInt8.toInt32) ((jj0 >>> ((8 : Int32) &&& 31)).toInt8.toInt32) T35.heap n0 (Nat.le_trans Z0 le41) zz1 f40 g35_1 g26_0 g26_1 zz2 zz3) hZ (wd_66 hw) (wd_40 hw) (by decide) (by decide)) (by rw [hml]; rfl) [(.ref r0_35), (.int j_26)] (lenOf pd_9 rfl) rfl (Nat.le_of_eq rfl) (d8_32 hby) (fun _ _ => ⟨rfl, rfl, (by decide : 2 + 0 ≤ _), (by decide : 3 + 0 ≤ _)⟩) (pc' := 35) rfl ?_
   rintro _ _ ⟨T42, L42, k42, n42⟩ X42 ⟨Lc42, hQ42, l42, y42, z42⟩
   dsimp only [Pt.U, Pt.locs, Pt.cells, Pt.slots] at X42 l42 y42 z42 hQ42 ⊢
   rw [l42, y42, z42] at X42
   obtain ⟨rfl, N42q, e42⟩ := hQ42
   have N43 := Fr.app N36 N42q
   show Runs _ _ _ _ (T42.setTop (mkF m 35 #[.val (.ref a0), .val (.int (0 : Int32)), .val (.int (1 : Int32)), .val (.ref b20), .val (.int j_26), .val (.ref r0_35)] [(.int (((((gI [((jj0 >>> ((0 : Int32) &&& 31)).toInt8.toInt32), ((jj0 >>> ((8 : Int32) &&& 31)).toInt8.toInt32)] (j_26 <<< ((1 : Int32) &&& 31))) &&& (255 : Int32)) <<< ((0 : Int32) &&& 31)) ||| (((gI [((jj0 >>> ((0 : Int32) &&& 31)).toInt8.toInt32), ((jj0 >>> ((8 : Int32) &&& 31)).toInt8.toInt32)] ((j_26 <<< ((1 : Int32) &&& 31)) + (1 : Int32))) &&& (255 : Int32)) <<< ((8 : Int32) &&& 31))).toUInt32.toUInt16.toUInt32.toInt32))]))
   refine w_sipush X42 hx (d8_35 hby) (v := (255 : Int32)) rfl (pc' := 38) rfl ?_
   refine w_icY X42 hx (d8_38 hby) (tlt (show (255 : Int32) < (((((gI [((jj0 >>> ((0 : Int32) &&& 31)).toInt8.toInt32), ((jj0 >>> ((8 : Int32) &&& 31)).toInt8.toInt32)] (j_26 <<< ((1 : Int32) &&& 31))) &&& (255 : Int32)) <<< ((0 : Int32) &&& 31)) ||| (((gI [((jj0 >>> ((0 : Int32) &&& 31)).toInt8.toInt32), ((jj0 >>> ((8 : Int32) &&& 31)).toInt8.toInt32)] ((j_26 <<< ((1 : Int32) &&& 31)) + (1 : Int32))) &&& (255 : Int32)) <<< ((8 : Int32) &&& 31))).toUInt32.toUInt16.toUInt32.toInt32) from by rw [own_uj1 g26_0 g26_1 zz4]; exact g26_2)).2.2.1 (pc' := 54) (by decide) (by decide) ?_
   refine w_aload X42 hx (d8_54 hby) rfl rfl (pc' := 56) rfl ?_
   exact w_done X42 hlk (v := some (.ref r0_35)) e42 (fun h => by rw [hret] at h; cases h) (fun fs hr => retOut X42 hx hret rfl (Or.inr (Or.inr (Or.inr (Or.inr ⟨rfl, rfl, rfl⟩)))) (d8_56 hby) hr) (by decide) (by decide) (Or.inr (⟨r0_35, c0_35, rfl, N43, K37, sz39, g35_1, (own_or1 g26_0 g26_1 g26_2)⟩))
theorem ef_m10_16 (m : MethodId) (a0 : Addr)  : entryFrame m #[(.ref a0), (.int (1 : Int32))] 2 = mkF m 0 #[.val (.ref a0), .val (.int (1 : Int32))] [] := by first | (simp [entryFrame, mkF, argsToLocals, Value.category]; done) | rfl
def Q_m10_16 (Z : State) (a0 : Addr) (k_a0 : ClassId) (jj0 : Int32) (h0 : Heap) (n0 : Nat) (v : Option Value) (h : Heap) (L : List Loc) : Prop := v = some (.int (0 : Int32)) ∧ Fr n0 L ∧ h = h0
theorem rm_m10_16 (l : Launch) (Z : State) (aZ : Array Value) (hw : ∀ d ∈ tables_1, d.before aZ Z = true) (ws : List Jvm.Cond) (a0 : Addr) (k_a0 : ClassId) (jj0 : Int32) (h0 : Heap) (n0 : Nat) (Z0 : n0 ≤ h0.size) (V_a0 : Arv Z h0 a0 k_a0 .byte (1 : Int32) [(.int jj0)] (.int (0 : Int32))) :
    MetN l Z yn_10 jdk_52_method_15_code 2 (some .byte) ws ({ frames := 0, cells := 0, slots := 0, locals := 0 } : Room) #[(.ref a0), (.int (1 : Int32))] h0 (Q_m10_16 Z a0 k_a0 jj0 h0 n0) := by
 refine MetN.of (plainFor_of_name pn_3) ?_
 intro p e s m below meth c s₁ hret hx hby hml hown hnm hlk hZ X0 e0
 have N0 := Fr.nil n0
 rw [ef_m10_16 m a0]
 refine w_iloadN X0 hx (d10_0 hby) rfl (pc' := 1) rfl ?_
 refine w_aloadN X0 hx (d10_1 hby) rfl rfl (pc' := 2) rfl ?_
 refine w_alen X0 hx hZ e0 V_a0 (d10_2 hby) (pc' := 3) rfl ?_
 refine w_isub X0 hx (d10_3 hby) (pc' := 4) rfl ?_
 rw [show ((1 : Int32) - (1 : Int32)) = (0 : Int32) from by decide]
 refine w_bipush X0 hx (d10_4 hby) (v := (31 : Int32)) rfl (pc' := 6) rfl ?_
 refine w_iushr X0 hx (d10_6 hby) (pc' := 7) rfl ?_
 rw [show (((0 : Int32).toUInt32 >>> ((31 : Int32) &&& 31).toUInt32).toInt32) = (0 : Int32) from by decide]
 refine w_i2b X0 hx (d10_7 hby) (pc' := 8) rfl ?_
 rw [show ((0 : Int32).toInt8.toInt32) = (0 : Int32) from by decide]
 exact w_done X0 hlk (v := some (.int (0 : Int32))) e0 (fun h => by rw [hret] at h; cases h) (fun fs hr => retN X0 hx (t := .byte) hret (by simp) (d10_8 hby) hr) (by decide) (by decide) (⟨rfl, N0, rfl⟩)
theorem ef_m10_17 (m : MethodId) (a0 : Addr)  : entryFrame m #[(.ref a0), (.int (1 : Int32))] 2 = mkF m 0 #[.val (.ref a0), .val (.int (1 : Int32))] [] := by first | (simp [entryFrame, mkF, argsToLocals, Value.category]; done) | rfl
def Q_m10_17 (Z : State) (a0 : Addr) (k_a0 : ClassId) (jj0 : Int32) (jj1 : Int32) (h0 : Heap) (n0 : Nat) (v : Option Value) (h : Heap) (L : List Loc) : Prop := v = some (.int (1 : Int32)) ∧ Fr n0 L ∧ h = h0
theorem rm_m10_17 (l : Launch) (Z : State) (aZ : Array Value) (hw : ∀ d ∈ tables_1, d.before aZ Z = true) (ws : List Jvm.Cond) (a0 : Addr) (k_a0 : ClassId) (jj0 : Int32) (jj1 : Int32) (h0 : Heap) (n0 : Nat) (Z0 : n0 ≤ h0.size) (V_a0 : Arv Z h0 a0 k_a0 .byte (2 : Int32) [(.int jj0), (.int jj1)] (.int (0 : Int32))) :
    MetN l Z yn_10 jdk_52_method_15_code 2 (some .byte) ws ({ frames := 0, cells := 0, slots := 0, locals := 0 } : Room) #[(.ref a0), (.int (1 : Int32))] h0 (Q_m10_17 Z a0 k_a0 jj0 jj1 h0 n0) := by
 refine MetN.of (plainFor_of_name pn_3) ?_
 intro p e s m below meth c s₁ hret hx hby hml hown hnm hlk hZ X0 e0
 have N0 := Fr.nil n0
 rw [ef_m10_17 m a0]
 refine w_iloadN X0 hx (d10_0 hby) rfl (pc' := 1) rfl ?_
 refine w_aloadN X0 hx (d10_1 hby) rfl rfl (pc' := 2) rfl ?_
 refine w_alen X0 hx hZ e0 V_a0 (d10_2 hby) (pc' := 3) rfl ?_
 refine w_isub X0 hx (d10_3 hby) (pc' := 4) rfl ?_
 rw [show ((1 : Int32) - (2 : Int32)) = (-1 : Int32) from by decide]
 refine w_bipush X0 hx (d10_4 hby) (v := (31 : Int32)) rfl (pc' := 6) rfl ?_
 refine w_iushr X0 hx (d10_6 hby) (pc' := 7) rfl ?_
 rw [show (((-1 : Int32).toUInt32 >>> ((31 : Int32) &&& 31).toUInt32).toInt32) = (1 : Int32) from by decide]
 refine w_i2b X0 hx (d10_7 hby) (pc' := 8) rfl ?_
 rw [show ((1 : Int32).toInt8.toInt32) = (1 : Int32) from by decide]
 exact w_done X0 hlk (v := some (.int (1 : Int32))) e0 (fun h => by rw [hret] at h; cases h) (fun fs hr => retN X0 hx (t := .byte) hret (by simp) (d10_8 hby) hr) (by decide) (by decide) (⟨rfl, N0, rfl⟩)
theorem ef_m5_8 (m : MethodId) (a0 : Addr) (a1 : Addr)  : entryFrame m #[(.ref a0), (.ref a1), (.int (0 : Int32)), (.int (1 : Int32)), .null] 6 = mkF m 0 #[.val (.ref a0), .val (.ref a1), .val (.int (0 : Int32)), .val (.int (1 : Int32)), .val .null, .unset] [] := by first | (simp [entryFrame, mkF, argsToLocals, Value.category]; done) | rfl
def Q_m5_8 (Z : State) (a0 : Addr) (a1 : Addr) (jj0 : Int32) (k_a1 : ClassId) (jj1 : Int32) (h0 : Heap) (n0 : Nat) (v : Option Value) (h : Heap) (L : List Loc) : Prop := (∃ (t : Addr) (kb : ClassId), v = none ∧ Fr n0 L ∧ Keep h0 h [a0] ∧ Exa Z h a0 kc0 ∧ Fld Z h a0 kc0 "coder" "B" (.int (0 : Int32)) ∧ Fld Z h a0 kc0 "value" "[B" (.ref t) ∧ h0.size ≤ t ∧ Arv Z h t kb .byte (1 : Int32) [(.int (jj1.toInt8.toInt32))] (.int (0 : Int32)) ∧ ¬ ((255 : Int32) < jj1)) ∨ (∃ (t : Addr) (kb : ClassId), v = none ∧ Fr n0 L ∧ Keep h0 h [a0] ∧ Exa Z h a0 kc0 ∧ Fld Z h a0 kc0 "coder" "B" (.int (1 : Int32)) ∧ Fld Z h a0 kc0 "value" "[B" (.ref t) ∧ h0.size ≤ t ∧ Arv Z h t kb .byte (2 : Int32) [(.int ((jj1 >>> ((0 : Int32) &&& 31)).toInt8.toInt32)), (.int ((jj1 >>> ((8 : Int32) &&& 31)).toInt8.toInt32))] (.int (0 : Int32)) ∧ (255 : Int32) < jj1)
theorem rm_m5_8 (l : Launch) (Z : State) (aZ : Array Value) (hw : ∀ d ∈ tables_1, d.before aZ Z = true) (ws : List Jvm.Cond) (a0 : Addr) (a1 : Addr) (jj0 : Int32) (k_a1 : ClassId) (jj1 : Int32) (h0 : Heap) (n0 : Nat) (Z0 : n0 ≤ h0.size) (zz2 : Sta Z Z.heap kc0 "COMPACT_STRINGS" "Z" (.int jj0)) (O0 : Old Z n0 h0) (hP_2 : ¬ (jj0 = (0 : Int32))) (V_a1 : Arv Z h0 a1 k_a1 .char (1 : Int32) [(.int jj1)] (.int (0 : Int32))) (zz3 : nar .char jj1 = jj1) (zz4 : Sta Z Z.heap kc1 "$assertionsDisabled" "Z" (.int (1 : Int32))) (zz5 : Sta Z Z.heap kc1 "HI_BYTE_SHIFT" "I" (.int (0 : Int32))) (zz6 : Sta Z Z.heap kc1 "LO_BYTE_SHIFT" "I" (.int (8 : Int32))) (E_a0 : Exa Z h0 a0 kc0) (zz7 : Fld Z h0 a0 kc0 "coder" "B" (.int (0 : Int32))) (zz8 : n0 ≤ a0) (zz9 : Fld Z h0 a0 kc0 "value" "[B" .null) :
    MetN l Z yn_5 jdk_42_method_149_code 6 none ws ({ frames := 4, cells := 2, slots := 3, locals := 57 } : Room) #[(.ref a0), (.ref a1), (.int (0 : Int32)), (.int (1 : Int32)), .null] h0 (Q_m5_8 Z a0 a1 jj0 k_a1 jj1 h0 n0) := by
 refine MetN.of (plainFor_of_name pn_2) ?_
 intro p e s m below meth c s₁ hret hx hby hml hown hnm hlk hZ X0 e0
 have N0 := Fr.nil n0
 rw [ef_m5_8 m a0 a1]
 refine w_aloadN X0 hx (d5_0 hby) rfl rfl (pc' := 1) rfl ?_
 refine w_initO X0 hx 0 hZ hown (wd_22 hw) (wd_23 hw) (wd_24 hw) e0 (by rw [hml]; rfl) (d5_1 hby) (by decide) (Nat.le_of_eq rfl) (by decide) (pc' := 4) rfl ?_
 intro T20 X20 e20
 refine w_iloadN X20 hx (d5_4 hby) rfl (pc' := 5) rfl ?_
 refine w_ifY X20 hx (d5_5 hby) (feq (by decide : ¬ ((1 : Int32) = (0 : Int32)))).2 (pc' := 27) (by decide) (by decide) ?_
 refine w_getS X20 hx "" hZ hown (Or.inl (wd_37 hw)) Via.refl e20 (zz2.ext O0.2) (d5_27 hby) (pc' := 30) rfl ?_
 intro T21 X21 e21
 refine w_ifN X21 hx (d5_30 hby) (feq hP_2).1 (pc' := 33) rfl ?_
 refine w_aloadN X21 hx (d5_33 hby) rfl rfl (pc' := 34) rfl ?_
 refine w_iloadN X21 hx (d5_34 hby) rfl (pc' := 35) rfl ?_
 refine w_iloadN X21 hx (d5_35 hby) rfl (pc' := 36) rfl ?_
 refine w_static X21 hx (y := yn_8) hown (mvT hZ (wd_38 hw)) (mvT hZ (wd_39 hw)) (mvT hZ (wd_40 hw)) (mvT hZ (wd_41 hw)) (by decide) (backOf (W := 0) (rm_m8_9 l Z aZ hw [] a1 k_a1 jj1 h0 n0 Z0 V_a1 zz4 O0 zz5 zz6 zz3) hZ (wd_41 hw) (wd_40 hw) (by decide) (by decide)) (by rw [hml]; rfl) [(.ref a1), (.int (0 : Int32)), (.int (1 : Int32))] (lenOf pd_8 rfl) rfl (Nat.le_of_eq rfl) (d5_36 hby) (fun _ _ => ⟨rfl, e21, (by decide : 0 + 2 ≤ _), (by decide : 0 + 3 ≤ _)⟩) (pc' := 39) rfl ?_
 rintro _ _ ⟨T22, L22, k22, n22⟩ X22 ⟨Lc22, hQ22, l22, y22, z22⟩
 dsimp only [Pt.U, Pt.locs, Pt.cells, Pt.slots] at X22 l22 y22 z22 hQ22 ⊢
 rw [l22, y22, z22] at X22
 rcases hQ22 with ⟨t_22, kb_22, rfl, N22q, K22, g22_0, g22_1, g22_2⟩ | ⟨t_22, kb_22, rfl, N22q, K22, g22_0, g22_1, g22_2⟩
 · have N23 := Fr.app N0 N22q
   have K24 : Keep h0 T22.heap [a0] := (Keep.refl h0 [a0]).trans K22 (all0 (P := fun x => x ∈ [a0] ∨ h0.size ≤ x))
   have ge25 : n0 ≤ t_22 := Nat.le_trans Z0 g22_0
   have sz26 : h0.size ≤ t_22 := Nat.le_trans (Nat.le_refl _) g22_0
   show Runs _ _ _ _ (T22.setTop (mkF m 39 #[.val (.ref a0), .val (.ref a1), .val (.int (0 : Int32)), .val (.int (1 : Int32)), .val .null, .unset] [(.ref t_22)]))
   refine w_astore X22 hx (d5_39 hby) rfl (L' := #[.val (.ref a0), .val (.ref a1), .val (.int (0 : Int32)), .val (.int (1 : Int32)), .val .null, .val (.ref t_22)]) rfl (pc' := 41) rfl ?_
   refine w_aloadN X22 hx (d5_41 hby) rfl rfl (pc' := 42) rfl ?_
   refine w_aload X22 hx (d5_42 hby) rfl rfl (pc' := 44) rfl ?_
   refine w_iloadN X22 hx (d5_44 hby) rfl (pc' := 45) rfl ?_
   refine w_static X22 hx (y := yn_10) hown (mvT hZ (wd_45 hw)) (mvT hZ (wd_46 hw)) (mvT hZ (wd_40 hw)) (mvT hZ (wd_47 hw)) (by decide) (backOf (W := 1) (rm_m10_16 l Z aZ hw [] t_22 kb_22 (jj1.toInt8.toInt32) T22.heap n0 (Nat.le_trans Z0 K22.1) g22_1) hZ (wd_47 hw) (wd_40 hw) (by decide) (by decide)) (by rw [hml]; rfl) [(.ref t_22), (.int (1 : Int32))] (lenOf pd_10 rfl) rfl (Nat.le_of_eq rfl) (d5_45 hby) (fun _ _ => ⟨rfl, rfl, (by decide : 2 + 0 ≤ _), (by decide : 3 + 0 ≤ _)⟩) (pc' := 48) rfl ?_
   rintro _ _ ⟨T27, L27, k27, n27⟩ X27 ⟨Lc27, hQ27, l27, y27, z27⟩
   dsimp only [Pt.U, Pt.locs, Pt.cells, Pt.slots] at X27 l27 y27 z27 hQ27 ⊢
   rw [l27, y27, z27] at X27
   obtain ⟨rfl, N27q, e27⟩ := hQ27
   have N28 := Fr.app N23 N27q
   show Runs _ _ _ _ (T27.setTop (mkF m 48 #[.val (.ref a0), .val (.ref a1), .val (.int (0 : Int32)), .val (.int (1 : Int32)), .val .null, .val (.ref t_22)] [(.int (0 : Int32)), (.ref a0)]))
   have f29 : Exa Z T22.heap a0 kc0 := (E_a0.keep K22)
   have f30 : Fld Z T22.heap a0 kc0 "coder" "B" (.int (0 : Int32)) := (zz7.keep K22 nin0)
   refine w_putF X27 hx "" hZ hown (Or.inl (wd_32 hw)) Via.refl e27 f30 f29 (Or.inr ⟨(wd_28 hw), rfl, hnm⟩) (wd_13 hw) (ty := .byte) (by decide) rfl rfl (d5_48 hby) (pc' := 51) rfl ?_
   intro T31 h31 X31 e31 W31
   have f32 : Fld Z h31 a0 kc0 "coder" "B" (.int (0 : Int32)) := f30.same W31
   have K33 : Keep h0 h31 [a0] := K24.wr W31 (Or.inl (by simp))
   have N34 := Fr.snoc X31 N28 zz8
   refine w_aloadN X31 hx (d5_51 hby) rfl rfl (pc' := 52) rfl ?_
   refine w_aload X31 hx (d5_52 hby) rfl rfl (pc' := 54) rfl ?_
   have f35 : Exa Z h31 a0 kc0 := (f29.wr W31)
   have f36 : Fld Z h31 a0 kc0 "value" "[B" .null := ((zz9.keep K22 nin0).other W31 (Or.inr (slot_ne (Or.inr (wd_27 hw)) (Or.inr (wd_28 hw)) (by decide) (t := (.array .byte)) (t' := .byte) (by decide) (by decide))))
   refine w_putF X31 hx "" hZ hown (Or.inl (wd_31 hw)) Via.refl e31 f36 f35 (Or.inr ⟨(wd_27 hw), rfl, hnm⟩) (wd_13 hw) (ty := (.array .byte)) (by decide) rfl rfl (d5_54 hby) (pc' := 57) rfl ?_
   intro T37 h37 X37 e37 W37
   have f38 : Fld Z h37 a0 kc0 "value" "[B" (.ref t_22) := f36.same W37
   have K39 : Keep h0 h37 [a0] := K33.wr W37 (Or.inl (by simp))
   have N40 := Fr.snoc X37 N34 zz8
   have f41 : Exa Z h37 a0 kc0 := (f35.wr W37)
   have f42 : Fld Z h37 a0 kc0 "coder" "B" (.int (0 : Int32)) := (f32.other W37 (Or.inr (slot_ne (Or.inr (wd_28 hw)) (Or.inr (wd_27 hw)) (by decide) (t := .byte) (t' := (.array .byte)) (by decide) (by decide))))
   have ne43 : a0 ≠ t_22 := (Nat.ne_of_lt (Nat.lt_of_lt_of_le E_a0.lt (Nat.le_trans (Nat.le_refl _) g22_0)))
   have f44 : Arv Z h37 t_22 kb_22 .byte (1 : Int32) [(.int (jj1.toInt8.toInt32))] (.int (0 : Int32)) := ((g22_1.other W31 (Ne.symm ne43)).other W37 (Ne.symm ne43))
   exact w_done X37 hlk (v := none) e37 (fun _ => rfl) (fun fs hr => X37.returnOut hx hret (d5_57 hby) hr) (by decide) (by decide) (Or.inl ⟨t_22, kb_22, rfl, N40, K39, f41, f42, f38, sz26, f44, g22_2⟩)
 · have N45 := Fr.app N0 N22q
   have K46 : Keep h0 T22.heap [a0] := (Keep.refl h0 [a0]).trans K22 (all0 (P := fun x => x ∈ [a0] ∨ h0.size ≤ x))
   have ge47 : n0 ≤ t_22 := Nat.le_trans Z0 g22_0
   have sz48 : h0.size ≤ t_22 := Nat.le_trans (Nat.le_refl _) g22_0
   show Runs _ _ _ _ (T22.setTop (mkF m 39 #[.val (.ref a0), .val (.ref a1), .val (.int (0 : Int32)), .val (.int (1 : Int32)), .val .null, .unset] [(.ref t_22)]))
   refine w_astore X22 hx (d5_39 hby) rfl (L' := #[.val (.ref a0), .val (.ref a1), .val (.int (0 : Int32)), .val (.int (1 : Int32)), .val .null, .val (.ref t_22)]) rfl (pc' := 41) rfl ?_
   refine w_aloadN X22 hx (d5_41 hby) rfl rfl (pc' := 42) rfl ?_
   refine w_aload X22 hx (d5_42 hby) rfl rfl (pc' := 44) rfl ?_
   refine w_iloadN X22 hx (d5_44 hby) rfl (pc' := 45) rfl ?_
   refine w_static X22 hx (y := yn_10) hown (mvT hZ (wd_45 hw)) (mvT hZ (wd_46 hw)) (mvT hZ (wd_40 hw)) (mvT hZ (wd_47 hw)) (by decide) (backOf (W := 1) (rm_m10_17 l Z aZ hw [] t_22 kb_22 ((jj1 >>> ((0 : Int32) &&& 31)).toInt8.toInt32) ((jj1 >>> ((8 : Int32) &&& 31)).toInt8.toInt32) T22.heap n0 (Nat.le_trans Z0 K22.1) g22_1) hZ (wd_47 hw) (wd_40 hw) (by decide) (by decide)) (by rw [hml]; rfl) [(.ref t_22), (.int (1 : Int32))] (lenOf pd_10 rfl) rfl (Nat.le_of_eq rfl) (d5_45 hby) (fun _ _ => ⟨rfl, rfl, (by decide : 2 + 0 ≤ _), (by decide : 3 + 0 ≤ _)⟩) (pc' := 48) rfl ?_
   rintro _ _ ⟨T49, L49, k49, n49⟩ X49 ⟨Lc49, hQ49, l49, y49, z49⟩
   dsimp only [Pt.U, Pt.locs, Pt.cells, Pt.slots] at X49 l49 y49 z49 hQ49 ⊢
   rw [l49, y49, z49] at X49
   obtain ⟨rfl, N49q, e49⟩ := hQ49
   have N50 := Fr.app N45 N49q
   show Runs _ _ _ _ (T49.setTop (mkF m 48 #[.val (.ref a0), .val (.ref a1), .val (.int (0 : Int32)), .val (.int (1 : Int32)), .val .null, .val (.ref t_22)] [(.int (1 : Int32)), (.ref a0)]))
   have f51 : Exa Z T22.heap a0 kc0 := (E_a0.keep K22)
   have f52 : Fld Z T22.heap a0 kc0 "coder" "B" (.int (0 : Int32)) := (zz7.keep K22 nin0)
   refine w_putF X49 hx "" hZ hown (Or.inl (wd_32 hw)) Via.refl e49 f52 f51 (Or.inr ⟨(wd_28 hw), rfl, hnm⟩) (wd_13 hw) (ty := .byte) (by decide) rfl rfl (d5_48 hby) (pc' := 51) rfl ?_
   intro T53 h53 X53 e53 W53
   have f54 : Fld Z h53 a0 kc0 "coder" "B" (.int (1 : Int32)) := f52.same W53
   have K55 : Keep h0 h53 [a0] := K46.wr W53 (Or.inl (by simp))
   have N56 := Fr.snoc X53 N50 zz8
   refine w_aloadN X53 hx (d5_51 hby) rfl rfl (pc' := 52) rfl ?_
   refine w_aload X53 hx (d5_52 hby) rfl rfl (pc' := 54) rfl ?_
   have f57 : Exa Z h53 a0 kc0 := (f51.wr W53)
   have f58 : Fld Z h53 a0 kc0 "value" "[B" .null := ((zz9.keep K22 nin0).other W53 (Or.inr (slot_ne (Or.inr (wd_27 hw)) (Or.inr (wd_28 hw)) (by decide) (t := (.array .byte)) (t' := .byte) (by decide) (by decide))))
   refine w_putF X53 hx "" hZ hown (Or.inl (wd_31 hw)) Via.refl e53 f58 f57 (Or.inr ⟨(wd_27 hw), rfl, hnm⟩) (wd_13 hw) (ty := (.array .byte)) (by decide) rfl rfl (d5_54 hby) (pc' := 57) rfl ?_
   intro T59 h59 X59 e59 W59
   have f60 : Fld Z h59 a0 kc0 "value" "[B" (.ref t_22) := f58.same W59
   have K61 : Keep h0 h59 [a0] := K55.wr W59 (Or.inl (by simp))
   have N62 := Fr.snoc X59 N56 zz8
   have f64 : Exa Z h59 a0 kc0 := (f57.wr W59)
   have f65 : Fld Z h59 a0 kc0 "coder" "B" (.int (1 : Int32)) := (f54.other W59 (Or.inr (slot_ne (Or.inr (wd_28 hw)) (Or.inr (wd_27 hw)) (by decide) (t := .byte) (t' := (.array .byte)) (by decide) (by decide))))
   have ne66 : a0 ≠ t_22 := (Nat.ne_of_lt (Nat.lt_of_lt_of_le E_a0.lt (Nat.le_trans (Nat.le_refl _) g22_0)))
   have f67 : Arv Z h59 t_22 kb_22 .byte (2 : Int32) [(.int ((jj1 >>> ((0 : Int32) &&& 31)).toInt8.toInt32)), (.int ((jj1 >>> ((8 : Int32) &&& 31)).toInt8.toInt32))] (.int (0 : Int32)) := ((g22_1.other W53 (Ne.symm ne66)).other W59 (Ne.symm ne66))
   exact w_done X59 hlk (v := none) e59 (fun _ => rfl) (fun fs hr => X59.returnOut hx hret (d5_57 hby) hr) (by decide) (by decide) (Or.inr (⟨t_22, kb_22, rfl, N62, K61, f64, f65, f60, sz48, f67, g22_2⟩))
theorem ef_m4_7 (m : MethodId) (a0 : Addr) (a1 : Addr)  : entryFrame m #[(.ref a0), (.ref a1)] 2 = mkF m 0 #[.val (.ref a0), .val (.ref a1)] [] := by first | (simp [entryFrame, mkF, argsToLocals, Value.category]; done) | rfl
def Q_m4_7 (Z : State) (a0 : Addr) (a1 : Addr) (k_a1 : ClassId) (jj0 : Int32) (jj1 : Int32) (h0 : Heap) (n0 : Nat) (v : Option Value) (h : Heap) (L : List Loc) : Prop := (∃ (t : Addr) (kb : ClassId), v = none ∧ Fr n0 L ∧ Keep h0 h [a0] ∧ Exa Z h a0 kc0 ∧ Fld Z h a0 kc0 "coder" "B" (.int (0 : Int32)) ∧ Fld Z h a0 kc0 "value" "[B" (.ref t) ∧ h0.size ≤ t ∧ Arv Z h t kb .byte (1 : Int32) [(.int (jj0.toInt8.toInt32))] (.int (0 : Int32)) ∧ ¬ ((255 : Int32) < jj0)) ∨ (∃ (t : Addr) (kb : ClassId), v = none ∧ Fr n0 L ∧ Keep h0 h [a0] ∧ Exa Z h a0 kc0 ∧ Fld Z h a0 kc0 "coder" "B" (.int (1 : Int32)) ∧ Fld Z h a0 kc0 "value" "[B" (.ref t) ∧ h0.size ≤ t ∧ Arv Z h t kb .byte (2 : Int32) [(.int ((jj0 >>> ((0 : Int32) &&& 31)).toInt8.toInt32)), (.int ((jj0 >>> ((8 : Int32) &&& 31)).toInt8.toInt32))] (.int (0 : Int32)) ∧ (255 : Int32) < jj0)
theorem rm_m4_7 (l : Launch) (Z : State) (aZ : Array Value) (hw : ∀ d ∈ tables_1, d.before aZ Z = true) (ws : List Jvm.Cond) (a0 : Addr) (a1 : Addr) (k_a1 : ClassId) (jj0 : Int32) (jj1 : Int32) (h0 : Heap) (n0 : Nat) (Z0 : n0 ≤ h0.size) (V_a1 : Arv Z h0 a1 k_a1 .char (1 : Int32) [(.int jj0)] (.int (0 : Int32))) (hP_1 : ¬ (jj1 = (0 : Int32))) (zz2 : nar .char jj0 = jj0) (E_a0 : Exa Z h0 a0 kc0) (zz3 : Fld Z h0 a0 kc0 "coder" "B" (.int (0 : Int32))) (zz4 : Fld Z h0 a0 kc0 "value" "[B" .null) (zz5 : Sta Z Z.heap kc0 "COMPACT_STRINGS" "Z" (.int jj1)) (O0 : Old Z n0 h0) (zz6 : Sta Z Z.heap kc1 "$assertionsDisabled" "Z" (.int (1 : Int32))) (zz7 : Sta Z Z.heap kc1 "HI_BYTE_SHIFT" "I" (.int (0 : Int32))) (zz8 : Sta Z Z.heap kc1 "LO_BYTE_SHIFT" "I" (.int (8 : Int32))) (zz9 : n0 ≤ a0) :
    MetN l Z yn_4 jdk_42_method_3_code 2 none ws ({ frames := 5, cells := 2, slots := 3, locals := 74 } : Room) #[(.ref a0), (.ref a1)] h0 (Q_m4_7 Z a0 a1 k_a1 jj0 jj1 h0 n0) := by
 refine MetN.of (plainFor_of_name pn_2) ?_
 intro p e s m below meth c s₁ hret hx hby hml hown hnm hlk hZ X0 e0
 have N0 := Fr.nil n0
 rw [ef_m4_7 m a0 a1]
 refine w_aloadN X0 hx (d4_0 hby) rfl rfl (pc' := 1) rfl ?_
 refine w_aloadN X0 hx (d4_1 hby) rfl rfl (pc' := 2) rfl ?_
 refine w_iconst X0 hx (d4_2 hby) (v := (0 : Int32)) rfl (pc' := 3) rfl ?_
 refine w_aloadN X0 hx (d4_3 hby) rfl rfl (pc' := 4) rfl ?_
 refine w_alen X0 hx hZ e0 V_a1 (d4_4 hby) (pc' := 5) rfl ?_
 refine w_null X0 hx (d4_5 hby) (pc' := 6) rfl ?_
 refine w_special X0 hx (y := yn_5) rfl hown (mvT hZ (wd_18 hw)) (mvT hZ (wd_19 hw)) (mvT hZ (wd_21 hw)) (by decide) (backOf (W := 0) (rm_m5_8 l Z aZ hw [] a0 a1 jj1 k_a1 jj0 h0 n0 Z0 zz5 O0 hP_1 V_a1 zz2 zz6 zz7 zz8 E_a0 zz3 zz9 zz4) hZ (wd_21 hw) (wd_14 hw) (by decide) (by decide)) (by rw [hml]; rfl) [(.ref a1), (.int (0 : Int32)), (.int (1 : Int32)), .null] (lenOf pd_2 rfl) rfl (Nat.le_of_eq rfl) (d4_6 hby) (fun _ _ => ⟨rfl, e0, (by decide : 0 + 2 ≤ _), (by decide : 0 + 3 ≤ _)⟩) (pc' := 9) rfl ?_
 rintro _ _ ⟨T20, L20, k20, n20⟩ X20 ⟨Lc20, hQ20, l20, y20, z20⟩
 dsimp only [Pt.U, Pt.locs, Pt.cells, Pt.slots] at X20 l20 y20 z20 hQ20 ⊢
 rw [l20, y20, z20] at X20
 rcases hQ20 with ⟨t_20, kb_20, rfl, N20q, K20, g20_0, g20_1, g20_2, g20_3, g20_4, g20_5⟩ | ⟨t_20, kb_20, rfl, N20q, K20, g20_0, g20_1, g20_2, g20_3, g20_4, g20_5⟩
 · have N21 := Fr.app N0 N20q
   have K22 : Keep h0 T20.heap [a0] := (Keep.refl h0 [a0]).trans K20 (allS (Or.inl (by simp)) (all0 (P := fun x => x ∈ [a0] ∨ h0.size ≤ x)))
   have ge23 : n0 ≤ t_20 := Nat.le_trans Z0 g20_3
   have sz24 : h0.size ≤ t_20 := Nat.le_trans (Nat.le_refl _) g20_3
   show Runs _ _ _ _ (T20.setTop (mkF m 9 #[.val (.ref a0), .val (.ref a1)] []))
   exact w_done X20 hlk (v := none) rfl (fun _ => rfl) (fun fs hr => X20.returnOut hx hret (d4_9 hby) hr) (by decide) (by decide) (Or.inl ⟨t_20, kb_20, rfl, N21, K22, g20_0, g20_1, g20_2, sz24, g20_4, g20_5⟩)
 · have N25 := Fr.app N0 N20q
   have K26 : Keep h0 T20.heap [a0] := (Keep.refl h0 [a0]).trans K20 (allS (Or.inl (by simp)) (all0 (P := fun x => x ∈ [a0] ∨ h0.size ≤ x)))
   have ge27 : n0 ≤ t_20 := Nat.le_trans Z0 g20_3
   have sz28 : h0.size ≤ t_20 := Nat.le_trans (Nat.le_refl _) g20_3
   show Runs _ _ _ _ (T20.setTop (mkF m 9 #[.val (.ref a0), .val (.ref a1)] []))
   exact w_done X20 hlk (v := none) rfl (fun _ => rfl) (fun fs hr => X20.returnOut hx hret (d4_9 hby) hr) (by decide) (by decide) (Or.inr (⟨t_20, kb_20, rfl, N25, K26, g20_0, g20_1, g20_2, sz28, g20_4, g20_5⟩))
theorem ef_m9_21 (m : MethodId) (a0 : Addr) (a2 : Addr)  : entryFrame m #[(.ref a0), (.int (0 : Int32)), (.ref a2), (.int (0 : Int32)), (.int (2 : Int32))] 7 = mkF m 0 #[.val (.ref a0), .val (.int (0 : Int32)), .val (.ref a2), .val (.int (0 : Int32)), .val (.int (2 : Int32)), .unset, .unset] [] := by first | (simp [entryFrame, mkF, argsToLocals, Value.category]; done) | rfl
def Q_m9_21 (Z : State) (a0 : Addr) (a2 : Addr) (k_a0 : ClassId) (jj0 : Int32) (jj1 : Int32) (k_a2 : ClassId) (h0 : Heap) (n0 : Nat) (v : Option Value) (h : Heap) (L : List Loc) : Prop := (v = some (.int (2 : Int32)) ∧ Fr n0 L ∧ Keep h0 h [a2] ∧ Arv Z h a2 k_a2 .byte (2 : Int32) [(.int (jj0.toInt8.toInt32)), (.int (jj1.toInt8.toInt32))] (.int (0 : Int32)) ∧ ¬ ((255 : Int32) < jj0) ∧ ¬ ((255 : Int32) < jj1)) ∨ (∃ (j : Int32), v = some (.int j) ∧ Fr n0 L ∧ Keep h0 h [a2] ∧ ¬ (j < (0 : Int32)) ∧ j < (2 : Int32) ∧ (255 : Int32) < (gI [jj0, jj1, (0 : Int32), (0 : Int32)] j))
theorem rm_m9_21 (l : Launch) (Z : State) (aZ : Array Value) (hw : ∀ d ∈ tables_1, d.before aZ Z = true) (ws : List Jvm.Cond) (a0 : Addr) (a2 : Addr) (k_a0 : ClassId) (jj0 : Int32) (jj1 : Int32) (k_a2 : ClassId) (h0 : Heap) (n0 : Nat) (Z0 : n0 ≤ h0.size) (V_a0 : Arv Z h0 a0 k_a0 .char (2 : Int32) [(.int jj0), (.int jj1)] (.int (0 : Int32))) (V_a2 : Arv Z h0 a2 k_a2 .byte (2 : Int32) [(.int (0 : Int32)), (.int (0 : Int32))] (.int (0 : Int32))) (zz2 : n0 ≤ a2) (zz3 : a0 ≠ a2) :
    MetN l Z yn_9 jdk_52_method_21_code 7 (some .int) ws ({ frames := 0, cells := 0, slots := 0, locals := 0 } : Room) #[(.ref a0), (.int (0 : Int32)), (.ref a2), (.int (0 : Int32)), (.int (2 : Int32))] h0 (Q_m9_21 Z a0 a2 k_a0 jj0 jj1 k_a2 h0 n0) := by
 refine MetN.of (plainFor_of_name pn_3) ?_
 intro p e s m below meth c s₁ hret hx hby hml hown hnm hlk hZ X0 e0
 have N0 := Fr.nil n0
 rw [ef_m9_21 m a0 a2]
 refine w_iconst X0 hx (d9_0 hby) (v := (0 : Int32)) rfl (pc' := 1) rfl ?_
 refine w_istore X0 hx (d9_1 hby) (L' := #[.val (.ref a0), .val (.int (0 : Int32)), .val (.ref a2), .val (.int (0 : Int32)), .val (.int (2 : Int32)), .val (.int (0 : Int32)), .unset]) rfl (pc' := 3) rfl ?_
 refine w_iload X0 hx (d9_3 hby) rfl (pc' := 5) rfl ?_
 refine w_iload X0 hx (d9_5 hby) rfl (pc' := 7) rfl ?_
 refine w_icN X0 hx (d9_7 hby) (tlt (by decide : (0 : Int32) < (2 : Int32))).2.1 (pc' := 10) rfl ?_
 refine w_aloadN X0 hx (d9_10 hby) rfl rfl (pc' := 11) rfl ?_
 refine w_iloadN X0 hx (d9_11 hby) rfl (pc' := 12) rfl ?_
 obtain ⟨clu20, Aru20, qu20, Su20, Nu20, Hu20, Gu20⟩ := id V_a0
 have hinu20 := inb_of (j := (0 : Int32)) Su20 ⟨by decide, by decide⟩
 refine w_caload X0 hx hZ e0 Aru20 hinu20 (Hu20.at hinu20 rfl) (d9_12 hby) (pc' := 13) rfl ?_
 refine w_istore X0 hx (d9_13 hby) (L' := #[.val (.ref a0), .val (.int (0 : Int32)), .val (.ref a2), .val (.int (0 : Int32)), .val (.int (2 : Int32)), .val (.int (0 : Int32)), .val (.int jj0)]) rfl (pc' := 15) rfl ?_
 refine w_iload X0 hx (d9_15 hby) rfl (pc' := 17) rfl ?_
 refine w_sipush X0 hx (d9_17 hby) (v := (255 : Int32)) rfl (pc' := 20) rfl ?_
 by_cases hc21 : (255 : Int32) < jj0
 · refine w_icN X0 hx (d9_20 hby) (tlt hc21).2.2.2 (pc' := 23) rfl ?_
   refine w_iload X0 hx (d9_23 hby) rfl (pc' := 25) rfl ?_
   exact w_done X0 hlk (v := some (.int (0 : Int32))) e0 (fun h => by rw [hret] at h; cases h) (fun fs hr => retI X0 hx hret (d9_25 hby) hr) (by decide) (by decide) (Or.inr (⟨(0 : Int32), rfl, N0, (Keep.refl h0 [a2]), (by decide : ¬ ((0 : Int32) < (0 : Int32))), (by decide : (0 : Int32) < (2 : Int32)), (show (255 : Int32) < (gI [jj0, jj1, (0 : Int32), (0 : Int32)] (0 : Int32)) from hc21)⟩))
 · refine w_icY X0 hx (d9_20 hby) (flt hc21).2.2.2 (pc' := 26) (by decide) (by decide) ?_
   refine w_aloadN X0 hx (d9_26 hby) rfl rfl (pc' := 27) rfl ?_
   refine w_iloadN X0 hx (d9_27 hby) rfl (pc' := 28) rfl ?_
   refine w_iload X0 hx (d9_28 hby) rfl (pc' := 30) rfl ?_
   refine w_i2b X0 hx (d9_30 hby) (pc' := 31) rfl ?_
   obtain ⟨clu22, Aru22, qu22, Su22, Nu22, Hu22, Gu22⟩ := id V_a2
   have hinu22 := inb_of (j := (0 : Int32)) Su22 ⟨by decide, by decide⟩
   refine w_stB X0 hx hZ e0 Aru22 hinu22 (d9_31 hby) (pc' := 32) rfl ?_
   intro T23 h23 X23 e23 W23
   have V24 : Arv Z h23 a2 k_a2 .byte (2 : Int32) [(.int (nar .byte (jj0.toInt8.toInt32))), (.int (0 : Int32))] (.int (0 : Int32)) := Arv.set Aru22 qu22 Su22 Nu22 Hu22 Gu22 (fits_nar_byte _) W23 0 rfl (Nat.le_of_ble_eq_true rfl)
   have V25 : Arv Z h23 a2 k_a2 .byte (2 : Int32) [(.int (jj0.toInt8.toInt32)), (.int (0 : Int32))] (.int (0 : Int32)) := by rw [nar_b] at V24; exact V24
   have K26 : Keep h0 h23 [a2] := (Keep.refl h0 [a2]).wr W23 (Or.inl (by simp))
   have N27 := Fr.snoc X23 N0 zz2
   refine w_iinc X23 hx (d9_32 hby) (v := (1 : Int32)) rfl rfl (L' := #[.val (.ref a0), .val (.int ((0 : Int32) + (1 : Int32))), .val (.ref a2), .val (.int (0 : Int32)), .val (.int (2 : Int32)), .val (.int (0 : Int32)), .val (.int jj0)]) rfl (pc' := 35) rfl ?_
   rw [show ((0 : Int32) + (1 : Int32)) = (1 : Int32) from by decide]
   refine w_iinc X23 hx (d9_35 hby) (v := (1 : Int32)) rfl rfl (L' := #[.val (.ref a0), .val (.int (1 : Int32)), .val (.ref a2), .val (.int ((0 : Int32) + (1 : Int32))), .val (.int (2 : Int32)), .val (.int (0 : Int32)), .val (.int jj0)]) rfl (pc' := 38) rfl ?_
   rw [show ((0 : Int32) + (1 : Int32)) = (1 : Int32) from by decide]
   refine w_iinc X23 hx (d9_38 hby) (v := (1 : Int32)) rfl rfl (L' := #[.val (.ref a0), .val (.int (1 : Int32)), .val (.ref a2), .val (.int (1 : Int32)), .val (.int (2 : Int32)), .val (.int ((0 : Int32) + (1 : Int32))), .val (.int jj0)]) rfl (pc' := 41) rfl ?_
   rw [show ((0 : Int32) + (1 : Int32)) = (1 : Int32) from by decide]
   refine w_goto X23 hx (d9_41 hby) (pc' := 3) (by decide) (by decide) ?_
   refine w_iload X23 hx (d9_3 hby) rfl (pc' := 5) rfl ?_
   refine w_iload X23 hx (d9_5 hby) rfl (pc' := 7) rfl ?_
   refine w_icN X23 hx (d9_7 hby) (tlt (by decide : (1 : Int32) < (2 : Int32))).2.1 (pc' := 10) rfl ?_
   refine w_aloadN X23 hx (d9_10 hby) rfl rfl (pc' := 11) rfl ?_
   refine w_iloadN X23 hx (d9_11 hby) rfl (pc' := 12) rfl ?_
   have f28 : Arv Z h23 a0 k_a0 .char (2 : Int32) [(.int jj0), (.int jj1)] (.int (0 : Int32)) := (V_a0.other W23 zz3)
   obtain ⟨clu29, Aru29, qu29, Su29, Nu29, Hu29, Gu29⟩ := id f28
   have hinu29 := inb_of (j := (1 : Int32)) Su29 ⟨by decide, by decide⟩
   refine w_caload X23 hx hZ e23 Aru29 hinu29 (Hu29.at hinu29 rfl) (d9_12 hby) (pc' := 13) rfl ?_
   refine w_istore X23 hx (d9_13 hby) (L' := #[.val (.ref a0), .val (.int (1 : Int32)), .val (.ref a2), .val (.int (1 : Int32)), .val (.int (2 : Int32)), .val (.int (1 : Int32)), .val (.int jj1)]) rfl (pc' := 15) rfl ?_
   refine w_iload X23 hx (d9_15 hby) rfl (pc' := 17) rfl ?_
   refine w_sipush X23 hx (d9_17 hby) (v := (255 : Int32)) rfl (pc' := 20) rfl ?_
   by_cases hc30 : (255 : Int32) < jj1
   · refine w_icN X23 hx (d9_20 hby) (tlt hc30).2.2.2 (pc' := 23) rfl ?_
     refine w_iload X23 hx (d9_23 hby) rfl (pc' := 25) rfl ?_
     exact w_done X23 hlk (v := some (.int (1 : Int32))) e23 (fun h => by rw [hret] at h; cases h) (fun fs hr => retI X23 hx hret (d9_25 hby) hr) (by decide) (by decide) (Or.inr (⟨(1 : Int32), rfl, N27, K26, (by decide : ¬ ((1 : Int32) < (0 : Int32))), (by decide : (1 : Int32) < (2 : Int32)), (show (255 : Int32) < (gI [jj0, jj1, (0 : Int32), (0 : Int32)] (1 : Int32)) from hc30)⟩))
   · refine w_icY X23 hx (d9_20 hby) (flt hc30).2.2.2 (pc' := 26) (by decide) (by decide) ?_
     refine w_aloadN X23 hx (d9_26 hby) rfl rfl (pc' := 27) rfl ?_
     refine w_iloadN X23 hx (d9_27 hby) rfl (pc' := 28) rfl ?_
     refine w_iload X23 hx (d9_28 hby) rfl (pc' := 30) rfl ?_
     refine w_i2b X23 hx (d9_30 hby) (pc' := 31) rfl ?_
     obtain ⟨clu31, Aru31, qu31, Su31, Nu31, Hu31, Gu31⟩ := id V25
     have hinu31 := inb_of (j := (1 : Int32)) Su31 ⟨by decide, by decide⟩
     refine w_stB X23 hx hZ e23 Aru31 hinu31 (d9_31 hby) (pc' := 32) rfl ?_
     intro T32 h32 X32 e32 W32
     have V33 : Arv Z h32 a2 k_a2 .byte (2 : Int32) [(.int (jj0.toInt8.toInt32)), (.int (nar .byte (jj1.toInt8.toInt32)))] (.int (0 : Int32)) := Arv.set Aru31 qu31 Su31 Nu31 Hu31 Gu31 (fits_nar_byte _) W32 1 rfl (Nat.le_of_ble_eq_true rfl)
     have V34 : Arv Z h32 a2 k_a2 .byte (2 : Int32) [(.int (jj0.toInt8.toInt32)), (.int (jj1.toInt8.toInt32))] (.int (0 : Int32)) := by rw [nar_b] at V33; exact V33
     have K35 : Keep h0 h32 [a2] := K26.wr W32 (Or.inl (by simp))
     have N36 := Fr.snoc X32 N27 zz2
     refine w_iinc X32 hx (d9_32 hby) (v := (1 : Int32)) rfl rfl (L' := #[.val (.ref a0), .val (.int ((1 : Int32) + (1 : Int32))), .val (.ref a2), .val (.int (1 : Int32)), .val (.int (2 : Int32)), .val (.int (1 : Int32)), .val (.int jj1)]) rfl (pc' := 35) rfl ?_
     rw [show ((1 : Int32) + (1 : Int32)) = (2 : Int32) from by decide]
     refine w_iinc X32 hx (d9_35 hby) (v := (1 : Int32)) rfl rfl (L' := #[.val (.ref a0), .val (.int (2 : Int32)), .val (.ref a2), .val (.int ((1 : Int32) + (1 : Int32))), .val (.int (2 : Int32)), .val (.int (1 : Int32)), .val (.int jj1)]) rfl (pc' := 38) rfl ?_
     rw [show ((1 : Int32) + (1 : Int32)) = (2 : Int32) from by decide]
     refine w_iinc X32 hx (d9_38 hby) (v := (1 : Int32)) rfl rfl (L' := #[.val (.ref a0), .val (.int (2 : Int32)), .val (.ref a2), .val (.int (2 : Int32)), .val (.int (2 : Int32)), .val (.int ((1 : Int32) + (1 : Int32))), .val (.int jj1)]) rfl (pc' := 41) rfl ?_
     rw [show ((1 : Int32) + (1 : Int32)) = (2 : Int32) from by decide]
     refine w_goto X32 hx (d9_41 hby) (pc' := 3) (by decide) (by decide) ?_
     refine w_iload X32 hx (d9_3 hby) rfl (pc' := 5) rfl ?_
     refine w_iload X32 hx (d9_5 hby) rfl (pc' := 7) rfl ?_
     refine w_icY X32 hx (d9_7 hby) (flt (by decide : ¬ ((2 : Int32) < (2 : Int32)))).2.1 (pc' := 44) (by decide) (by decide) ?_
     refine w_iload X32 hx (d9_44 hby) rfl (pc' := 46) rfl ?_
     exact w_done X32 hlk (v := some (.int (2 : Int32))) e32 (fun h => by rw [hret] at h; cases h) (fun fs hr => retI X32 hx hret (d9_46 hby) hr) (by decide) (by decide) (Or.inl ⟨rfl, N36, K35, V34, hc21, hc30⟩)
theorem ef_m13_24 (m : MethodId)   : entryFrame m #[(.int (2 : Int32))] 1 = mkF m 0 #[.val (.int (2 : Int32))] [] := by first | (simp [entryFrame, mkF, argsToLocals, Value.category]; done) | rfl
def Q_m13_24 (Z : State)  (h0 : Heap) (n0 : Nat) (v : Option Value) (h : Heap) (L : List Loc) : Prop := v = some (.int (4 : Int32)) ∧ Fr n0 L ∧ h = h0
theorem rm_m13_24 (l : Launch) (Z : State) (aZ : Array Value) (hw : ∀ d ∈ tables_1, d.before aZ Z = true) (ws : List Jvm.Cond)  (h0 : Heap) (n0 : Nat) (Z0 : n0 ≤ h0.size) :
    MetN l Z yn_13 jdk_52_method_3_code 1 (some .int) ws ({ frames := 0, cells := 0, slots := 0, locals := 0 } : Room) #[(.int (2 : Int32))] h0 (Q_m13_24 Z  h0 n0) := by
 refine MetN.of (plainFor_of_name pn_3) ?_
 intro p e s m below meth c s₁ hret hx hby hml hown hnm hlk hZ X0 e0
 have N0 := Fr.nil n0
 rw [ef_m13_24 m ]
 refine w_iloadN X0 hx (d13_0 hby) rfl (pc' := 1) rfl ?_
 refine w_ifY X0 hx (d13_1 hby) (flt (by decide : ¬ ((2 : Int32) < (0 : Int32)))).2.1 (pc' := 12) (by decide) (by decide) ?_
 refine w_iloadN X0 hx (d13_12 hby) rfl (pc' := 13) rfl ?_
 refine w_ldcI X0 hx hZ hown (wd_57 hw) (d13_13 hby) (pc' := 15) rfl ?_
 refine w_icY X0 hx (d13_15 hby) (tlt (by decide : (2 : Int32) < (1073741823 : Int32))).1 (pc' := 55) (by decide) (by decide) ?_
 refine w_iloadN X0 hx (d13_55 hby) rfl (pc' := 56) rfl ?_
 refine w_iconst X0 hx (d13_56 hby) (v := (1 : Int32)) rfl (pc' := 57) rfl ?_
 refine w_ishl X0 hx (d13_57 hby) (pc' := 58) rfl ?_
 rw [show ((2 : Int32) <<< ((1 : Int32) &&& 31)) = (4 : Int32) from by decide]
 exact w_done X0 hlk (v := some (.int (4 : Int32))) e0 (fun h => by rw [hret] at h; cases h) (fun fs hr => retI X0 hx hret (d13_58 hby) hr) (by decide) (by decide) (⟨rfl, N0, rfl⟩)
theorem ef_m12_23 (m : MethodId)   : entryFrame m #[(.int (2 : Int32))] 1 = mkF m 0 #[.val (.int (2 : Int32))] [] := by first | (simp [entryFrame, mkF, argsToLocals, Value.category]; done) | rfl
def Q_m12_23 (Z : State)  (h0 : Heap) (n0 : Nat) (v : Option Value) (h : Heap) (L : List Loc) : Prop := ∃ (r0 : Addr) (c0 : ClassId), v = some (.ref r0) ∧ Fr n0 L ∧ Keep h0 h [] ∧ h0.size ≤ r0 ∧ Arv Z h r0 c0 .byte (4 : Int32) [(.int (0 : Int32)), (.int (0 : Int32)), (.int (0 : Int32)), (.int (0 : Int32))] (.int (0 : Int32))
theorem rm_m12_23 (l : Launch) (Z : State) (aZ : Array Value) (hw : ∀ d ∈ tables_1, d.before aZ Z = true) (ws : List Jvm.Cond)  (h0 : Heap) (n0 : Nat) (Z0 : n0 ≤ h0.size) :
    MetN l Z yn_12 jdk_52_method_2_code 1 (some (.array .byte)) ws ({ frames := 1, cells := 1, slots := 4, locals := 12 } : Room) #[(.int (2 : Int32))] h0 (Q_m12_23 Z  h0 n0) := by
 refine MetN.of (plainFor_of_name pn_3) ?_
 intro p e s m below meth c s₁ hret hx hby hml hown hnm hlk hZ X0 e0
 have N0 := Fr.nil n0
 rw [ef_m12_23 m ]
 refine w_iloadN X0 hx (d12_0 hby) rfl (pc' := 1) rfl ?_
 refine w_static X0 hx (y := yn_13) hown (mvT hZ (wd_54 hw)) (mvT hZ (wd_55 hw)) (mvT hZ (wd_40 hw)) (mvT hZ (wd_56 hw)) (by decide) (backOf (W := 0) (rm_m13_24 l Z aZ hw []  h0 n0 Z0 ) hZ (wd_56 hw) (wd_40 hw) (by decide) (by decide)) (by rw [hml]; rfl) [(.int (2 : Int32))] (lenOf pd_5 rfl) rfl (Nat.le_of_eq rfl) (d12_1 hby) (fun _ _ => ⟨rfl, e0, (by decide : 0 + 0 ≤ _), (by decide : 0 + 0 ≤ _)⟩) (pc' := 4) rfl ?_
 rintro _ _ ⟨T20, L20, k20, n20⟩ X20 ⟨Lc20, hQ20, l20, y20, z20⟩
 dsimp only [Pt.U, Pt.locs, Pt.cells, Pt.slots] at X20 l20 y20 z20 hQ20 ⊢
 rw [l20, y20, z20] at X20
 obtain ⟨rfl, N20q, e20⟩ := hQ20
 have N21 := Fr.app N0 N20q
 show Runs _ _ _ _ (T20.setTop (mkF m 4 #[.val (.int (2 : Int32))] [(.int (4 : Int32))]))
 refine w_newP X20 hx .byte .byte 4 rfl hZ (wd_26 hw) e20 (d12_4 hby) (by decide) (by decide) (by decide) (by decide) (by decide) (pc' := 6) rfl ?_
 intro T22 h22 k22 b22 X22 e22 E22 g22 A22
 have ge23 : n0 ≤ b22 := Nat.le_trans Z0 (Nat.le_of_eq g22.symm)
 have sz24 : h0.size ≤ b22 := Nat.le_trans (Nat.le_refl _) (Nat.le_of_eq g22.symm)
 have K25 : Keep h0 h22 [] := (Keep.refl h0 []).ext E22
 have V26 : Arv Z h22 b22 k22 .byte (4 : Int32) [(.int (0 : Int32)), (.int (0 : Int32)), (.int (0 : Int32)), (.int (0 : Int32))] (.int (0 : Int32)) := (Arv.new A22 (by decide)).pad (pad_rep [] (.int (0 : Int32)) 4)
 exact w_done X22 hlk (v := some (.ref b22)) e22 (fun h => by rw [hret] at h; cases h) (fun fs hr => retOut X22 hx hret rfl (Or.inr (Or.inr (Or.inr (Or.inr ⟨rfl, rfl, rfl⟩)))) (d12_6 hby) hr) (by decide) (by decide) (⟨b22, k22, rfl, N21, K25, sz24, V26⟩)
theorem ef_m14_25 (m : MethodId) (a0 : Addr) (p2 : Int32)  : entryFrame m #[(.ref a0), (.int (0 : Int32)), (.int p2)] 3 = mkF m 0 #[.val (.ref a0), .val (.int (0 : Int32)), .val (.int p2)] [] := by first | (simp [entryFrame, mkF, argsToLocals, Value.category]; done) | rfl
def Q_m14_25 (Z : State) (a0 : Addr) (p2 : Int32) (k_a0 : ClassId) (h0 : Heap) (n0 : Nat) (v : Option Value) (h : Heap) (L : List Loc) : Prop := v = none ∧ Fr n0 L ∧ Keep h0 h [a0] ∧ Arv Z h a0 k_a0 .byte (4 : Int32) [(.int ((p2 >>> ((0 : Int32) &&& 31)).toInt8.toInt32)), (.int ((p2 >>> ((8 : Int32) &&& 31)).toInt8.toInt32)), (.int (0 : Int32)), (.int (0 : Int32))] (.int (0 : Int32))
theorem rm_m14_25 (l : Launch) (Z : State) (aZ : Array Value) (hw : ∀ d ∈ tables_1, d.before aZ Z = true) (ws : List Jvm.Cond) (a0 : Addr) (p2 : Int32) (k_a0 : ClassId) (h0 : Heap) (n0 : Nat) (Z0 : n0 ≤ h0.size) (zz0 : Sta Z Z.heap kc1 "$assertionsDisabled" "Z" (.int (1 : Int32))) (O0 : Old Z n0 h0) (zz1 : Sta Z Z.heap kc1 "HI_BYTE_SHIFT" "I" (.int (0 : Int32))) (V_a0 : Arv Z h0 a0 k_a0 .byte (4 : Int32) [(.int (0 : Int32)), (.int (0 : Int32)), (.int (0 : Int32)), (.int (0 : Int32))] (.int (0 : Int32))) (zz2 : n0 ≤ a0) (zz3 : Sta Z Z.heap kc1 "LO_BYTE_SHIFT" "I" (.int (8 : Int32))) :
    MetN l Z yn_14 jdk_52_method_4_code 3 none ws ({ frames := 0, cells := 0, slots := 0, locals := 0 } : Room) #[(.ref a0), (.int (0 : Int32)), (.int p2)] h0 (Q_m14_25 Z a0 p2 k_a0 h0 n0) := by
 refine MetN.of (plainFor_of_name pn_3) ?_
 intro p e s m below meth c s₁ hret hx hby hml hown hnm hlk hZ X0 e0
 have N0 := Fr.nil n0
 rw [ef_m14_25 m a0 p2]
 refine w_getS X0 hx "" hZ hown (Or.inl (wd_61 hw)) Via.refl e0 (zz0.ext O0.2) (d14_0 hby) (pc' := 3) rfl ?_
 intro T20 X20 e20
 refine w_ifY X20 hx (d14_3 hby) (feq (by decide : ¬ ((1 : Int32) = (0 : Int32)))).2 (pc' := 28) (by decide) (by decide) ?_
 refine w_iloadN X20 hx (d14_28 hby) rfl (pc' := 29) rfl ?_
 refine w_iconst X20 hx (d14_29 hby) (v := (1 : Int32)) rfl (pc' := 30) rfl ?_
 refine w_ishl X20 hx (d14_30 hby) (pc' := 31) rfl ?_
 rw [show ((0 : Int32) <<< ((1 : Int32) &&& 31)) = (0 : Int32) from by decide]
 refine w_istoreN X20 hx (d14_31 hby) (L' := #[.val (.ref a0), .val (.int (0 : Int32)), .val (.int p2)]) rfl (pc' := 32) rfl ?_
 refine w_aloadN X20 hx (d14_32 hby) rfl rfl (pc' := 33) rfl ?_
 refine w_iloadN X20 hx (d14_33 hby) rfl (pc' := 34) rfl ?_
 refine w_iinc X20 hx (d14_34 hby) (v := (1 : Int32)) rfl rfl (L' := #[.val (.ref a0), .val (.int ((0 : Int32) + (1 : Int32))), .val (.int p2)]) rfl (pc' := 37) rfl ?_
 rw [show ((0 : Int32) + (1 : Int32)) = (1 : Int32) from by decide]
 refine w_iloadN X20 hx (d14_37 hby) rfl (pc' := 38) rfl ?_
 refine w_getS X20 hx "" hZ hown (Or.inl (wd_62 hw)) Via.refl e20 (zz1.ext O0.2) (d14_38 hby) (pc' := 41) rfl ?_
 intro T21 X21 e21
 refine w_ishr X21 hx (d14_41 hby) (pc' := 42) rfl ?_
 refine w_i2b X21 hx (d14_42 hby) (pc' := 43) rfl ?_
 obtain ⟨clu22, Aru22, qu22, Su22, Nu22, Hu22, Gu22⟩ := id V_a0
 have hinu22 := inb_of (j := (0 : Int32)) Su22 ⟨by decide, by decide⟩
 refine w_stB X21 hx hZ e21 Aru22 hinu22 (d14_43 hby) (pc' := 44) rfl ?_
 intro T23 h23 X23 e23 W23
 have V24 : Arv Z h23 a0 k_a0 .byte (4 : Int32) [(.int (nar .byte ((p2 >>> ((0 : Int32) &&& 31)).toInt8.toInt32))), (.int (0 : Int32)), (.int (0 : Int32)), (.int (0 : Int32))] (.int (0 : Int32)) := Arv.set Aru22 qu22 Su22 Nu22 Hu22 Gu22 (fits_nar_byte _) W23 0 rfl (Nat.le_of_ble_eq_true rfl)
 have V25 : Arv Z h23 a0 k_a0 .byte (4 : Int32) [(.int ((p2 >>> ((0 : Int32) &&& 31)).toInt8.toInt32)), (.int (0 : Int32)), (.int (0 : Int32)), (.int (0 : Int32))] (.int (0 : Int32)) := by rw [nar_b] at V24; exact V24
 have K26 : Keep h0 h23 [a0] := (Keep.refl h0 [a0]).wr W23 (Or.inl (by simp))
 have N27 := Fr.snoc X23 N0 zz2
 refine w_aloadN X23 hx (d14_44 hby) rfl rfl (pc' := 45) rfl ?_
 refine w_iloadN X23 hx (d14_45 hby) rfl (pc' := 46) rfl ?_
 refine w_iloadN X23 hx (d14_46 hby) rfl (pc' := 47) rfl ?_
 have f28 : Old Z n0 h23 := (O0.wr W23 zz2)
 refine w_getS X23 hx "" hZ hown (Or.inl (wd_63 hw)) Via.refl e23 (zz3.ext f28.2) (d14_47 hby) (pc' := 50) rfl ?_
 intro T29 X29 e29
 refine w_ishr X29 hx (d14_50 hby) (pc' := 51) rfl ?_
 refine w_i2b X29 hx (d14_51 hby) (pc' := 52) rfl ?_
 obtain ⟨clu30, Aru30, qu30, Su30, Nu30, Hu30, Gu30⟩ := id V25
 have hinu30 := inb_of (j := (1 : Int32)) Su30 ⟨by decide, by decide⟩
 refine w_stB X29 hx hZ e29 Aru30 hinu30 (d14_52 hby) (pc' := 53) rfl ?_
 intro T31 h31 X31 e31 W31
 have V32 : Arv Z h31 a0 k_a0 .byte (4 : Int32) [(.int ((p2 >>> ((0 : Int32) &&& 31)).toInt8.toInt32)), (.int (nar .byte ((p2 >>> ((8 : Int32) &&& 31)).toInt8.toInt32))), (.int (0 : Int32)), (.int (0 : Int32))] (.int (0 : Int32)) := Arv.set Aru30 qu30 Su30 Nu30 Hu30 Gu30 (fits_nar_byte _) W31 1 rfl (Nat.le_of_ble_eq_true rfl)
 have V33 : Arv Z h31 a0 k_a0 .byte (4 : Int32) [(.int ((p2 >>> ((0 : Int32) &&& 31)).toInt8.toInt32)), (.int ((p2 >>> ((8 : Int32) &&& 31)).toInt8.toInt32)), (.int (0 : Int32)), (.int (0 : Int32))] (.int (0 : Int32)) := by rw [nar_b] at V32; exact V32
 have K34 : Keep h0 h31 [a0] := K26.wr W31 (Or.inl (by simp))
 have N35 := Fr.snoc X31 N27 zz2
 exact w_done X31 hlk (v := none) e31 (fun _ => rfl) (fun fs hr => X31.returnOut hx hret (d14_53 hby) hr) (by decide) (by decide) (⟨rfl, N35, K34, V33⟩)
theorem ef_m14_26 (m : MethodId) (a0 : Addr) (p2 : Int32)  : entryFrame m #[(.ref a0), (.int (1 : Int32)), (.int p2)] 3 = mkF m 0 #[.val (.ref a0), .val (.int (1 : Int32)), .val (.int p2)] [] := by first | (simp [entryFrame, mkF, argsToLocals, Value.category]; done) | rfl
def Q_m14_26 (Z : State) (a0 : Addr) (p2 : Int32) (k_a0 : ClassId) (jj0 : Int32) (jj1 : Int32) (h0 : Heap) (n0 : Nat) (v : Option Value) (h : Heap) (L : List Loc) : Prop := v = none ∧ Fr n0 L ∧ Keep h0 h [a0] ∧ Arv Z h a0 k_a0 .byte (4 : Int32) [(.int jj0), (.int jj1), (.int ((p2 >>> ((0 : Int32) &&& 31)).toInt8.toInt32)), (.int ((p2 >>> ((8 : Int32) &&& 31)).toInt8.toInt32))] (.int (0 : Int32))
theorem rm_m14_26 (l : Launch) (Z : State) (aZ : Array Value) (hw : ∀ d ∈ tables_1, d.before aZ Z = true) (ws : List Jvm.Cond) (a0 : Addr) (p2 : Int32) (k_a0 : ClassId) (jj0 : Int32) (jj1 : Int32) (h0 : Heap) (n0 : Nat) (Z0 : n0 ≤ h0.size) (zz2 : Sta Z Z.heap kc1 "$assertionsDisabled" "Z" (.int (1 : Int32))) (O0 : Old Z n0 h0) (zz3 : Sta Z Z.heap kc1 "HI_BYTE_SHIFT" "I" (.int (0 : Int32))) (V_a0 : Arv Z h0 a0 k_a0 .byte (4 : Int32) [(.int jj0), (.int jj1), (.int (0 : Int32)), (.int (0 : Int32))] (.int (0 : Int32))) (zz4 : n0 ≤ a0) (zz5 : Sta Z Z.heap kc1 "LO_BYTE_SHIFT" "I" (.int (8 : Int32))) :
    MetN l Z yn_14 jdk_52_method_4_code 3 none ws ({ frames := 0, cells := 0, slots := 0, locals := 0 } : Room) #[(.ref a0), (.int (1 : Int32)), (.int p2)] h0 (Q_m14_26 Z a0 p2 k_a0 jj0 jj1 h0 n0) := by
 refine MetN.of (plainFor_of_name pn_3) ?_
 intro p e s m below meth c s₁ hret hx hby hml hown hnm hlk hZ X0 e0
 have N0 := Fr.nil n0
 rw [ef_m14_26 m a0 p2]
 refine w_getS X0 hx "" hZ hown (Or.inl (wd_61 hw)) Via.refl e0 (zz2.ext O0.2) (d14_0 hby) (pc' := 3) rfl ?_
 intro T20 X20 e20
 refine w_ifY X20 hx (d14_3 hby) (feq (by decide : ¬ ((1 : Int32) = (0 : Int32)))).2 (pc' := 28) (by decide) (by decide) ?_
 refine w_iloadN X20 hx (d14_28 hby) rfl (pc' := 29) rfl ?_
 refine w_iconst X20 hx (d14_29 hby) (v := (1 : Int32)) rfl (pc' := 30) rfl ?_
 refine w_ishl X20 hx (d14_30 hby) (pc' := 31) rfl ?_
 rw [show ((1 : Int32) <<< ((1 : Int32) &&& 31)) = (2 : Int32) from by decide]
 refine w_istoreN X20 hx (d14_31 hby) (L' := #[.val (.ref a0), .val (.int (2 : Int32)), .val (.int p2)]) rfl (pc' := 32) rfl ?_
 refine w_aloadN X20 hx (d14_32 hby) rfl rfl (pc' := 33) rfl ?_
 refine w_iloadN X20 hx (d14_33 hby) rfl (pc' := 34) rfl ?_
 refine w_iinc X20 hx (d14_34 hby) (v := (1 : Int32)) rfl rfl (L' := #[.val (.ref a0), .val (.int ((2 : Int32) + (1 : Int32))), .val (.int p2)]) rfl (pc' := 37) rfl ?_
 rw [show ((2 : Int32) + (1 : Int32)) = (3 : Int32) from by decide]
 refine w_iloadN X20 hx (d14_37 hby) rfl (pc' := 38) rfl ?_
 refine w_getS X20 hx "" hZ hown (Or.inl (wd_62 hw)) Via.refl e20 (zz3.ext O0.2) (d14_38 hby) (pc' := 41) rfl ?_
 intro T21 X21 e21
 refine w_ishr X21 hx (d14_41 hby) (pc' := 42) rfl ?_
 refine w_i2b X21 hx (d14_42 hby) (pc' := 43) rfl ?_
 obtain ⟨clu22, Aru22, qu22, Su22, Nu22, Hu22, Gu22⟩ := id V_a0
 have hinu22 := inb_of (j := (2 : Int32)) Su22 ⟨by decide, by decide⟩
 refine w_stB X21 hx hZ e21 Aru22 hinu22 (d14_43 hby) (pc' := 44) rfl ?_
 intro T23 h23 X23 e23 W23
 have V24 : Arv Z h23 a0 k_a0 .byte (4 : Int32) [(.int jj0), (.int jj1), (.int (nar .byte ((p2 >>> ((0 : Int32) &&& 31)).toInt8.toInt32))), (.int (0 : Int32))] (.int (0 : Int32)) := Arv.set Aru22 qu22 Su22 Nu22 Hu22 Gu22 (fits_nar_byte _) W23 2 rfl (Nat.le_of_ble_eq_true rfl)
 have V25 : Arv Z h23 a0 k_a0 .byte (4 : Int32) [(.int jj0), (.int jj1), (.int ((p2 >>> ((0 : Int32) &&& 31)).toInt8.toInt32)), (.int (0 : Int32))] (.int (0 : Int32)) := by rw [nar_b] at V24; exact V24
 have K26 : Keep h0 h23 [a0] := (Keep.refl h0 [a0]).wr W23 (Or.inl (by simp))
 have N27 := Fr.snoc X23 N0 zz4
 refine w_aloadN X23 hx (d14_44 hby) rfl rfl (pc' := 45) rfl ?_
 refine w_iloadN X23 hx (d14_45 hby) rfl (pc' := 46) rfl ?_
 refine w_iloadN X23 hx (d14_46 hby) rfl (pc' := 47) rfl ?_
 have f28 : Old Z n0 h23 := (O0.wr W23 zz4)
 refine w_getS X23 hx "" hZ hown (Or.inl (wd_63 hw)) Via.refl e23 (zz5.ext f28.2) (d14_47 hby) (pc' := 50) rfl ?_
 intro T29 X29 e29
 refine w_ishr X29 hx (d14_50 hby) (pc' := 51) rfl ?_
 refine w_i2b X29 hx (d14_51 hby) (pc' := 52) rfl ?_
 obtain ⟨clu30, Aru30, qu30, Su30, Nu30, Hu30, Gu30⟩ := id V25
 have hinu30 := inb_of (j := (3 : Int32)) Su30 ⟨by decide, by decide⟩
 refine w_stB X29 hx hZ e29 Aru30 hinu30 (d14_52 hby) (pc' := 53) rfl ?_
 intro T31 h31 X31 e31 W31
 have V32 : Arv Z h31 a0 k_a0 .byte (4 : Int32) [(.int jj0), (.int jj1), (.int ((p2 >>> ((0 : Int32) &&& 31)).toInt8.toInt32)), (.int (nar .byte ((p2 >>> ((8 : Int32) &&& 31)).toInt8.toInt32)))] (.int (0 : Int32)) := Arv.set Aru30 qu30 Su30 Nu30 Hu30 Gu30 (fits_nar_byte _) W31 3 rfl (Nat.le_of_ble_eq_true rfl)
 have V33 : Arv Z h31 a0 k_a0 .byte (4 : Int32) [(.int jj0), (.int jj1), (.int ((p2 >>> ((0 : Int32) &&& 31)).toInt8.toInt32)), (.int ((p2 >>> ((8 : Int32) &&& 31)).toInt8.toInt32))] (.int (0 : Int32)) := by rw [nar_b] at V32; exact V32
 have K34 : Keep h0 h31 [a0] := K26.wr W31 (Or.inl (by simp))
 have N35 := Fr.snoc X31 N27 zz4
 exact w_done X31 hlk (v := none) e31 (fun _ => rfl) (fun fs hr => X31.returnOut hx hret (d14_53 hby) hr) (by decide) (by decide) (⟨rfl, N35, K34, V33⟩)
theorem ef_m11_22 (m : MethodId) (a0 : Addr)  : entryFrame m #[(.ref a0), (.int (0 : Int32)), (.int (2 : Int32))] 5 = mkF m 0 #[.val (.ref a0), .val (.int (0 : Int32)), .val (.int (2 : Int32)), .unset, .unset] [] := by first | (simp [entryFrame, mkF, argsToLocals, Value.category]; done) | rfl
def Q_m11_22 (Z : State) (a0 : Addr) (k_a0 : ClassId) (jj0 : Int32) (jj1 : Int32) (h0 : Heap) (n0 : Nat) (v : Option Value) (h : Heap) (L : List Loc) : Prop := ∃ (r0 : Addr) (c0 : ClassId), v = some (.ref r0) ∧ Fr n0 L ∧ Keep h0 h [] ∧ h0.size ≤ r0 ∧ Arv Z h r0 c0 .byte (4 : Int32) [(.int ((jj0 >>> ((0 : Int32) &&& 31)).toInt8.toInt32)), (.int ((jj0 >>> ((8 : Int32) &&& 31)).toInt8.toInt32)), (.int ((jj1 >>> ((0 : Int32) &&& 31)).toInt8.toInt32)), (.int ((jj1 >>> ((8 : Int32) &&& 31)).toInt8.toInt32))] (.int (0 : Int32))
theorem rm_m11_22 (l : Launch) (Z : State) (aZ : Array Value) (hw : ∀ d ∈ tables_1, d.before aZ Z = true) (ws : List Jvm.Cond) (a0 : Addr) (k_a0 : ClassId) (jj0 : Int32) (jj1 : Int32) (h0 : Heap) (n0 : Nat) (Z0 : n0 ≤ h0.size) (V_a0 : Arv Z h0 a0 k_a0 .char (2 : Int32) [(.int jj0), (.int jj1)] (.int (0 : Int32))) (zz2 : Sta Z Z.heap kc1 "$assertionsDisabled" "Z" (.int (1 : Int32))) (O0 : Old Z n0 h0) (zz3 : Sta Z Z.heap kc1 "HI_BYTE_SHIFT" "I" (.int (0 : Int32))) (zz4 : Sta Z Z.heap kc1 "LO_BYTE_SHIFT" "I" (.int (8 : Int32))) :
    MetN l Z yn_11 jdk_52_method_14_code 5 (some (.array .byte)) ws ({ frames := 2, cells := 1, slots := 4, locals := 24 } : Room) #[(.ref a0), (.int (0 : Int32)), (.int (2 : Int32))] h0 (Q_m11_22 Z a0 k_a0 jj0 jj1 h0 n0) := by
 refine MetN.of (plainFor_of_name pn_3) ?_
 intro p e s m below meth c s₁ hret hx hby hml hown hnm hlk hZ X0 e0
 have N0 := Fr.nil n0
 rw [ef_m11_22 m a0]
 refine w_iloadN X0 hx (d11_0 hby) rfl (pc' := 1) rfl ?_
 refine w_static X0 hx (y := yn_12) hown (mvT hZ (wd_51 hw)) (mvT hZ (wd_52 hw)) (mvT hZ (wd_40 hw)) (mvT hZ (wd_53 hw)) (by decide) (backOf (W := 0) (rm_m12_23 l Z aZ hw []  h0 n0 Z0 ) hZ (wd_53 hw) (wd_40 hw) (by decide) (by decide)) (by rw [hml]; rfl) [(.int (2 : Int32))] (lenOf pd_6 rfl) rfl (Nat.le_of_eq rfl) (d11_1 hby) (fun _ _ => ⟨rfl, e0, (by decide : 0 + 1 ≤ _), (by decide : 0 + 4 ≤ _)⟩) (pc' := 4) rfl ?_
 rintro _ _ ⟨T20, L20, k20, n20⟩ X20 ⟨Lc20, hQ20, l20, y20, z20⟩
 dsimp only [Pt.U, Pt.locs, Pt.cells, Pt.slots] at X20 l20 y20 z20 hQ20 ⊢
 rw [l20, y20, z20] at X20
 obtain ⟨r0_20, c0_20, rfl, N20q, K20, g20_0, g20_1⟩ := hQ20
 have N21 := Fr.app N0 N20q
 have K22 : Keep h0 T20.heap [] := (Keep.refl h0 []).trans K20 (all0 (P := fun x => x ∈ [] ∨ h0.size ≤ x))
 have ge23 : n0 ≤ r0_20 := Nat.le_trans Z0 g20_0
 have sz24 : h0.size ≤ r0_20 := Nat.le_trans (Nat.le_refl _) g20_0
 show Runs _ _ _ _ (T20.setTop (mkF m 4 #[.val (.ref a0), .val (.int (0 : Int32)), .val (.int (2 : Int32)), .unset, .unset] [(.ref r0_20)]))
 refine w_astoreN X20 hx (d11_4 hby) rfl (L' := #[.val (.ref a0), .val (.int (0 : Int32)), .val (.int (2 : Int32)), .val (.ref r0_20), .unset]) rfl (pc' := 5) rfl ?_
 refine w_iconst X20 hx (d11_5 hby) (v := (0 : Int32)) rfl (pc' := 6) rfl ?_
 refine w_istore X20 hx (d11_6 hby) (L' := #[.val (.ref a0), .val (.int (0 : Int32)), .val (.int (2 : Int32)), .val (.ref r0_20), .val (.int (0 : Int32))]) rfl (pc' := 8) rfl ?_
 refine w_iload X20 hx (d11_8 hby) rfl (pc' := 10) rfl ?_
 refine w_iloadN X20 hx (d11_10 hby) rfl (pc' := 11) rfl ?_
 refine w_icN X20 hx (d11_11 hby) (tlt (by decide : (0 : Int32) < (2 : Int32))).2.1 (pc' := 14) rfl ?_
 refine w_aloadN X20 hx (d11_14 hby) rfl rfl (pc' := 15) rfl ?_
 refine w_iload X20 hx (d11_15 hby) rfl (pc' := 17) rfl ?_
 refine w_aloadN X20 hx (d11_17 hby) rfl rfl (pc' := 18) rfl ?_
 refine w_iloadN X20 hx (d11_18 hby) rfl (pc' := 19) rfl ?_
 have f25 : Arv Z T20.heap a0 k_a0 .char (2 : Int32) [(.int jj0), (.int jj1)] (.int (0 : Int32)) := (V_a0.keep K20 nin0)
 obtain ⟨clu26, Aru26, qu26, Su26, Nu26, Hu26, Gu26⟩ := id f25
 have hinu26 := inb_of (j := (0 : Int32)) Su26 ⟨by decide, by decide⟩
 refine w_caload X20 hx hZ rfl Aru26 hinu26 (Hu26.at hinu26 rfl) (d11_19 hby) (pc' := 20) rfl ?_
 have f28 : Old Z n0 T20.heap := (O0.keep K20 all0)
 refine w_static X20 hx (y := yn_14) hown (mvT hZ (wd_58 hw)) (mvT hZ (wd_59 hw)) (mvT hZ (wd_40 hw)) (mvT hZ (wd_60 hw)) (by decide) (backOf (W := 0) (rm_m14_25 l Z aZ hw [] r0_20 jj0 c0_20 T20.heap n0 (Nat.le_trans Z0 K20.1) zz2 f28 zz3 g20_1 ge23 zz4) hZ (wd_60 hw) (wd_40 hw) (by decide) (by decide)) (by rw [hml]; rfl) [(.ref r0_20), (.int (0 : Int32)), (.int jj0)] (lenOf pd_7 rfl) rfl (Nat.le_of_eq rfl) (d11_20 hby) (fun _ _ => ⟨rfl, rfl, (by decide : 1 + 0 ≤ _), (by decide : 4 + 0 ≤ _)⟩) (pc' := 23) rfl ?_
 rintro _ _ ⟨T29, L29, k29, n29⟩ X29 ⟨Lc29, hQ29, l29, y29, z29⟩
 dsimp only [Pt.U, Pt.locs, Pt.cells, Pt.slots] at X29 l29 y29 z29 hQ29 ⊢
 rw [l29, y29, z29] at X29
 obtain ⟨rfl, N29q, K29, g29_0⟩ := hQ29
 have N30 := Fr.app N21 N29q
 have K31 : Keep h0 T29.heap [] := K22.trans K29 (allS (Or.inr sz24) (all0 (P := fun x => x ∈ [] ∨ h0.size ≤ x)))
 show Runs _ _ _ _ (T29.setTop (mkF m 23 #[.val (.ref a0), .val (.int (0 : Int32)), .val (.int (2 : Int32)), .val (.ref r0_20), .val (.int (0 : Int32))] []))
 refine w_iinc X29 hx (d11_23 hby) (v := (1 : Int32)) rfl rfl (L' := #[.val (.ref a0), .val (.int ((0 : Int32) + (1 : Int32))), .val (.int (2 : Int32)), .val (.ref r0_20), .val (.int (0 : Int32))]) rfl (pc' := 26) rfl ?_
 rw [show ((0 : Int32) + (1 : Int32)) = (1 : Int32) from by decide]
 refine w_iinc X29 hx (d11_26 hby) (v := (1 : Int32)) rfl rfl (L' := #[.val (.ref a0), .val (.int (1 : Int32)), .val (.int (2 : Int32)), .val (.ref r0_20), .val (.int ((0 : Int32) + (1 : Int32)))]) rfl (pc' := 29) rfl ?_
 rw [show ((0 : Int32) + (1 : Int32)) = (1 : Int32) from by decide]
 refine w_goto X29 hx (d11_29 hby) (pc' := 8) (by decide) (by decide) ?_
 refine w_iload X29 hx (d11_8 hby) rfl (pc' := 10) rfl ?_
 refine w_iloadN X29 hx (d11_10 hby) rfl (pc' := 11) rfl ?_
 refine w_icN X29 hx (d11_11 hby) (tlt (by decide : (1 : Int32) < (2 : Int32))).2.1 (pc' := 14) rfl ?_
 refine w_aloadN X29 hx (d11_14 hby) rfl rfl (pc' := 15) rfl ?_
 refine w_iload X29 hx (d11_15 hby) rfl (pc' := 17) rfl ?_
 refine w_aloadN X29 hx (d11_17 hby) rfl rfl (pc' := 18) rfl ?_
 refine w_iloadN X29 hx (d11_18 hby) rfl (pc' := 19) rfl ?_
 have ne32 : a0 ≠ r0_20 := (Nat.ne_of_lt (Nat.lt_of_lt_of_le V_a0.lt (Nat.le_trans (Nat.le_refl _) g20_0)))
 have f33 : Arv Z T29.heap a0 k_a0 .char (2 : Int32) [(.int jj0), (.int jj1)] (.int (0 : Int32)) := (f25.keep K29 (ninS ne32 nin0))
 obtain ⟨clu34, Aru34, qu34, Su34, Nu34, Hu34, Gu34⟩ := id f33
 have hinu34 := inb_of (j := (1 : Int32)) Su34 ⟨by decide, by decide⟩
 refine w_caload X29 hx hZ rfl Aru34 hinu34 (Hu34.at hinu34 rfl) (d11_19 hby) (pc' := 20) rfl ?_
 have f35 : Old Z n0 T29.heap := (f28.keep K29 (allS ge23 all0))
 have le36 : h0.size ≤ T29.heap.size := (Nat.le_trans K20.1 K29.1)
 refine w_static X29 hx (y := yn_14) hown (mvT hZ (wd_58 hw)) (mvT hZ (wd_59 hw)) (mvT hZ (wd_40 hw)) (mvT hZ (wd_60 hw)) (by decide) (backOf (W := 0) (rm_m14_26 l Z aZ hw [] r0_20 jj1 c0_20 ((jj0 >>> ((0 : Int32) &&& 31)).toInt8.toInt32) ((jj0 >>> ((8 : Int32) &&& 31)).toInt8.toInt32) T29.heap n0 (Nat.le_trans Z0 le36) zz2 f35 zz3 g29_0 ge23 zz4) hZ (wd_60 hw) (wd_40 hw) (by decide) (by decide)) (by rw [hml]; rfl) [(.ref r0_20), (.int (1 : Int32)), (.int jj1)] (lenOf pd_7 rfl) rfl (Nat.le_of_eq rfl) (d11_20 hby) (fun _ _ => ⟨rfl, rfl, (by decide : 1 + 0 ≤ _), (by decide : 4 + 0 ≤ _)⟩) (pc' := 23) rfl ?_
 rintro _ _ ⟨T37, L37, k37, n37⟩ X37 ⟨Lc37, hQ37, l37, y37, z37⟩
 dsimp only [Pt.U, Pt.locs, Pt.cells, Pt.slots] at X37 l37 y37 z37 hQ37 ⊢
 rw [l37, y37, z37] at X37
 obtain ⟨rfl, N37q, K37, g37_0⟩ := hQ37
 have N38 := Fr.app N30 N37q
 have K39 : Keep h0 T37.heap [] := K31.trans K37 (allS (Or.inr sz24) (all0 (P := fun x => x ∈ [] ∨ h0.size ≤ x)))
 show Runs _ _ _ _ (T37.setTop (mkF m 23 #[.val (.ref a0), .val (.int (1 : Int32)), .val (.int (2 : Int32)), .val (.ref r0_20), .val (.int (1 : Int32))] []))
 refine w_iinc X37 hx (d11_23 hby) (v := (1 : Int32)) rfl rfl (L' := #[.val (.ref a0), .val (.int ((1 : Int32) + (1 : Int32))), .val (.int (2 : Int32)), .val (.ref r0_20), .val (.int (1 : Int32))]) rfl (pc' := 26) rfl ?_
 rw [show ((1 : Int32) + (1 : Int32)) = (2 : Int32) from by decide]
 refine w_iinc X37 hx (d11_26 hby) (v := (1 : Int32)) rfl rfl (L' := #[.val (.ref a0), .val (.int (2 : Int32)), .val (.int (2 : Int32)), .val (.ref r0_20), .val (.int ((1 : Int32) + (1 : Int32)))]) rfl (pc' := 29) rfl ?_
 rw [show ((1 : Int32) + (1 : Int32)) = (2 : Int32) from by decide]
 refine w_goto X37 hx (d11_29 hby) (pc' := 8) (by decide) (by decide) ?_
 refine w_iload X37 hx (d11_8 hby) rfl (pc' := 10) rfl ?_
 refine w_iloadN X37 hx (d11_10 hby) rfl (pc' := 11) rfl ?_
 refine w_icY X37 hx (d11_11 hby) (flt (by decide : ¬ ((2 : Int32) < (2 : Int32)))).2.1 (pc' := 32) (by decide) (by decide) ?_
 refine w_aloadN X37 hx (d11_32 hby) rfl rfl (pc' := 33) rfl ?_
 exact w_done X37 hlk (v := some (.ref r0_20)) rfl (fun h => by rw [hret] at h; cases h) (fun fs hr => retOut X37 hx hret rfl (Or.inr (Or.inr (Or.inr (Or.inr ⟨rfl, rfl, rfl⟩)))) (d11_33 hby) hr) (by decide) (by decide) (⟨r0_20, c0_20, rfl, N38, K39, sz24, g37_0⟩)
theorem ef_m15_27 (m : MethodId) (a0 : Addr) (p1 : Int32)  : entryFrame m #[(.ref a0), (.int p1)] 2 = mkF m 0 #[.val (.ref a0), .val (.int p1)] [] := by first | (simp [entryFrame, mkF, argsToLocals, Value.category]; done) | rfl
def Q_m15_27 (Z : State) (a0 : Addr) (p1 : Int32) (k_a0 : ClassId) (jj0 : Int32) (jj1 : Int32) (jj2 : Int32) (jj3 : Int32) (h0 : Heap) (n0 : Nat) (v : Option Value) (h : Heap) (L : List Loc) : Prop := v = some (.int (((((gI [jj0, jj1, jj2, jj3] (p1 <<< ((1 : Int32) &&& 31))) &&& (255 : Int32)) <<< ((0 : Int32) &&& 31)) ||| (((gI [jj0, jj1, jj2, jj3] ((p1 <<< ((1 : Int32) &&& 31)) + (1 : Int32))) &&& (255 : Int32)) <<< ((8 : Int32) &&& 31))).toUInt32.toUInt16.toUInt32.toInt32)) ∧ Fr n0 L ∧ h = h0
theorem rm_m15_27 (l : Launch) (Z : State) (aZ : Array Value) (hw : ∀ d ∈ tables_1, d.before aZ Z = true) (ws : List Jvm.Cond) (a0 : Addr) (p1 : Int32) (k_a0 : ClassId) (jj0 : Int32) (jj1 : Int32) (jj2 : Int32) (jj3 : Int32) (h0 : Heap) (n0 : Nat) (Z0 : n0 ≤ h0.size) (zz4 : Sta Z Z.heap kc1 "$assertionsDisabled" "Z" (.int (1 : Int32))) (O0 : Old Z n0 h0) (V_a0 : Arv Z h0 a0 k_a0 .byte (4 : Int32) [(.int jj0), (.int jj1), (.int jj2), (.int jj3)] (.int (0 : Int32))) (hP_3 : ¬ (p1 < (0 : Int32))) (hP_4 : p1 < (2 : Int32)) (zz5 : Sta Z Z.heap kc1 "HI_BYTE_SHIFT" "I" (.int (0 : Int32))) (zz6 : Sta Z Z.heap kc1 "LO_BYTE_SHIFT" "I" (.int (8 : Int32))) :
    MetN l Z yn_15 jdk_52_method_5_code 2 (some .char) ws ({ frames := 0, cells := 0, slots := 0, locals := 0 } : Room) #[(.ref a0), (.int p1)] h0 (Q_m15_27 Z a0 p1 k_a0 jj0 jj1 jj2 jj3 h0 n0) := by
 refine MetN.of (plainFor_of_name pn_3) ?_
 intro p e s m below meth c s₁ hret hx hby hml hown hnm hlk hZ X0 e0
 have N0 := Fr.nil n0
 rw [ef_m15_27 m a0 p1]
 refine w_getS X0 hx "" hZ hown (Or.inl (wd_61 hw)) Via.refl e0 (zz4.ext O0.2) (d15_0 hby) (pc' := 3) rfl ?_
 intro T20 X20 e20
 refine w_ifY X20 hx (d15_3 hby) (feq (by decide : ¬ ((1 : Int32) = (0 : Int32)))).2 (pc' := 28) (by decide) (by decide) ?_
 refine w_iloadN X20 hx (d15_28 hby) rfl (pc' := 29) rfl ?_
 refine w_iconst X20 hx (d15_29 hby) (v := (1 : Int32)) rfl (pc' := 30) rfl ?_
 refine w_ishl X20 hx (d15_30 hby) (pc' := 31) rfl ?_
 refine w_istoreN X20 hx (d15_31 hby) (L' := #[.val (.ref a0), .val (.int (p1 <<< ((1 : Int32) &&& 31)))]) rfl (pc' := 32) rfl ?_
 refine w_aloadN X20 hx (d15_32 hby) rfl rfl (pc' := 33) rfl ?_
 refine w_iloadN X20 hx (d15_33 hby) rfl (pc' := 34) rfl ?_
 refine w_iinc X20 hx (d15_34 hby) (v := (1 : Int32)) rfl rfl (L' := #[.val (.ref a0), .val (.int ((p1 <<< ((1 : Int32) &&& 31)) + (1 : Int32)))]) rfl (pc' := 37) rfl ?_
 obtain ⟨clu21, Aru21, qu21, Su21, Nu21, Hu21, Gu21⟩ := id V_a0
 have hinu21 := inb_of (j := (p1 <<< ((1 : Int32) &&& 31))) Su21 ⟨(own_shl_in (n := 2) (by decide) (by decide) hP_3 hP_4).1.1, (Eq.mp (congrArg (fun z => (p1 <<< ((1 : Int32) &&& 31)) < z) (by decide : (2 : Int32) <<< ((1 : Int32) &&& 31) = 4)) (own_shl_in (n := 2) (by decide) (by decide) hP_3 hP_4).1.2)⟩
 refine w_baload X20 hx hZ e20 Aru21 hinu21 (Hu21.at hinu21 (own_gI [jj0, jj1, jj2, jj3] (p1 <<< ((1 : Int32) &&& 31)))) (d15_37 hby) (pc' := 38) rfl ?_
 refine w_sipush X20 hx (d15_38 hby) (v := (255 : Int32)) rfl (pc' := 41) rfl ?_
 refine w_iand X20 hx (d15_41 hby) (pc' := 42) rfl ?_
 refine w_getS X20 hx "" hZ hown (Or.inl (wd_62 hw)) Via.refl e20 (zz5.ext O0.2) (d15_42 hby) (pc' := 45) rfl ?_
 intro T22 X22 e22
 refine w_ishl X22 hx (d15_45 hby) (pc' := 46) rfl ?_
 refine w_aloadN X22 hx (d15_46 hby) rfl rfl (pc' := 47) rfl ?_
 refine w_iloadN X22 hx (d15_47 hby) rfl (pc' := 48) rfl ?_
 obtain ⟨clu23, Aru23, qu23, Su23, Nu23, Hu23, Gu23⟩ := id V_a0
 have hinu23 := inb_of (j := ((p1 <<< ((1 : Int32) &&& 31)) + (1 : Int32))) Su23 ⟨(own_shl_in (n := 2) (by decide) (by decide) hP_3 hP_4).2.1, (Eq.mp (congrArg (fun z => ((p1 <<< ((1 : Int32) &&& 31)) + (1 : Int32)) < z) (by decide : (2 : Int32) <<< ((1 : Int32) &&& 31) = 4)) (own_shl_in (n := 2) (by decide) (by decide) hP_3 hP_4).2.2)⟩
 refine w_baload X22 hx hZ e22 Aru23 hinu23 (Hu23.at hinu23 (own_gI [jj0, jj1, jj2, jj3] ((p1 <<< ((1 : Int32) &&& 31)) + (1 : Int32)))) (d15_48 hby) (pc' := 49) rfl ?_
 refine w_sipush X22 hx (d15_49 hby) (v := (255 : Int32)) rfl (pc' := 52) rfl ?_
 refine w_iand X22 hx (d15_52 hby) (pc' := 53) rfl ?_
 refine w_getS X22 hx "" hZ hown (Or.inl (wd_63 hw)) Via.refl e22 (zz6.ext O0.2) (d15_53 hby) (pc' := 56) rfl ?_
 intro T24 X24 e24
 refine w_ishl X24 hx (d15_56 hby) (pc' := 57) rfl ?_
 refine w_ior X24 hx (d15_57 hby) (pc' := 58) rfl ?_
 refine w_i2c X24 hx (d15_58 hby) (pc' := 59) rfl ?_
 exact w_done X24 hlk (v := some (.int (((((gI [jj0, jj1, jj2, jj3] (p1 <<< ((1 : Int32) &&& 31))) &&& (255 : Int32)) <<< ((0 : Int32) &&& 31)) ||| (((gI [jj0, jj1, jj2, jj3] ((p1 <<< ((1 : Int32) &&& 31)) + (1 : Int32))) &&& (255 : Int32)) <<< ((8 : Int32) &&& 31))).toUInt32.toUInt16.toUInt32.toInt32))) e24 (fun h => by rw [hret] at h; cases h) (fun fs hr => retOut X24 hx hret (t := .char) (XT.narrow_c _) (Or.inl ⟨rfl, by simp, _, rfl⟩) (d15_59 hby) hr) (by decide) (by decide) (⟨rfl, N0, rfl⟩)
theorem ef_m8_20 (m : MethodId) (a0 : Addr)  : entryFrame m #[(.ref a0), (.int (0 : Int32)), (.int (2 : Int32))] 6 = mkF m 0 #[.val (.ref a0), .val (.int (0 : Int32)), .val (.int (2 : Int32)), .unset, .unset, .unset] [] := by first | (simp [entryFrame, mkF, argsToLocals, Value.category]; done) | rfl
def Q_m8_20 (Z : State) (a0 : Addr) (k_a0 : ClassId) (jj0 : Int32) (jj1 : Int32) (h0 : Heap) (n0 : Nat) (v : Option Value) (h : Heap) (L : List Loc) : Prop := (∃ (t : Addr) (kb : ClassId), v = some (.ref t) ∧ Fr n0 L ∧ Keep h0 h [] ∧ h0.size ≤ t ∧ Arv Z h t kb .byte (2 : Int32) [(.int (jj0.toInt8.toInt32)), (.int (jj1.toInt8.toInt32))] (.int (0 : Int32)) ∧ ¬ ((255 : Int32) < jj0) ∧ ¬ ((255 : Int32) < jj1)) ∨ (∃ (t : Addr) (kb : ClassId), v = some (.ref t) ∧ Fr n0 L ∧ Keep h0 h [] ∧ h0.size ≤ t ∧ Arv Z h t kb .byte (4 : Int32) [(.int ((jj0 >>> ((0 : Int32) &&& 31)).toInt8.toInt32)), (.int ((jj0 >>> ((8 : Int32) &&& 31)).toInt8.toInt32)), (.int ((jj1 >>> ((0 : Int32) &&& 31)).toInt8.toInt32)), (.int ((jj1 >>> ((8 : Int32) &&& 31)).toInt8.toInt32))] (.int (0 : Int32)) ∧ ((255 : Int32) < jj0 ∨ (255 : Int32) < jj1))
theorem rm_m8_20 (l : Launch) (Z : State) (aZ : Array Value) (hw : ∀ d ∈ tables_1, d.before aZ Z = true) (ws : List Jvm.Cond) (a0 : Addr) (k_a0 : ClassId) (jj0 : Int32) (jj1 : Int32) (h0 : Heap) (n0 : Nat) (Z0 : n0 ≤ h0.size) (V_a0 : Arv Z h0 a0 k_a0 .char (2 : Int32) [(.int jj0), (.int jj1)] (.int (0 : Int32))) (zz2 : Sta Z Z.heap kc1 "$assertionsDisabled" "Z" (.int (1 : Int32))) (O0 : Old Z n0 h0) (zz3 : Sta Z Z.heap kc1 "HI_BYTE_SHIFT" "I" (.int (0 : Int32))) (zz4 : Sta Z Z.heap kc1 "LO_BYTE_SHIFT" "I" (.int (8 : Int32))) (zz5 : nar .char jj0 = jj0) (zz6 : nar .char jj1 = jj1) :
    MetN l Z yn_8 jdk_52_method_16_code 6 (some (.array .byte)) ws ({ frames := 3, cells := 2, slots := 6, locals := 40 } : Room) #[(.ref a0), (.int (0 : Int32)), (.int (2 : Int32))] h0 (Q_m8_20 Z a0 k_a0 jj0 jj1 h0 n0) := by
 refine MetN.of (plainFor_of_name pn_3) ?_
 intro p e s m below meth c s₁ hret hx hby hml hown hnm hlk hZ X0 e0
 have N0 := Fr.nil n0
 rw [ef_m8_20 m a0]
 refine w_iloadN X0 hx (d8_0 hby) rfl (pc' := 1) rfl ?_
 refine w_newP X0 hx .byte .byte 2 rfl hZ (wd_26 hw) e0 (d8_1 hby) (by decide) (by decide) (by decide) (by decide) (by decide) (pc' := 3) rfl ?_
 intro T20 h20 k20 b20 X20 e20 E20 g20 A20
 have ge21 : n0 ≤ b20 := Nat.le_trans Z0 (Nat.le_of_eq g20.symm)
 have sz22 : h0.size ≤ b20 := Nat.le_trans (Nat.le_refl _) (Nat.le_of_eq g20.symm)
 have K23 : Keep h0 h20 [] := (Keep.refl h0 []).ext E20
 have V24 : Arv Z h20 b20 k20 .byte (2 : Int32) [(.int (0 : Int32)), (.int (0 : Int32))] (.int (0 : Int32)) := (Arv.new A20 (by decide)).pad (pad_rep [] (.int (0 : Int32)) 2)
 refine w_astoreN X20 hx (d8_3 hby) rfl (L' := #[.val (.ref a0), .val (.int (0 : Int32)), .val (.int (2 : Int32)), .val (.ref b20), .unset, .unset]) rfl (pc' := 4) rfl ?_
 refine w_aloadN X20 hx (d8_4 hby) rfl rfl (pc' := 5) rfl ?_
 refine w_iloadN X20 hx (d8_5 hby) rfl (pc' := 6) rfl ?_
 refine w_aloadN X20 hx (d8_6 hby) rfl rfl (pc' := 7) rfl ?_
 refine w_iconst X20 hx (d8_7 hby) (v := (0 : Int32)) rfl (pc' := 8) rfl ?_
 refine w_iloadN X20 hx (d8_8 hby) rfl (pc' := 9) rfl ?_
 have f25 : Arv Z h20 a0 k_a0 .char (2 : Int32) [(.int jj0), (.int jj1)] (.int (0 : Int32)) := (V_a0.ext E20)
 have ne26 : a0 ≠ b20 := (Nat.ne_of_lt (Nat.lt_of_lt_of_le V_a0.lt (Nat.le_trans (Nat.le_refl _) (Nat.le_of_eq g20.symm))))
 refine w_static X20 hx (y := yn_9) hown (mvT hZ (wd_42 hw)) (mvT hZ (wd_43 hw)) (mvT hZ (wd_40 hw)) (mvT hZ (wd_44 hw)) (by decide) (backOf (W := 0) (rm_m9_21 l Z aZ hw [] a0 b20 k_a0 jj0 jj1 k20 h20 n0 (Nat.le_trans Z0 E20.1) f25 V24 ge21 ne26) hZ (wd_44 hw) (wd_40 hw) (by decide) (by decide)) (by rw [hml]; rfl) [(.ref a0), (.int (0 : Int32)), (.ref b20), (.int (0 : Int32)), (.int (2 : Int32))] (lenOf pd_4 rfl) rfl (Nat.le_of_eq rfl) (d8_9 hby) (fun _ _ => ⟨rfl, e20, (by decide : 1 + 0 ≤ _), (by decide : 2 + 0 ≤ _)⟩) (pc' := 12) rfl ?_
 rintro _ _ ⟨T27, L27, k27, n27⟩ X27 ⟨Lc27, hQ27, l27, y27, z27⟩
 dsimp only [Pt.U, Pt.locs, Pt.cells, Pt.slots] at X27 l27 y27 z27 hQ27 ⊢
 rw [l27, y27, z27] at X27
 rcases hQ27 with ⟨rfl, N27q, K27, g27_0, g27_1, g27_2⟩ | ⟨j_27, rfl, N27q, K27, g27_0, g27_1, g27_2⟩
 · have N28 := Fr.app N0 N27q
   have K29 : Keep h0 T27.heap [] := K23.trans K27 (allS (Or.inr sz22) (all0 (P := fun x => x ∈ [] ∨ h0.size ≤ x)))
   show Runs _ _ _ _ (T27.setTop (mkF m 12 #[.val (.ref a0), .val (.int (0 : Int32)), .val (.int (2 : Int32)), .val (.ref b20), .unset, .unset] [(.int (2 : Int32))]))
   refine w_istore X27 hx (d8_12 hby) (L' := #[.val (.ref a0), .val (.int (0 : Int32)), .val (.int (2 : Int32)), .val (.ref b20), .val (.int (2 : Int32)), .unset]) rfl (pc' := 14) rfl ?_
   refine w_iload X27 hx (d8_14 hby) rfl (pc' := 16) rfl ?_
   refine w_iloadN X27 hx (d8_16 hby) rfl (pc' := 17) rfl ?_
   refine w_icY X27 hx (d8_17 hby) (teq (by decide : (2 : Int32) = (2 : Int32))).1 (pc' := 57) (by decide) (by decide) ?_
   refine w_aloadN X27 hx (d8_57 hby) rfl rfl (pc' := 58) rfl ?_
   exact w_done X27 hlk (v := some (.ref b20)) rfl (fun h => by rw [hret] at h; cases h) (fun fs hr => retOut X27 hx hret rfl (Or.inr (Or.inr (Or.inr (Or.inr ⟨rfl, rfl, rfl⟩)))) (d8_58 hby) hr) (by decide) (by decide) (Or.inl ⟨b20, k20, rfl, N28, K29, sz22, g27_0, g27_1, g27_2⟩)
 · have N30 := Fr.app N0 N27q
   have K31 : Keep h0 T27.heap [] := K23.trans K27 (allS (Or.inr sz22) (all0 (P := fun x => x ∈ [] ∨ h0.size ≤ x)))
   show Runs _ _ _ _ (T27.setTop (mkF m 12 #[.val (.ref a0), .val (.int (0 : Int32)), .val (.int (2 : Int32)), .val (.ref b20), .unset, .unset] [(.int j_27)]))
   refine w_istore X27 hx (d8_12 hby) (L' := #[.val (.ref a0), .val (.int (0 : Int32)), .val (.int (2 : Int32)), .val (.ref b20), .val (.int j_27), .unset]) rfl (pc' := 14) rfl ?_
   refine w_iload X27 hx (d8_14 hby) rfl (pc' := 16) rfl ?_
   refine w_iloadN X27 hx (d8_16 hby) rfl (pc' := 17) rfl ?_
   refine w_icN X27 hx (d8_17 hby) (feq (fun q => by have h9 := g27_1; rw [q] at h9; exact absurd h9 (by decide))).1 (pc' := 20) rfl ?_
   refine w_aloadN X27 hx (d8_20 hby) rfl rfl (pc' := 21) rfl ?_
   refine w_iloadN X27 hx (d8_21 hby) rfl (pc' := 22) rfl ?_
   refine w_iloadN X27 hx (d8_22 hby) rfl (pc' := 23) rfl ?_
   have f32 : Arv Z T27.heap a0 k_a0 .char (2 : Int32) [(.int jj0), (.int jj1)] (.int (0 : Int32)) := (f25.keep K27 (ninS ne26 nin0))
   have f33 : Old Z n0 T27.heap := ((O0.ext E20).keep K27 (allS ge21 all0))
   have le34 : h0.size ≤ T27.heap.size := (Nat.le_trans E20.1 K27.1)
   refine w_static X27 hx (y := yn_11) hown (mvT hZ (wd_48 hw)) (mvT hZ (wd_49 hw)) (mvT hZ (wd_40 hw)) (mvT hZ (wd_50 hw)) (by decide) (backOf (W := 0) (rm_m11_22 l Z aZ hw [] a0 k_a0 jj0 jj1 T27.heap n0 (Nat.le_trans Z0 le34) f32 zz2 f33 zz3 zz4) hZ (wd_50 hw) (wd_40 hw) (by decide) (by decide)) (by rw [hml]; rfl) [(.ref a0), (.int (0 : Int32)), (.int (2 : Int32))] (lenOf pd_8 rfl) rfl (Nat.le_of_eq rfl) (d8_23 hby) (fun _ _ => ⟨rfl, rfl, (by decide : 1 + 1 ≤ _), (by decide : 2 + 4 ≤ _)⟩) (pc' := 26) rfl ?_
   rintro _ _ ⟨T35, L35, k35, n35⟩ X35 ⟨Lc35, hQ35, l35, y35, z35⟩
   dsimp only [Pt.U, Pt.locs, Pt.cells, Pt.slots] at X35 l35 y35 z35 hQ35 ⊢
   rw [l35, y35, z35] at X35
   obtain ⟨r0_35, c0_35, rfl, N35q, K35, g35_0, g35_1⟩ := hQ35
   have N36 := Fr.app N30 N35q
   have K37 : Keep h0 T35.heap [] := K31.trans K35 (all0 (P := fun x => x ∈ [] ∨ h0.size ≤ x))
   have ge38 : n0 ≤ r0_35 := Nat.le_trans (Nat.le_trans Z0 le34) g35_0
   have sz39 : h0.size ≤ r0_35 := Nat.le_trans le34 g35_0
   show Runs _ _ _ _ (T35.setTop (mkF m 26 #[.val (.ref a0), .val (.int (0 : Int32)), .val (.int (2 : Int32)), .val (.ref b20), .val (.int j_27), .unset] [(.ref r0_35)]))
   refine w_astore X35 hx (d8_26 hby) rfl (L' := #[.val (.ref a0), .val (.int (0 : Int32)), .val (.int (2 : Int32)), .val (.ref b20), .val (.int j_27), .val (.ref r0_35)]) rfl (pc' := 28) rfl ?_
   refine w_aload X35 hx (d8_28 hby) rfl rfl (pc' := 30) rfl ?_
   refine w_iload X35 hx (d8_30 hby) rfl (pc' := 32) rfl ?_
   have f41 : Old Z n0 T35.heap := (f33.keep K35 all0)
   have le42 : h0.size ≤ T35.heap.size := (Nat.le_trans le34 K35.1)
   refine w_static X35 hx (y := yn_15) hown (mvT hZ (wd_64 hw)) (mvT hZ (wd_65 hw)) (mvT hZ (wd_40 hw)) (mvT hZ (wd_66 hw)) (by decide) (backOf (W := 0) (rm_m15_27 l Z aZ hw [] r0_35 j_27 c0_35 ((jj0 >>> ((0 : Int32) &&& 31)).toInt8.toInt32) ((jj0 >>> ((8 : Int32) &&& 31)).toInt8.toInt32) ((jj1 >>> ((0 : Int32) &&& 31)).toInt8.toInt32) ((jj1 >>> ((8 : Int32) &&& 31)).toInt8.toInt32) T35.heap n0 (Nat.le_trans Z0 le42) zz2 f41 g35_1 g27_0 g27_1 zz3 zz4) hZ (wd_66 hw) (wd_40 hw) (by decide) (by decide)) (by rw [hml]; rfl) [(.ref r0_35), (.int j_27)] (lenOf pd_9 rfl) rfl (Nat.le_of_eq rfl) (d8_32 hby) (fun _ _ => ⟨rfl, rfl, (by decide : 2 + 0 ≤ _), (by decide : 6 + 0 ≤ _)⟩) (pc' := 35) rfl ?_
   rintro _ _ ⟨T43, L43, k43, n43⟩ X43 ⟨Lc43, hQ43, l43, y43, z43⟩
   dsimp only [Pt.U, Pt.locs, Pt.cells, Pt.slots] at X43 l43 y43 z43 hQ43 ⊢
   rw [l43, y43, z43] at X43
   obtain ⟨rfl, N43q, e43⟩ := hQ43
   have N44 := Fr.app N36 N43q
   show Runs _ _ _ _ (T43.setTop (mkF m 35 #[.val (.ref a0), .val (.int (0 : Int32)), .val (.int (2 : Int32)), .val (.ref b20), .val (.int j_27), .val (.ref r0_35)] [(.int (((((gI [((jj0 >>> ((0 : Int32) &&& 31)).toInt8.toInt32), ((jj0 >>> ((8 : Int32) &&& 31)).toInt8.toInt32), ((jj1 >>> ((0 : Int32) &&& 31)).toInt8.toInt32), ((jj1 >>> ((8 : Int32) &&& 31)).toInt8.toInt32)] (j_27 <<< ((1 : Int32) &&& 31))) &&& (255 : Int32)) <<< ((0 : Int32) &&& 31)) ||| (((gI [((jj0 >>> ((0 : Int32) &&& 31)).toInt8.toInt32), ((jj0 >>> ((8 : Int32) &&& 31)).toInt8.toInt32), ((jj1 >>> ((0 : Int32) &&& 31)).toInt8.toInt32), ((jj1 >>> ((8 : Int32) &&& 31)).toInt8.toInt32)] ((j_27 <<< ((1 : Int32) &&& 31)) + (1 : Int32))) &&& (255 : Int32)) <<< ((8 : Int32) &&& 31))).toUInt32.toUInt16.toUInt32.toInt32))]))
   refine w_sipush X43 hx (d8_35 hby) (v := (255 : Int32)) rfl (pc' := 38) rfl ?_
   refine w_icY X43 hx (d8_38 hby) (tlt (show (255 : Int32) < (((((gI [((jj0 >>> ((0 : Int32) &&& 31)).toInt8.toInt32), ((jj0 >>> ((8 : Int32) &&& 31)).toInt8.toInt32), ((jj1 >>> ((0 : Int32) &&& 31)).toInt8.toInt32), ((jj1 >>> ((8 : Int32) &&& 31)).toInt8.toInt32)] (j_27 <<< ((1 : Int32) &&& 31))) &&& (255 : Int32)) <<< ((0 : Int32) &&& 31)) ||| (((gI [((jj0 >>> ((0 : Int32) &&& 31)).toInt8.toInt32), ((jj0 >>> ((8 : Int32) &&& 31)).toInt8.toInt32), ((jj1 >>> ((0 : Int32) &&& 31)).toInt8.toInt32), ((jj1 >>> ((8 : Int32) &&& 31)).toInt8.toInt32)] ((j_27 <<< ((1 : Int32) &&& 31)) + (1 : Int32))) &&& (255 : Int32)) <<< ((8 : Int32) &&& 31))).toUInt32.toUInt16.toUInt32.toInt32) from by rw [own_uj2 g27_0 g27_1 zz5 zz6]; exact g27_2)).2.2.1 (pc' := 54) (by decide) (by decide) ?_
   refine w_aload X43 hx (d8_54 hby) rfl rfl (pc' := 56) rfl ?_
   exact w_done X43 hlk (v := some (.ref r0_35)) e43 (fun h => by rw [hret] at h; cases h) (fun fs hr => retOut X43 hx hret rfl (Or.inr (Or.inr (Or.inr (Or.inr ⟨rfl, rfl, rfl⟩)))) (d8_56 hby) hr) (by decide) (by decide) (Or.inr (⟨r0_35, c0_35, rfl, N44, K37, sz39, g35_1, (own_or2 g27_0 g27_1 g27_2)⟩))
theorem ef_m10_28 (m : MethodId) (a0 : Addr)  : entryFrame m #[(.ref a0), (.int (2 : Int32))] 2 = mkF m 0 #[.val (.ref a0), .val (.int (2 : Int32))] [] := by first | (simp [entryFrame, mkF, argsToLocals, Value.category]; done) | rfl
def Q_m10_28 (Z : State) (a0 : Addr) (k_a0 : ClassId) (jj0 : Int32) (jj1 : Int32) (h0 : Heap) (n0 : Nat) (v : Option Value) (h : Heap) (L : List Loc) : Prop := v = some (.int (0 : Int32)) ∧ Fr n0 L ∧ h = h0
theorem rm_m10_28 (l : Launch) (Z : State) (aZ : Array Value) (hw : ∀ d ∈ tables_1, d.before aZ Z = true) (ws : List Jvm.Cond) (a0 : Addr) (k_a0 : ClassId) (jj0 : Int32) (jj1 : Int32) (h0 : Heap) (n0 : Nat) (Z0 : n0 ≤ h0.size) (V_a0 : Arv Z h0 a0 k_a0 .byte (2 : Int32) [(.int jj0), (.int jj1)] (.int (0 : Int32))) :
    MetN l Z yn_10 jdk_52_method_15_code 2 (some .byte) ws ({ frames := 0, cells := 0, slots := 0, locals := 0 } : Room) #[(.ref a0), (.int (2 : Int32))] h0 (Q_m10_28 Z a0 k_a0 jj0 jj1 h0 n0) := by
 refine MetN.of (plainFor_of_name pn_3) ?_
 intro p e s m below meth c s₁ hret hx hby hml hown hnm hlk hZ X0 e0
 have N0 := Fr.nil n0
 rw [ef_m10_28 m a0]
 refine w_iloadN X0 hx (d10_0 hby) rfl (pc' := 1) rfl ?_
 refine w_aloadN X0 hx (d10_1 hby) rfl rfl (pc' := 2) rfl ?_
 refine w_alen X0 hx hZ e0 V_a0 (d10_2 hby) (pc' := 3) rfl ?_
 refine w_isub X0 hx (d10_3 hby) (pc' := 4) rfl ?_
 rw [show ((2 : Int32) - (2 : Int32)) = (0 : Int32) from by decide]
 refine w_bipush X0 hx (d10_4 hby) (v := (31 : Int32)) rfl (pc' := 6) rfl ?_
 refine w_iushr X0 hx (d10_6 hby) (pc' := 7) rfl ?_
 rw [show (((0 : Int32).toUInt32 >>> ((31 : Int32) &&& 31).toUInt32).toInt32) = (0 : Int32) from by decide]
 refine w_i2b X0 hx (d10_7 hby) (pc' := 8) rfl ?_
 rw [show ((0 : Int32).toInt8.toInt32) = (0 : Int32) from by decide]
 exact w_done X0 hlk (v := some (.int (0 : Int32))) e0 (fun h => by rw [hret] at h; cases h) (fun fs hr => retN X0 hx (t := .byte) hret (by simp) (d10_8 hby) hr) (by decide) (by decide) (⟨rfl, N0, rfl⟩)
theorem ef_m10_29 (m : MethodId) (a0 : Addr)  : entryFrame m #[(.ref a0), (.int (2 : Int32))] 2 = mkF m 0 #[.val (.ref a0), .val (.int (2 : Int32))] [] := by first | (simp [entryFrame, mkF, argsToLocals, Value.category]; done) | rfl
def Q_m10_29 (Z : State) (a0 : Addr) (k_a0 : ClassId) (jj0 : Int32) (jj1 : Int32) (jj2 : Int32) (jj3 : Int32) (h0 : Heap) (n0 : Nat) (v : Option Value) (h : Heap) (L : List Loc) : Prop := v = some (.int (1 : Int32)) ∧ Fr n0 L ∧ h = h0
theorem rm_m10_29 (l : Launch) (Z : State) (aZ : Array Value) (hw : ∀ d ∈ tables_1, d.before aZ Z = true) (ws : List Jvm.Cond) (a0 : Addr) (k_a0 : ClassId) (jj0 : Int32) (jj1 : Int32) (jj2 : Int32) (jj3 : Int32) (h0 : Heap) (n0 : Nat) (Z0 : n0 ≤ h0.size) (V_a0 : Arv Z h0 a0 k_a0 .byte (4 : Int32) [(.int jj0), (.int jj1), (.int jj2), (.int jj3)] (.int (0 : Int32))) :
    MetN l Z yn_10 jdk_52_method_15_code 2 (some .byte) ws ({ frames := 0, cells := 0, slots := 0, locals := 0 } : Room) #[(.ref a0), (.int (2 : Int32))] h0 (Q_m10_29 Z a0 k_a0 jj0 jj1 jj2 jj3 h0 n0) := by
 refine MetN.of (plainFor_of_name pn_3) ?_
 intro p e s m below meth c s₁ hret hx hby hml hown hnm hlk hZ X0 e0
 have N0 := Fr.nil n0
 rw [ef_m10_29 m a0]
 refine w_iloadN X0 hx (d10_0 hby) rfl (pc' := 1) rfl ?_
 refine w_aloadN X0 hx (d10_1 hby) rfl rfl (pc' := 2) rfl ?_
 refine w_alen X0 hx hZ e0 V_a0 (d10_2 hby) (pc' := 3) rfl ?_
 refine w_isub X0 hx (d10_3 hby) (pc' := 4) rfl ?_
 rw [show ((2 : Int32) - (4 : Int32)) = (-2 : Int32) from by decide]
 refine w_bipush X0 hx (d10_4 hby) (v := (31 : Int32)) rfl (pc' := 6) rfl ?_
 refine w_iushr X0 hx (d10_6 hby) (pc' := 7) rfl ?_
 rw [show (((-2 : Int32).toUInt32 >>> ((31 : Int32) &&& 31).toUInt32).toInt32) = (1 : Int32) from by decide]
 refine w_i2b X0 hx (d10_7 hby) (pc' := 8) rfl ?_
 rw [show ((1 : Int32).toInt8.toInt32) = (1 : Int32) from by decide]
 exact w_done X0 hlk (v := some (.int (1 : Int32))) e0 (fun h => by rw [hret] at h; cases h) (fun fs hr => retN X0 hx (t := .byte) hret (by simp) (d10_8 hby) hr) (by decide) (by decide) (⟨rfl, N0, rfl⟩)
theorem ef_m5_19 (m : MethodId) (a0 : Addr) (a1 : Addr)  : entryFrame m #[(.ref a0), (.ref a1), (.int (0 : Int32)), (.int (2 : Int32)), .null] 6 = mkF m 0 #[.val (.ref a0), .val (.ref a1), .val (.int (0 : Int32)), .val (.int (2 : Int32)), .val .null, .unset] [] := by first | (simp [entryFrame, mkF, argsToLocals, Value.category]; done) | rfl
def Q_m5_19 (Z : State) (a0 : Addr) (a1 : Addr) (jj0 : Int32) (k_a1 : ClassId) (jj1 : Int32) (jj2 : Int32) (h0 : Heap) (n0 : Nat) (v : Option Value) (h : Heap) (L : List Loc) : Prop := (∃ (t : Addr) (kb : ClassId), v = none ∧ Fr n0 L ∧ Keep h0 h [a0] ∧ Exa Z h a0 kc0 ∧ Fld Z h a0 kc0 "coder" "B" (.int (0 : Int32)) ∧ Fld Z h a0 kc0 "value" "[B" (.ref t) ∧ h0.size ≤ t ∧ Arv Z h t kb .byte (2 : Int32) [(.int (jj1.toInt8.toInt32)), (.int (jj2.toInt8.toInt32))] (.int (0 : Int32)) ∧ ¬ ((255 : Int32) < jj1) ∧ ¬ ((255 : Int32) < jj2)) ∨ (∃ (t : Addr) (kb : ClassId), v = none ∧ Fr n0 L ∧ Keep h0 h [a0] ∧ Exa Z h a0 kc0 ∧ Fld Z h a0 kc0 "coder" "B" (.int (1 : Int32)) ∧ Fld Z h a0 kc0 "value" "[B" (.ref t) ∧ h0.size ≤ t ∧ Arv Z h t kb .byte (4 : Int32) [(.int ((jj1 >>> ((0 : Int32) &&& 31)).toInt8.toInt32)), (.int ((jj1 >>> ((8 : Int32) &&& 31)).toInt8.toInt32)), (.int ((jj2 >>> ((0 : Int32) &&& 31)).toInt8.toInt32)), (.int ((jj2 >>> ((8 : Int32) &&& 31)).toInt8.toInt32))] (.int (0 : Int32)) ∧ ((255 : Int32) < jj1 ∨ (255 : Int32) < jj2))
theorem rm_m5_19 (l : Launch) (Z : State) (aZ : Array Value) (hw : ∀ d ∈ tables_1, d.before aZ Z = true) (ws : List Jvm.Cond) (a0 : Addr) (a1 : Addr) (jj0 : Int32) (k_a1 : ClassId) (jj1 : Int32) (jj2 : Int32) (h0 : Heap) (n0 : Nat) (Z0 : n0 ≤ h0.size) (zz3 : Sta Z Z.heap kc0 "COMPACT_STRINGS" "Z" (.int jj0)) (O0 : Old Z n0 h0) (hP_2 : ¬ (jj0 = (0 : Int32))) (V_a1 : Arv Z h0 a1 k_a1 .char (2 : Int32) [(.int jj1), (.int jj2)] (.int (0 : Int32))) (zz4 : nar .char jj1 = jj1) (zz5 : nar .char jj2 = jj2) (zz6 : Sta Z Z.heap kc1 "$assertionsDisabled" "Z" (.int (1 : Int32))) (zz7 : Sta Z Z.heap kc1 "HI_BYTE_SHIFT" "I" (.int (0 : Int32))) (zz8 : Sta Z Z.heap kc1 "LO_BYTE_SHIFT" "I" (.int (8 : Int32))) (E_a0 : Exa Z h0 a0 kc0) (zz9 : Fld Z h0 a0 kc0 "coder" "B" (.int (0 : Int32))) (zz10 : n0 ≤ a0) (zz11 : Fld Z h0 a0 kc0 "value" "[B" .null) :
    MetN l Z yn_5 jdk_42_method_149_code 6 none ws ({ frames := 4, cells := 2, slots := 6, locals := 57 } : Room) #[(.ref a0), (.ref a1), (.int (0 : Int32)), (.int (2 : Int32)), .null] h0 (Q_m5_19 Z a0 a1 jj0 k_a1 jj1 jj2 h0 n0) := by
 refine MetN.of (plainFor_of_name pn_2) ?_
 intro p e s m below meth c s₁ hret hx hby hml hown hnm hlk hZ X0 e0
 have N0 := Fr.nil n0
 rw [ef_m5_19 m a0 a1]
 refine w_aloadN X0 hx (d5_0 hby) rfl rfl (pc' := 1) rfl ?_
 refine w_initO X0 hx 0 hZ hown (wd_22 hw) (wd_23 hw) (wd_24 hw) e0 (by rw [hml]; rfl) (d5_1 hby) (by decide) (Nat.le_of_eq rfl) (by decide) (pc' := 4) rfl ?_
 intro T20 X20 e20
 refine w_iloadN X20 hx (d5_4 hby) rfl (pc' := 5) rfl ?_
 refine w_ifY X20 hx (d5_5 hby) (feq (by decide : ¬ ((2 : Int32) = (0 : Int32)))).2 (pc' := 27) (by decide) (by decide) ?_
 refine w_getS X20 hx "" hZ hown (Or.inl (wd_37 hw)) Via.refl e20 (zz3.ext O0.2) (d5_27 hby) (pc' := 30) rfl ?_
 intro T21 X21 e21
 refine w_ifN X21 hx (d5_30 hby) (feq hP_2).1 (pc' := 33) rfl ?_
 refine w_aloadN X21 hx (d5_33 hby) rfl rfl (pc' := 34) rfl ?_
 refine w_iloadN X21 hx (d5_34 hby) rfl (pc' := 35) rfl ?_
 refine w_iloadN X21 hx (d5_35 hby) rfl (pc' := 36) rfl ?_
 refine w_static X21 hx (y := yn_8) hown (mvT hZ (wd_38 hw)) (mvT hZ (wd_39 hw)) (mvT hZ (wd_40 hw)) (mvT hZ (wd_41 hw)) (by decide) (backOf (W := 0) (rm_m8_20 l Z aZ hw [] a1 k_a1 jj1 jj2 h0 n0 Z0 V_a1 zz6 O0 zz7 zz8 zz4 zz5) hZ (wd_41 hw) (wd_40 hw) (by decide) (by decide)) (by rw [hml]; rfl) [(.ref a1), (.int (0 : Int32)), (.int (2 : Int32))] (lenOf pd_8 rfl) rfl (Nat.le_of_eq rfl) (d5_36 hby) (fun _ _ => ⟨rfl, e21, (by decide : 0 + 2 ≤ _), (by decide : 0 + 6 ≤ _)⟩) (pc' := 39) rfl ?_
 rintro _ _ ⟨T22, L22, k22, n22⟩ X22 ⟨Lc22, hQ22, l22, y22, z22⟩
 dsimp only [Pt.U, Pt.locs, Pt.cells, Pt.slots] at X22 l22 y22 z22 hQ22 ⊢
 rw [l22, y22, z22] at X22
 rcases hQ22 with ⟨t_22, kb_22, rfl, N22q, K22, g22_0, g22_1, g22_2, g22_3⟩ | ⟨t_22, kb_22, rfl, N22q, K22, g22_0, g22_1, g22_2⟩
 · have N23 := Fr.app N0 N22q
   have K24 : Keep h0 T22.heap [a0] := (Keep.refl h0 [a0]).trans K22 (all0 (P := fun x => x ∈ [a0] ∨ h0.size ≤ x))
   have ge25 : n0 ≤ t_22 := Nat.le_trans Z0 g22_0
   have sz26 : h0.size ≤ t_22 := Nat.le_trans (Nat.le_refl _) g22_0
   show Runs _ _ _ _ (T22.setTop (mkF m 39 #[.val (.ref a0), .val (.ref a1), .val (.int (0 : Int32)), .val (.int (2 : Int32)), .val .null, .unset] [(.ref t_22)]))
   refine w_astore X22 hx (d5_39 hby) rfl (L' := #[.val (.ref a0), .val (.ref a1), .val (.int (0 : Int32)), .val (.int (2 : Int32)), .val .null, .val (.ref t_22)]) rfl (pc' := 41) rfl ?_
   refine w_aloadN X22 hx (d5_41 hby) rfl rfl (pc' := 42) rfl ?_
   refine w_aload X22 hx (d5_42 hby) rfl rfl (pc' := 44) rfl ?_
   refine w_iloadN X22 hx (d5_44 hby) rfl (pc' := 45) rfl ?_
   refine w_static X22 hx (y := yn_10) hown (mvT hZ (wd_45 hw)) (mvT hZ (wd_46 hw)) (mvT hZ (wd_40 hw)) (mvT hZ (wd_47 hw)) (by decide) (backOf (W := 1) (rm_m10_28 l Z aZ hw [] t_22 kb_22 (jj1.toInt8.toInt32) (jj2.toInt8.toInt32) T22.heap n0 (Nat.le_trans Z0 K22.1) g22_1) hZ (wd_47 hw) (wd_40 hw) (by decide) (by decide)) (by rw [hml]; rfl) [(.ref t_22), (.int (2 : Int32))] (lenOf pd_10 rfl) rfl (Nat.le_of_eq rfl) (d5_45 hby) (fun _ _ => ⟨rfl, rfl, (by decide : 2 + 0 ≤ _), (by decide : 6 + 0 ≤ _)⟩) (pc' := 48) rfl ?_
   rintro _ _ ⟨T27, L27, k27, n27⟩ X27 ⟨Lc27, hQ27, l27, y27, z27⟩
   dsimp only [Pt.U, Pt.locs, Pt.cells, Pt.slots] at X27 l27 y27 z27 hQ27 ⊢
   rw [l27, y27, z27] at X27
   obtain ⟨rfl, N27q, e27⟩ := hQ27
   have N28 := Fr.app N23 N27q
   show Runs _ _ _ _ (T27.setTop (mkF m 48 #[.val (.ref a0), .val (.ref a1), .val (.int (0 : Int32)), .val (.int (2 : Int32)), .val .null, .val (.ref t_22)] [(.int (0 : Int32)), (.ref a0)]))
   have f29 : Exa Z T22.heap a0 kc0 := (E_a0.keep K22)
   have f30 : Fld Z T22.heap a0 kc0 "coder" "B" (.int (0 : Int32)) := (zz9.keep K22 nin0)
   refine w_putF X27 hx "" hZ hown (Or.inl (wd_32 hw)) Via.refl e27 f30 f29 (Or.inr ⟨(wd_28 hw), rfl, hnm⟩) (wd_13 hw) (ty := .byte) (by decide) rfl rfl (d5_48 hby) (pc' := 51) rfl ?_
   intro T31 h31 X31 e31 W31
   have f32 : Fld Z h31 a0 kc0 "coder" "B" (.int (0 : Int32)) := f30.same W31
   have K33 : Keep h0 h31 [a0] := K24.wr W31 (Or.inl (by simp))
   have N34 := Fr.snoc X31 N28 zz10
   refine w_aloadN X31 hx (d5_51 hby) rfl rfl (pc' := 52) rfl ?_
   refine w_aload X31 hx (d5_52 hby) rfl rfl (pc' := 54) rfl ?_
   have f35 : Exa Z h31 a0 kc0 := (f29.wr W31)
   have f36 : Fld Z h31 a0 kc0 "value" "[B" .null := ((zz11.keep K22 nin0).other W31 (Or.inr (slot_ne (Or.inr (wd_27 hw)) (Or.inr (wd_28 hw)) (by decide) (t := (.array .byte)) (t' := .byte) (by decide) (by decide))))
   refine w_putF X31 hx "" hZ hown (Or.inl (wd_31 hw)) Via.refl e31 f36 f35 (Or.inr ⟨(wd_27 hw), rfl, hnm⟩) (wd_13 hw) (ty := (.array .byte)) (by decide) rfl rfl (d5_54 hby) (pc' := 57) rfl ?_
   intro T37 h37 X37 e37 W37
   have f38 : Fld Z h37 a0 kc0 "value" "[B" (.ref t_22) := f36.same W37
   have K39 : Keep h0 h37 [a0] := K33.wr W37 (Or.inl (by simp))
   have N40 := Fr.snoc X37 N34 zz10
   have f41 : Exa Z h37 a0 kc0 := (f35.wr W37)
   have f42 : Fld Z h37 a0 kc0 "coder" "B" (.int (0 : Int32)) := (f32.other W37 (Or.inr (slot_ne (Or.inr (wd_28 hw)) (Or.inr (wd_27 hw)) (by decide) (t := .byte) (t' := (.array .byte)) (by decide) (by decide))))
   have ne43 : a0 ≠ t_22 := (Nat.ne_of_lt (Nat.lt_of_lt_of_le E_a0.lt (Nat.le_trans (Nat.le_refl _) g22_0)))
   have f44 : Arv Z h37 t_22 kb_22 .byte (2 : Int32) [(.int (jj1.toInt8.toInt32)), (.int (jj2.toInt8.toInt32))] (.int (0 : Int32)) := ((g22_1.other W31 (Ne.symm ne43)).other W37 (Ne.symm ne43))
   exact w_done X37 hlk (v := none) e37 (fun _ => rfl) (fun fs hr => X37.returnOut hx hret (d5_57 hby) hr) (by decide) (by decide) (Or.inl ⟨t_22, kb_22, rfl, N40, K39, f41, f42, f38, sz26, f44, g22_2, g22_3⟩)
 · have N45 := Fr.app N0 N22q
   have K46 : Keep h0 T22.heap [a0] := (Keep.refl h0 [a0]).trans K22 (all0 (P := fun x => x ∈ [a0] ∨ h0.size ≤ x))
   have ge47 : n0 ≤ t_22 := Nat.le_trans Z0 g22_0
   have sz48 : h0.size ≤ t_22 := Nat.le_trans (Nat.le_refl _) g22_0
   show Runs _ _ _ _ (T22.setTop (mkF m 39 #[.val (.ref a0), .val (.ref a1), .val (.int (0 : Int32)), .val (.int (2 : Int32)), .val .null, .unset] [(.ref t_22)]))
   refine w_astore X22 hx (d5_39 hby) rfl (L' := #[.val (.ref a0), .val (.ref a1), .val (.int (0 : Int32)), .val (.int (2 : Int32)), .val .null, .val (.ref t_22)]) rfl (pc' := 41) rfl ?_
   refine w_aloadN X22 hx (d5_41 hby) rfl rfl (pc' := 42) rfl ?_
   refine w_aload X22 hx (d5_42 hby) rfl rfl (pc' := 44) rfl ?_
   refine w_iloadN X22 hx (d5_44 hby) rfl (pc' := 45) rfl ?_
   refine w_static X22 hx (y := yn_10) hown (mvT hZ (wd_45 hw)) (mvT hZ (wd_46 hw)) (mvT hZ (wd_40 hw)) (mvT hZ (wd_47 hw)) (by decide) (backOf (W := 1) (rm_m10_29 l Z aZ hw [] t_22 kb_22 ((jj1 >>> ((0 : Int32) &&& 31)).toInt8.toInt32) ((jj1 >>> ((8 : Int32) &&& 31)).toInt8.toInt32) ((jj2 >>> ((0 : Int32) &&& 31)).toInt8.toInt32) ((jj2 >>> ((8 : Int32) &&& 31)).toInt8.toInt32) T22.heap n0 (Nat.le_trans Z0 K22.1) g22_1) hZ (wd_47 hw) (wd_40 hw) (by decide) (by decide)) (by rw [hml]; rfl) [(.ref t_22), (.int (2 : Int32))] (lenOf pd_10 rfl) rfl (Nat.le_of_eq rfl) (d5_45 hby) (fun _ _ => ⟨rfl, rfl, (by decide : 2 + 0 ≤ _), (by decide : 6 + 0 ≤ _)⟩) (pc' := 48) rfl ?_
   rintro _ _ ⟨T49, L49, k49, n49⟩ X49 ⟨Lc49, hQ49, l49, y49, z49⟩
   dsimp only [Pt.U, Pt.locs, Pt.cells, Pt.slots] at X49 l49 y49 z49 hQ49 ⊢
   rw [l49, y49, z49] at X49
   obtain ⟨rfl, N49q, e49⟩ := hQ49
   have N50 := Fr.app N45 N49q
   show Runs _ _ _ _ (T49.setTop (mkF m 48 #[.val (.ref a0), .val (.ref a1), .val (.int (0 : Int32)), .val (.int (2 : Int32)), .val .null, .val (.ref t_22)] [(.int (1 : Int32)), (.ref a0)]))
   have f51 : Exa Z T22.heap a0 kc0 := (E_a0.keep K22)
   have f52 : Fld Z T22.heap a0 kc0 "coder" "B" (.int (0 : Int32)) := (zz9.keep K22 nin0)
   refine w_putF X49 hx "" hZ hown (Or.inl (wd_32 hw)) Via.refl e49 f52 f51 (Or.inr ⟨(wd_28 hw), rfl, hnm⟩) (wd_13 hw) (ty := .byte) (by decide) rfl rfl (d5_48 hby) (pc' := 51) rfl ?_
   intro T53 h53 X53 e53 W53
   have f54 : Fld Z h53 a0 kc0 "coder" "B" (.int (1 : Int32)) := f52.same W53
   have K55 : Keep h0 h53 [a0] := K46.wr W53 (Or.inl (by simp))
   have N56 := Fr.snoc X53 N50 zz10
   refine w_aloadN X53 hx (d5_51 hby) rfl rfl (pc' := 52) rfl ?_
   refine w_aload X53 hx (d5_52 hby) rfl rfl (pc' := 54) rfl ?_
   have f57 : Exa Z h53 a0 kc0 := (f51.wr W53)
   have f58 : Fld Z h53 a0 kc0 "value" "[B" .null := ((zz11.keep K22 nin0).other W53 (Or.inr (slot_ne (Or.inr (wd_27 hw)) (Or.inr (wd_28 hw)) (by decide) (t := (.array .byte)) (t' := .byte) (by decide) (by decide))))
   refine w_putF X53 hx "" hZ hown (Or.inl (wd_31 hw)) Via.refl e53 f58 f57 (Or.inr ⟨(wd_27 hw), rfl, hnm⟩) (wd_13 hw) (ty := (.array .byte)) (by decide) rfl rfl (d5_54 hby) (pc' := 57) rfl ?_
   intro T59 h59 X59 e59 W59
   have f60 : Fld Z h59 a0 kc0 "value" "[B" (.ref t_22) := f58.same W59
   have K61 : Keep h0 h59 [a0] := K55.wr W59 (Or.inl (by simp))
   have N62 := Fr.snoc X59 N56 zz10
   have f64 : Exa Z h59 a0 kc0 := (f57.wr W59)
   have f65 : Fld Z h59 a0 kc0 "coder" "B" (.int (1 : Int32)) := (f54.other W59 (Or.inr (slot_ne (Or.inr (wd_28 hw)) (Or.inr (wd_27 hw)) (by decide) (t := .byte) (t' := (.array .byte)) (by decide) (by decide))))
   have ne66 : a0 ≠ t_22 := (Nat.ne_of_lt (Nat.lt_of_lt_of_le E_a0.lt (Nat.le_trans (Nat.le_refl _) g22_0)))
   have f67 : Arv Z h59 t_22 kb_22 .byte (4 : Int32) [(.int ((jj1 >>> ((0 : Int32) &&& 31)).toInt8.toInt32)), (.int ((jj1 >>> ((8 : Int32) &&& 31)).toInt8.toInt32)), (.int ((jj2 >>> ((0 : Int32) &&& 31)).toInt8.toInt32)), (.int ((jj2 >>> ((8 : Int32) &&& 31)).toInt8.toInt32))] (.int (0 : Int32)) := ((g22_1.other W53 (Ne.symm ne66)).other W59 (Ne.symm ne66))
   exact w_done X59 hlk (v := none) e59 (fun _ => rfl) (fun fs hr => X59.returnOut hx hret (d5_57 hby) hr) (by decide) (by decide) (Or.inr (⟨t_22, kb_22, rfl, N62, K61, f64, f65, f60, sz48, f67, g22_2⟩))
theorem ef_m4_18 (m : MethodId) (a0 : Addr) (a1 : Addr)  : entryFrame m #[(.ref a0), (.ref a1)] 2 = mkF m 0 #[.val (.ref a0), .val (.ref a1)] [] := by first | (simp [entryFrame, mkF, argsToLocals, Value.category]; done) | rfl
def Q_m4_18 (Z : State) (a0 : Addr) (a1 : Addr) (k_a1 : ClassId) (jj0 : Int32) (jj1 : Int32) (jj2 : Int32) (h0 : Heap) (n0 : Nat) (v : Option Value) (h : Heap) (L : List Loc) : Prop := (∃ (t : Addr) (kb : ClassId), v = none ∧ Fr n0 L ∧ Keep h0 h [a0] ∧ Exa Z h a0 kc0 ∧ Fld Z h a0 kc0 "coder" "B" (.int (0 : Int32)) ∧ Fld Z h a0 kc0 "value" "[B" (.ref t) ∧ h0.size ≤ t ∧ Arv Z h t kb .byte (2 : Int32) [(.int (jj0.toInt8.toInt32)), (.int (jj1.toInt8.toInt32))] (.int (0 : Int32)) ∧ ¬ ((255 : Int32) < jj0) ∧ ¬ ((255 : Int32) < jj1)) ∨ (∃ (t : Addr) (kb : ClassId), v = none ∧ Fr n0 L ∧ Keep h0 h [a0] ∧ Exa Z h a0 kc0 ∧ Fld Z h a0 kc0 "coder" "B" (.int (1 : Int32)) ∧ Fld Z h a0 kc0 "value" "[B" (.ref t) ∧ h0.size ≤ t ∧ Arv Z h t kb .byte (4 : Int32) [(.int ((jj0 >>> ((0 : Int32) &&& 31)).toInt8.toInt32)), (.int ((jj0 >>> ((8 : Int32) &&& 31)).toInt8.toInt32)), (.int ((jj1 >>> ((0 : Int32) &&& 31)).toInt8.toInt32)), (.int ((jj1 >>> ((8 : Int32) &&& 31)).toInt8.toInt32))] (.int (0 : Int32)) ∧ ((255 : Int32) < jj0 ∨ (255 : Int32) < jj1))
theorem rm_m4_18 (l : Launch) (Z : State) (aZ : Array Value) (hw : ∀ d ∈ tables_1, d.before aZ Z = true) (ws : List Jvm.Cond) (a0 : Addr) (a1 : Addr) (k_a1 : ClassId) (jj0 : Int32) (jj1 : Int32) (jj2 : Int32) (h0 : Heap) (n0 : Nat) (Z0 : n0 ≤ h0.size) (V_a1 : Arv Z h0 a1 k_a1 .char (2 : Int32) [(.int jj0), (.int jj1)] (.int (0 : Int32))) (hP_1 : ¬ (jj2 = (0 : Int32))) (zz3 : nar .char jj0 = jj0) (zz4 : nar .char jj1 = jj1) (E_a0 : Exa Z h0 a0 kc0) (zz5 : Fld Z h0 a0 kc0 "coder" "B" (.int (0 : Int32))) (zz6 : Fld Z h0 a0 kc0 "value" "[B" .null) (zz7 : Sta Z Z.heap kc0 "COMPACT_STRINGS" "Z" (.int jj2)) (O0 : Old Z n0 h0) (zz8 : Sta Z Z.heap kc1 "$assertionsDisabled" "Z" (.int (1 : Int32))) (zz9 : Sta Z Z.heap kc1 "HI_BYTE_SHIFT" "I" (.int (0 : Int32))) (zz10 : Sta Z Z.heap kc1 "LO_BYTE_SHIFT" "I" (.int (8 : Int32))) (zz11 : n0 ≤ a0) :
    MetN l Z yn_4 jdk_42_method_3_code 2 none ws ({ frames := 5, cells := 2, slots := 6, locals := 74 } : Room) #[(.ref a0), (.ref a1)] h0 (Q_m4_18 Z a0 a1 k_a1 jj0 jj1 jj2 h0 n0) := by
 refine MetN.of (plainFor_of_name pn_2) ?_
 intro p e s m below meth c s₁ hret hx hby hml hown hnm hlk hZ X0 e0
 have N0 := Fr.nil n0
 rw [ef_m4_18 m a0 a1]
 refine w_aloadN X0 hx (d4_0 hby) rfl rfl (pc' := 1) rfl ?_
 refine w_aloadN X0 hx (d4_1 hby) rfl rfl (pc' := 2) rfl ?_
 refine w_iconst X0 hx (d4_2 hby) (v := (0 : Int32)) rfl (pc' := 3) rfl ?_
 refine w_aloadN X0 hx (d4_3 hby) rfl rfl (pc' := 4) rfl ?_
 refine w_alen X0 hx hZ e0 V_a1 (d4_4 hby) (pc' := 5) rfl ?_
 refine w_null X0 hx (d4_5 hby) (pc' := 6) rfl ?_
 refine w_special X0 hx (y := yn_5) rfl hown (mvT hZ (wd_18 hw)) (mvT hZ (wd_19 hw)) (mvT hZ (wd_21 hw)) (by decide) (backOf (W := 0) (rm_m5_19 l Z aZ hw [] a0 a1 jj2 k_a1 jj0 jj1 h0 n0 Z0 zz7 O0 hP_1 V_a1 zz3 zz4 zz8 zz9 zz10 E_a0 zz5 zz11 zz6) hZ (wd_21 hw) (wd_14 hw) (by decide) (by decide)) (by rw [hml]; rfl) [(.ref a1), (.int (0 : Int32)), (.int (2 : Int32)), .null] (lenOf pd_2 rfl) rfl (Nat.le_of_eq rfl) (d4_6 hby) (fun _ _ => ⟨rfl, e0, (by decide : 0 + 2 ≤ _), (by decide : 0 + 6 ≤ _)⟩) (pc' := 9) rfl ?_
 rintro _ _ ⟨T20, L20, k20, n20⟩ X20 ⟨Lc20, hQ20, l20, y20, z20⟩
 dsimp only [Pt.U, Pt.locs, Pt.cells, Pt.slots] at X20 l20 y20 z20 hQ20 ⊢
 rw [l20, y20, z20] at X20
 rcases hQ20 with ⟨t_20, kb_20, rfl, N20q, K20, g20_0, g20_1, g20_2, g20_3, g20_4, g20_5, g20_6⟩ | ⟨t_20, kb_20, rfl, N20q, K20, g20_0, g20_1, g20_2, g20_3, g20_4, g20_5⟩
 · have N21 := Fr.app N0 N20q
   have K22 : Keep h0 T20.heap [a0] := (Keep.refl h0 [a0]).trans K20 (allS (Or.inl (by simp)) (all0 (P := fun x => x ∈ [a0] ∨ h0.size ≤ x)))
   have ge23 : n0 ≤ t_20 := Nat.le_trans Z0 g20_3
   have sz24 : h0.size ≤ t_20 := Nat.le_trans (Nat.le_refl _) g20_3
   show Runs _ _ _ _ (T20.setTop (mkF m 9 #[.val (.ref a0), .val (.ref a1)] []))
   exact w_done X20 hlk (v := none) rfl (fun _ => rfl) (fun fs hr => X20.returnOut hx hret (d4_9 hby) hr) (by decide) (by decide) (Or.inl ⟨t_20, kb_20, rfl, N21, K22, g20_0, g20_1, g20_2, sz24, g20_4, g20_5, g20_6⟩)
 · have N25 := Fr.app N0 N20q
   have K26 : Keep h0 T20.heap [a0] := (Keep.refl h0 [a0]).trans K20 (allS (Or.inl (by simp)) (all0 (P := fun x => x ∈ [a0] ∨ h0.size ≤ x)))
   have ge27 : n0 ≤ t_20 := Nat.le_trans Z0 g20_3
   have sz28 : h0.size ≤ t_20 := Nat.le_trans (Nat.le_refl _) g20_3
   show Runs _ _ _ _ (T20.setTop (mkF m 9 #[.val (.ref a0), .val (.ref a1)] []))
   exact w_done X20 hlk (v := none) rfl (fun _ => rfl) (fun fs hr => X20.returnOut hx hret (d4_9 hby) hr) (by decide) (by decide) (Or.inr (⟨t_20, kb_20, rfl, N25, K26, g20_0, g20_1, g20_2, sz28, g20_4, g20_5⟩))
theorem ef_m9_33 (m : MethodId) (a0 : Addr) (a2 : Addr)  : entryFrame m #[(.ref a0), (.int (0 : Int32)), (.ref a2), (.int (0 : Int32)), (.int (3 : Int32))] 7 = mkF m 0 #[.val (.ref a0), .val (.int (0 : Int32)), .val (.ref a2), .val (.int (0 : Int32)), .val (.int (3 : Int32)), .unset, .unset] [] := by first | (simp [entryFrame, mkF, argsToLocals, Value.category]; done) | rfl
def Q_m9_33 (Z : State) (a0 : Addr) (a2 : Addr) (k_a0 : ClassId) (jj0 : Int32) (jj1 : Int32) (jj2 : Int32) (k_a2 : ClassId) (h0 : Heap) (n0 : Nat) (v : Option Value) (h : Heap) (L : List Loc) : Prop := (v = some (.int (3 : Int32)) ∧ Fr n0 L ∧ Keep h0 h [a2] ∧ Arv Z h a2 k_a2 .byte (3 : Int32) [(.int (jj0.toInt8.toInt32)), (.int (jj1.toInt8.toInt32)), (.int (jj2.toInt8.toInt32))] (.int (0 : Int32)) ∧ ¬ ((255 : Int32) < jj0) ∧ ¬ ((255 : Int32) < jj1) ∧ ¬ ((255 : Int32) < jj2)) ∨ (∃ (j : Int32), v = some (.int j) ∧ Fr n0 L ∧ Keep h0 h [a2] ∧ ¬ (j < (0 : Int32)) ∧ j < (3 : Int32) ∧ (255 : Int32) < (gI [jj0, jj1, jj2, (0 : Int32)] j))
theorem rm_m9_33 (l : Launch) (Z : State) (aZ : Array Value) (hw : ∀ d ∈ tables_1, d.before aZ Z = true) (ws : List Jvm.Cond) (a0 : Addr) (a2 : Addr) (k_a0 : ClassId) (jj0 : Int32) (jj1 : Int32) (jj2 : Int32) (k_a2 : ClassId) (h0 : Heap) (n0 : Nat) (Z0 : n0 ≤ h0.size) (V_a0 : Arv Z h0 a0 k_a0 .char (3 : Int32) [(.int jj0), (.int jj1), (.int jj2)] (.int (0 : Int32))) (V_a2 : Arv Z h0 a2 k_a2 .byte (3 : Int32) [(.int (0 : Int32)), (.int (0 : Int32)), (.int (0 : Int32))] (.int (0 : Int32))) (zz3 : n0 ≤ a2) (zz4 : a0 ≠ a2) :
    MetN l Z yn_9 jdk_52_method_21_code 7 (some .int) ws ({ frames := 0, cells := 0, slots := 0, locals := 0 } : Room) #[(.ref a0), (.int (0 : Int32)), (.ref a2), (.int (0 : Int32)), (.int (3 : Int32))] h0 (Q_m9_33 Z a0 a2 k_a0 jj0 jj1 jj2 k_a2 h0 n0) := by
 refine MetN.of (plainFor_of_name pn_3) ?_
 intro p e s m below meth c s₁ hret hx hby hml hown hnm hlk hZ X0 e0
 have N0 := Fr.nil n0
 rw [ef_m9_33 m a0 a2]
 refine w_iconst X0 hx (d9_0 hby) (v := (0 : Int32)) rfl (pc' := 1) rfl ?_
 refine w_istore X0 hx (d9_1 hby) (L' := #[.val (.ref a0), .val (.int (0 : Int32)), .val (.ref a2), .val (.int (0 : Int32)), .val (.int (3 : Int32)), .val (.int (0 : Int32)), .unset]) rfl (pc' := 3) rfl ?_
 refine w_iload X0 hx (d9_3 hby) rfl (pc' := 5) rfl ?_
 refine w_iload X0 hx (d9_5 hby) rfl (pc' := 7) rfl ?_
 refine w_icN X0 hx (d9_7 hby) (tlt (by decide : (0 : Int32) < (3 : Int32))).2.1 (pc' := 10) rfl ?_
 refine w_aloadN X0 hx (d9_10 hby) rfl rfl (pc' := 11) rfl ?_
 refine w_iloadN X0 hx (d9_11 hby) rfl (pc' := 12) rfl ?_
 obtain ⟨clu20, Aru20, qu20, Su20, Nu20, Hu20, Gu20⟩ := id V_a0
 have hinu20 := inb_of (j := (0 : Int32)) Su20 ⟨by decide, by decide⟩
 refine w_caload X0 hx hZ e0 Aru20 hinu20 (Hu20.at hinu20 rfl) (d9_12 hby) (pc' := 13) rfl ?_
 refine w_istore X0 hx (d9_13 hby) (L' := #[.val (.ref a0), .val (.int (0 : Int32)), .val (.ref a2), .val (.int (0 : Int32)), .val (.int (3 : Int32)), .val (.int (0 : Int32)), .val (.int jj0)]) rfl (pc' := 15) rfl ?_
 refine w_iload X0 hx (d9_15 hby) rfl (pc' := 17) rfl ?_
 refine w_sipush X0 hx (d9_17 hby) (v := (255 : Int32)) rfl (pc' := 20) rfl ?_
 by_cases hc21 : (255 : Int32) < jj0
 · refine w_icN X0 hx (d9_20 hby) (tlt hc21).2.2.2 (pc' := 23) rfl ?_
   refine w_iload X0 hx (d9_23 hby) rfl (pc' := 25) rfl ?_
   exact w_done X0 hlk (v := some (.int (0 : Int32))) e0 (fun h => by rw [hret] at h; cases h) (fun fs hr => retI X0 hx hret (d9_25 hby) hr) (by decide) (by decide) (Or.inr (⟨(0 : Int32), rfl, N0, (Keep.refl h0 [a2]), (by decide : ¬ ((0 : Int32) < (0 : Int32))), (by decide : (0 : Int32) < (3 : Int32)), (show (255 : Int32) < (gI [jj0, jj1, jj2, (0 : Int32)] (0 : Int32)) from hc21)⟩))
 · refine w_icY X0 hx (d9_20 hby) (flt hc21).2.2.2 (pc' := 26) (by decide) (by decide) ?_
   refine w_aloadN X0 hx (d9_26 hby) rfl rfl (pc' := 27) rfl ?_
   refine w_iloadN X0 hx (d9_27 hby) rfl (pc' := 28) rfl ?_
   refine w_iload X0 hx (d9_28 hby) rfl (pc' := 30) rfl ?_
   refine w_i2b X0 hx (d9_30 hby) (pc' := 31) rfl ?_
   obtain ⟨clu22, Aru22, qu22, Su22, Nu22, Hu22, Gu22⟩ := id V_a2
   have hinu22 := inb_of (j := (0 : Int32)) Su22 ⟨by decide, by decide⟩
   refine w_stB X0 hx hZ e0 Aru22 hinu22 (d9_31 hby) (pc' := 32) rfl ?_
   intro T23 h23 X23 e23 W23
   have V24 : Arv Z h23 a2 k_a2 .byte (3 : Int32) [(.int (nar .byte (jj0.toInt8.toInt32))), (.int (0 : Int32)), (.int (0 : Int32))] (.int (0 : Int32)) := Arv.set Aru22 qu22 Su22 Nu22 Hu22 Gu22 (fits_nar_byte _) W23 0 rfl (Nat.le_of_ble_eq_true rfl)
   have V25 : Arv Z h23 a2 k_a2 .byte (3 : Int32) [(.int (jj0.toInt8.toInt32)), (.int (0 : Int32)), (.int (0 : Int32))] (.int (0 : Int32)) := by rw [nar_b] at V24; exact V24
   have K26 : Keep h0 h23 [a2] := (Keep.refl h0 [a2]).wr W23 (Or.inl (by simp))
   have N27 := Fr.snoc X23 N0 zz3
   refine w_iinc X23 hx (d9_32 hby) (v := (1 : Int32)) rfl rfl (L' := #[.val (.ref a0), .val (.int ((0 : Int32) + (1 : Int32))), .val (.ref a2), .val (.int (0 : Int32)), .val (.int (3 : Int32)), .val (.int (0 : Int32)), .val (.int jj0)]) rfl (pc' := 35) rfl ?_
   rw [show ((0 : Int32) + (1 : Int32)) = (1 : Int32) from by decide]
   refine w_iinc X23 hx (d9_35 hby) (v := (1 : Int32)) rfl rfl (L' := #[.val (.ref a0), .val (.int (1 : Int32)), .val (.ref a2), .val (.int ((0 : Int32) + (1 : Int32))), .val (.int (3 : Int32)), .val (.int (0 : Int32)), .val (.int jj0)]) rfl (pc' := 38) rfl ?_
   rw [show ((0 : Int32) + (1 : Int32)) = (1 : Int32) from by decide]
   refine w_iinc X23 hx (d9_38 hby) (v := (1 : Int32)) rfl rfl (L' := #[.val (.ref a0), .val (.int (1 : Int32)), .val (.ref a2), .val (.int (1 : Int32)), .val (.int (3 : Int32)), .val (.int ((0 : Int32) + (1 : Int32))), .val (.int jj0)]) rfl (pc' := 41) rfl ?_
   rw [show ((0 : Int32) + (1 : Int32)) = (1 : Int32) from by decide]
   refine w_goto X23 hx (d9_41 hby) (pc' := 3) (by decide) (by decide) ?_
   refine w_iload X23 hx (d9_3 hby) rfl (pc' := 5) rfl ?_
   refine w_iload X23 hx (d9_5 hby) rfl (pc' := 7) rfl ?_
   refine w_icN X23 hx (d9_7 hby) (tlt (by decide : (1 : Int32) < (3 : Int32))).2.1 (pc' := 10) rfl ?_
   refine w_aloadN X23 hx (d9_10 hby) rfl rfl (pc' := 11) rfl ?_
   refine w_iloadN X23 hx (d9_11 hby) rfl (pc' := 12) rfl ?_
   have f28 : Arv Z h23 a0 k_a0 .char (3 : Int32) [(.int jj0), (.int jj1), (.int jj2)] (.int (0 : Int32)) := (V_a0.other W23 zz4)
   obtain ⟨clu29, Aru29, qu29, Su29, Nu29, Hu29, Gu29⟩ := id f28
   have hinu29 := inb_of (j := (1 : Int32)) Su29 ⟨by decide, by decide⟩
   refine w_caload X23 hx hZ e23 Aru29 hinu29 (Hu29.at hinu29 rfl) (d9_12 hby) (pc' := 13) rfl ?_
   refine w_istore X23 hx (d9_13 hby) (L' := #[.val (.ref a0), .val (.int (1 : Int32)), .val (.ref a2), .val (.int (1 : Int32)), .val (.int (3 : Int32)), .val (.int (1 : Int32)), .val (.int jj1)]) rfl (pc' := 15) rfl ?_
   refine w_iload X23 hx (d9_15 hby) rfl (pc' := 17) rfl ?_
   refine w_sipush X23 hx (d9_17 hby) (v := (255 : Int32)) rfl (pc' := 20) rfl ?_
   by_cases hc30 : (255 : Int32) < jj1
   · refine w_icN X23 hx (d9_20 hby) (tlt hc30).2.2.2 (pc' := 23) rfl ?_
     refine w_iload X23 hx (d9_23 hby) rfl (pc' := 25) rfl ?_
     exact w_done X23 hlk (v := some (.int (1 : Int32))) e23 (fun h => by rw [hret] at h; cases h) (fun fs hr => retI X23 hx hret (d9_25 hby) hr) (by decide) (by decide) (Or.inr (⟨(1 : Int32), rfl, N27, K26, (by decide : ¬ ((1 : Int32) < (0 : Int32))), (by decide : (1 : Int32) < (3 : Int32)), (show (255 : Int32) < (gI [jj0, jj1, jj2, (0 : Int32)] (1 : Int32)) from hc30)⟩))
   · refine w_icY X23 hx (d9_20 hby) (flt hc30).2.2.2 (pc' := 26) (by decide) (by decide) ?_
     refine w_aloadN X23 hx (d9_26 hby) rfl rfl (pc' := 27) rfl ?_
     refine w_iloadN X23 hx (d9_27 hby) rfl (pc' := 28) rfl ?_
     refine w_iload X23 hx (d9_28 hby) rfl (pc' := 30) rfl ?_
     refine w_i2b X23 hx (d9_30 hby) (pc' := 31) rfl ?_
     obtain ⟨clu31, Aru31, qu31, Su31, Nu31, Hu31, Gu31⟩ := id V25
     have hinu31 := inb_of (j := (1 : Int32)) Su31 ⟨by decide, by decide⟩
     refine w_stB X23 hx hZ e23 Aru31 hinu31 (d9_31 hby) (pc' := 32) rfl ?_
     intro T32 h32 X32 e32 W32
     have V33 : Arv Z h32 a2 k_a2 .byte (3 : Int32) [(.int (jj0.toInt8.toInt32)), (.int (nar .byte (jj1.toInt8.toInt32))), (.int (0 : Int32))] (.int (0 : Int32)) := Arv.set Aru31 qu31 Su31 Nu31 Hu31 Gu31 (fits_nar_byte _) W32 1 rfl (Nat.le_of_ble_eq_true rfl)
     have V34 : Arv Z h32 a2 k_a2 .byte (3 : Int32) [(.int (jj0.toInt8.toInt32)), (.int (jj1.toInt8.toInt32)), (.int (0 : Int32))] (.int (0 : Int32)) := by rw [nar_b] at V33; exact V33
     have K35 : Keep h0 h32 [a2] := K26.wr W32 (Or.inl (by simp))
     have N36 := Fr.snoc X32 N27 zz3
     refine w_iinc X32 hx (d9_32 hby) (v := (1 : Int32)) rfl rfl (L' := #[.val (.ref a0), .val (.int ((1 : Int32) + (1 : Int32))), .val (.ref a2), .val (.int (1 : Int32)), .val (.int (3 : Int32)), .val (.int (1 : Int32)), .val (.int jj1)]) rfl (pc' := 35) rfl ?_
     rw [show ((1 : Int32) + (1 : Int32)) = (2 : Int32) from by decide]
     refine w_iinc X32 hx (d9_35 hby) (v := (1 : Int32)) rfl rfl (L' := #[.val (.ref a0), .val (.int (2 : Int32)), .val (.ref a2), .val (.int ((1 : Int32) + (1 : Int32))), .val (.int (3 : Int32)), .val (.int (1 : Int32)), .val (.int jj1)]) rfl (pc' := 38) rfl ?_
     rw [show ((1 : Int32) + (1 : Int32)) = (2 : Int32) from by decide]
     refine w_iinc X32 hx (d9_38 hby) (v := (1 : Int32)) rfl rfl (L' := #[.val (.ref a0), .val (.int (2 : Int32)), .val (.ref a2), .val (.int (2 : Int32)), .val (.int (3 : Int32)), .val (.int ((1 : Int32) + (1 : Int32))), .val (.int jj1)]) rfl (pc' := 41) rfl ?_
     rw [show ((1 : Int32) + (1 : Int32)) = (2 : Int32) from by decide]
     refine w_goto X32 hx (d9_41 hby) (pc' := 3) (by decide) (by decide) ?_
     refine w_iload X32 hx (d9_3 hby) rfl (pc' := 5) rfl ?_
     refine w_iload X32 hx (d9_5 hby) rfl (pc' := 7) rfl ?_
     refine w_icN X32 hx (d9_7 hby) (tlt (by decide : (2 : Int32) < (3 : Int32))).2.1 (pc' := 10) rfl ?_
     refine w_aloadN X32 hx (d9_10 hby) rfl rfl (pc' := 11) rfl ?_
     refine w_iloadN X32 hx (d9_11 hby) rfl (pc' := 12) rfl ?_
     have f37 : Arv Z h32 a0 k_a0 .char (3 : Int32) [(.int jj0), (.int jj1), (.int jj2)] (.int (0 : Int32)) := (f28.other W32 zz4)
     obtain ⟨clu38, Aru38, qu38, Su38, Nu38, Hu38, Gu38⟩ := id f37
     have hinu38 := inb_of (j := (2 : Int32)) Su38 ⟨by decide, by decide⟩
     refine w_caload X32 hx hZ e32 Aru38 hinu38 (Hu38.at hinu38 rfl) (d9_12 hby) (pc' := 13) rfl ?_
     refine w_istore X32 hx (d9_13 hby) (L' := #[.val (.ref a0), .val (.int (2 : Int32)), .val (.ref a2), .val (.int (2 : Int32)), .val (.int (3 : Int32)), .val (.int (2 : Int32)), .val (.int jj2)]) rfl (pc' := 15) rfl ?_
     refine w_iload X32 hx (d9_15 hby) rfl (pc' := 17) rfl ?_
     refine w_sipush X32 hx (d9_17 hby) (v := (255 : Int32)) rfl (pc' := 20) rfl ?_
     by_cases hc39 : (255 : Int32) < jj2
     · refine w_icN X32 hx (d9_20 hby) (tlt hc39).2.2.2 (pc' := 23) rfl ?_
       refine w_iload X32 hx (d9_23 hby) rfl (pc' := 25) rfl ?_
       exact w_done X32 hlk (v := some (.int (2 : Int32))) e32 (fun h => by rw [hret] at h; cases h) (fun fs hr => retI X32 hx hret (d9_25 hby) hr) (by decide) (by decide) (Or.inr (⟨(2 : Int32), rfl, N36, K35, (by decide : ¬ ((2 : Int32) < (0 : Int32))), (by decide : (2 : Int32) < (3 : Int32)), (show (255 : Int32) < (gI [jj0, jj1, jj2, (0 : Int32)] (2 : Int32)) from hc39)⟩))
     · refine w_icY X32 hx (d9_20 hby) (flt hc39).2.2.2 (pc' := 26) (by decide) (by decide) ?_
       refine w_aloadN X32 hx (d9_26 hby) rfl rfl (pc' := 27) rfl ?_
       refine w_iloadN X32 hx (d9_27 hby) rfl (pc' := 28) rfl ?_
       refine w_iload X32 hx (d9_28 hby) rfl (pc' := 30) rfl ?_
       refine w_i2b X32 hx (d9_30 hby) (pc' := 31) rfl ?_
       obtain ⟨clu40, Aru40, qu40, Su40, Nu40, Hu40, Gu40⟩ := id V34
       have hinu40 := inb_of (j := (2 : Int32)) Su40 ⟨by decide, by decide⟩
       refine w_stB X32 hx hZ e32 Aru40 hinu40 (d9_31 hby) (pc' := 32) rfl ?_
       intro T41 h41 X41 e41 W41
       have V42 : Arv Z h41 a2 k_a2 .byte (3 : Int32) [(.int (jj0.toInt8.toInt32)), (.int (jj1.toInt8.toInt32)), (.int (nar .byte (jj2.toInt8.toInt32)))] (.int (0 : Int32)) := Arv.set Aru40 qu40 Su40 Nu40 Hu40 Gu40 (fits_nar_byte _) W41 2 rfl (Nat.le_of_ble_eq_true rfl)
       have V43 : Arv Z h41 a2 k_a2 .byte (3 : Int32) [(.int (jj0.toInt8.toInt32)), (.int (jj1.toInt8.toInt32)), (.int (jj2.toInt8.toInt32))] (.int (0 : Int32)) := by rw [nar_b] at V42; exact V42
       have K44 : Keep h0 h41 [a2] := K35.wr W41 (Or.inl (by simp))
       have N45 := Fr.snoc X41 N36 zz3
       refine w_iinc X41 hx (d9_32 hby) (v := (1 : Int32)) rfl rfl (L' := #[.val (.ref a0), .val (.int ((2 : Int32) + (1 : Int32))), .val (.ref a2), .val (.int (2 : Int32)), .val (.int (3 : Int32)), .val (.int (2 : Int32)), .val (.int jj2)]) rfl (pc' := 35) rfl ?_
       rw [show ((2 : Int32) + (1 : Int32)) = (3 : Int32) from by decide]
       refine w_iinc X41 hx (d9_35 hby) (v := (1 : Int32)) rfl rfl (L' := #[.val (.ref a0), .val (.int (3 : Int32)), .val (.ref a2), .val (.int ((2 : Int32) + (1 : Int32))), .val (.int (3 : Int32)), .val (.int (2 : Int32)), .val (.int jj2)]) rfl (pc' := 38) rfl ?_
       rw [show ((2 : Int32) + (1 : Int32)) = (3 : Int32) from by decide]
       refine w_iinc X41 hx (d9_38 hby) (v := (1 : Int32)) rfl rfl (L' := #[.val (.ref a0), .val (.int (3 : Int32)), .val (.ref a2), .val (.int (3 : Int32)), .val (.int (3 : Int32)), .val (.int ((2 : Int32) + (1 : Int32))), .val (.int jj2)]) rfl (pc' := 41) rfl ?_
       rw [show ((2 : Int32) + (1 : Int32)) = (3 : Int32) from by decide]
       refine w_goto X41 hx (d9_41 hby) (pc' := 3) (by decide) (by decide) ?_
       refine w_iload X41 hx (d9_3 hby) rfl (pc' := 5) rfl ?_
       refine w_iload X41 hx (d9_5 hby) rfl (pc' := 7) rfl ?_
       refine w_icY X41 hx (d9_7 hby) (flt (by decide : ¬ ((3 : Int32) < (3 : Int32)))).2.1 (pc' := 44) (by decide) (by decide) ?_
       refine w_iload X41 hx (d9_44 hby) rfl (pc' := 46) rfl ?_
       exact w_done X41 hlk (v := some (.int (3 : Int32))) e41 (fun h => by rw [hret] at h; cases h) (fun fs hr => retI X41 hx hret (d9_46 hby) hr) (by decide) (by decide) (Or.inl ⟨rfl, N45, K44, V43, hc21, hc30, hc39⟩)
theorem ef_m13_36 (m : MethodId)   : entryFrame m #[(.int (3 : Int32))] 1 = mkF m 0 #[.val (.int (3 : Int32))] [] := by first | (simp [entryFrame, mkF, argsToLocals, Value.category]; done) | rfl
def Q_m13_36 (Z : State)  (h0 : Heap) (n0 : Nat) (v : Option Value) (h : Heap) (L : List Loc) : Prop := v = some (.int (6 : Int32)) ∧ Fr n0 L ∧ h = h0
theorem rm_m13_36 (l : Launch) (Z : State) (aZ : Array Value) (hw : ∀ d ∈ tables_1, d.before aZ Z = true) (ws : List Jvm.Cond)  (h0 : Heap) (n0 : Nat) (Z0 : n0 ≤ h0.size) :
    MetN l Z yn_13 jdk_52_method_3_code 1 (some .int) ws ({ frames := 0, cells := 0, slots := 0, locals := 0 } : Room) #[(.int (3 : Int32))] h0 (Q_m13_36 Z  h0 n0) := by
 refine MetN.of (plainFor_of_name pn_3) ?_
 intro p e s m below meth c s₁ hret hx hby hml hown hnm hlk hZ X0 e0
 have N0 := Fr.nil n0
 rw [ef_m13_36 m ]
 refine w_iloadN X0 hx (d13_0 hby) rfl (pc' := 1) rfl ?_
 refine w_ifY X0 hx (d13_1 hby) (flt (by decide : ¬ ((3 : Int32) < (0 : Int32)))).2.1 (pc' := 12) (by decide) (by decide) ?_
 refine w_iloadN X0 hx (d13_12 hby) rfl (pc' := 13) rfl ?_
 refine w_ldcI X0 hx hZ hown (wd_57 hw) (d13_13 hby) (pc' := 15) rfl ?_
 refine w_icY X0 hx (d13_15 hby) (tlt (by decide : (3 : Int32) < (1073741823 : Int32))).1 (pc' := 55) (by decide) (by decide) ?_
 refine w_iloadN X0 hx (d13_55 hby) rfl (pc' := 56) rfl ?_
 refine w_iconst X0 hx (d13_56 hby) (v := (1 : Int32)) rfl (pc' := 57) rfl ?_
 refine w_ishl X0 hx (d13_57 hby) (pc' := 58) rfl ?_
 rw [show ((3 : Int32) <<< ((1 : Int32) &&& 31)) = (6 : Int32) from by decide]
 exact w_done X0 hlk (v := some (.int (6 : Int32))) e0 (fun h => by rw [hret] at h; cases h) (fun fs hr => retI X0 hx hret (d13_58 hby) hr) (by decide) (by decide) (⟨rfl, N0, rfl⟩)
theorem ef_m12_35 (m : MethodId)   : entryFrame m #[(.int (3 : Int32))] 1 = mkF m 0 #[.val (.int (3 : Int32))] [] := by first | (simp [entryFrame, mkF, argsToLocals, Value.category]; done) | rfl
def Q_m12_35 (Z : State)  (h0 : Heap) (n0 : Nat) (v : Option Value) (h : Heap) (L : List Loc) : Prop := ∃ (r0 : Addr) (c0 : ClassId), v = some (.ref r0) ∧ Fr n0 L ∧ Keep h0 h [] ∧ h0.size ≤ r0 ∧ Arv Z h r0 c0 .byte (6 : Int32) [(.int (0 : Int32)), (.int (0 : Int32)), (.int (0 : Int32)), (.int (0 : Int32)), (.int (0 : Int32)), (.int (0 : Int32))] (.int (0 : Int32))
theorem rm_m12_35 (l : Launch) (Z : State) (aZ : Array Value) (hw : ∀ d ∈ tables_1, d.before aZ Z = true) (ws : List Jvm.Cond)  (h0 : Heap) (n0 : Nat) (Z0 : n0 ≤ h0.size) :
    MetN l Z yn_12 jdk_52_method_2_code 1 (some (.array .byte)) ws ({ frames := 1, cells := 1, slots := 6, locals := 12 } : Room) #[(.int (3 : Int32))] h0 (Q_m12_35 Z  h0 n0) := by
 refine MetN.of (plainFor_of_name pn_3) ?_
 intro p e s m below meth c s₁ hret hx hby hml hown hnm hlk hZ X0 e0
 have N0 := Fr.nil n0
 rw [ef_m12_35 m ]
 refine w_iloadN X0 hx (d12_0 hby) rfl (pc' := 1) rfl ?_
 refine w_static X0 hx (y := yn_13) hown (mvT hZ (wd_54 hw)) (mvT hZ (wd_55 hw)) (mvT hZ (wd_40 hw)) (mvT hZ (wd_56 hw)) (by decide) (backOf (W := 0) (rm_m13_36 l Z aZ hw []  h0 n0 Z0 ) hZ (wd_56 hw) (wd_40 hw) (by decide) (by decide)) (by rw [hml]; rfl) [(.int (3 : Int32))] (lenOf pd_5 rfl) rfl (Nat.le_of_eq rfl) (d12_1 hby) (fun _ _ => ⟨rfl, e0, (by decide : 0 + 0 ≤ _), (by decide : 0 + 0 ≤ _)⟩) (pc' := 4) rfl ?_
 rintro _ _ ⟨T20, L20, k20, n20⟩ X20 ⟨Lc20, hQ20, l20, y20, z20⟩
 dsimp only [Pt.U, Pt.locs, Pt.cells, Pt.slots] at X20 l20 y20 z20 hQ20 ⊢
 rw [l20, y20, z20] at X20
 obtain ⟨rfl, N20q, e20⟩ := hQ20
 have N21 := Fr.app N0 N20q
 show Runs _ _ _ _ (T20.setTop (mkF m 4 #[.val (.int (3 : Int32))] [(.int (6 : Int32))]))
 refine w_newP X20 hx .byte .byte 6 rfl hZ (wd_26 hw) e20 (d12_4 hby) (by decide) (by decide) (by decide) (by decide) (by decide) (pc' := 6) rfl ?_
 intro T22 h22 k22 b22 X22 e22 E22 g22 A22
 have ge23 : n0 ≤ b22 := Nat.le_trans Z0 (Nat.le_of_eq g22.symm)
 have sz24 : h0.size ≤ b22 := Nat.le_trans (Nat.le_refl _) (Nat.le_of_eq g22.symm)
 have K25 : Keep h0 h22 [] := (Keep.refl h0 []).ext E22
 have V26 : Arv Z h22 b22 k22 .byte (6 : Int32) [(.int (0 : Int32)), (.int (0 : Int32)), (.int (0 : Int32)), (.int (0 : Int32)), (.int (0 : Int32)), (.int (0 : Int32))] (.int (0 : Int32)) := (Arv.new A22 (by decide)).pad (pad_rep [] (.int (0 : Int32)) 6)
 exact w_done X22 hlk (v := some (.ref b22)) e22 (fun h => by rw [hret] at h; cases h) (fun fs hr => retOut X22 hx hret rfl (Or.inr (Or.inr (Or.inr (Or.inr ⟨rfl, rfl, rfl⟩)))) (d12_6 hby) hr) (by decide) (by decide) (⟨b22, k22, rfl, N21, K25, sz24, V26⟩)
theorem ef_m14_37 (m : MethodId) (a0 : Addr) (p2 : Int32)  : entryFrame m #[(.ref a0), (.int (0 : Int32)), (.int p2)] 3 = mkF m 0 #[.val (.ref a0), .val (.int (0 : Int32)), .val (.int p2)] [] := by first | (simp [entryFrame, mkF, argsToLocals, Value.category]; done) | rfl
def Q_m14_37 (Z : State) (a0 : Addr) (p2 : Int32) (k_a0 : ClassId) (h0 : Heap) (n0 : Nat) (v : Option Value) (h : Heap) (L : List Loc) : Prop := v = none ∧ Fr n0 L ∧ Keep h0 h [a0] ∧ Arv Z h a0 k_a0 .byte (6 : Int32) [(.int ((p2 >>> ((0 : Int32) &&& 31)).toInt8.toInt32)), (.int ((p2 >>> ((8 : Int32) &&& 31)).toInt8.toInt32)), (.int (0 : Int32)), (.int (0 : Int32)), (.int (0 : Int32)), (.int (0 : Int32))] (.int (0 : Int32))
theorem rm_m14_37 (l : Launch) (Z : State) (aZ : Array Value) (hw : ∀ d ∈ tables_1, d.before aZ Z = true) (ws : List Jvm.Cond) (a0 : Addr) (p2 : Int32) (k_a0 : ClassId) (h0 : Heap) (n0 : Nat) (Z0 : n0 ≤ h0.size) (zz0 : Sta Z Z.heap kc1 "$assertionsDisabled" "Z" (.int (1 : Int32))) (O0 : Old Z n0 h0) (zz1 : Sta Z Z.heap kc1 "HI_BYTE_SHIFT" "I" (.int (0 : Int32))) (V_a0 : Arv Z h0 a0 k_a0 .byte (6 : Int32) [(.int (0 : Int32)), (.int (0 : Int32)), (.int (0 : Int32)), (.int (0 : Int32)), (.int (0 : Int32)), (.int (0 : Int32))] (.int (0 : Int32))) (zz2 : n0 ≤ a0) (zz3 : Sta Z Z.heap kc1 "LO_BYTE_SHIFT" "I" (.int (8 : Int32))) :
    MetN l Z yn_14 jdk_52_method_4_code 3 none ws ({ frames := 0, cells := 0, slots := 0, locals := 0 } : Room) #[(.ref a0), (.int (0 : Int32)), (.int p2)] h0 (Q_m14_37 Z a0 p2 k_a0 h0 n0) := by
 refine MetN.of (plainFor_of_name pn_3) ?_
 intro p e s m below meth c s₁ hret hx hby hml hown hnm hlk hZ X0 e0
 have N0 := Fr.nil n0
 rw [ef_m14_37 m a0 p2]
 refine w_getS X0 hx "" hZ hown (Or.inl (wd_61 hw)) Via.refl e0 (zz0.ext O0.2) (d14_0 hby) (pc' := 3) rfl ?_
 intro T20 X20 e20
 refine w_ifY X20 hx (d14_3 hby) (feq (by decide : ¬ ((1 : Int32) = (0 : Int32)))).2 (pc' := 28) (by decide) (by decide) ?_
 refine w_iloadN X20 hx (d14_28 hby) rfl (pc' := 29) rfl ?_
 refine w_iconst X20 hx (d14_29 hby) (v := (1 : Int32)) rfl (pc' := 30) rfl ?_
 refine w_ishl X20 hx (d14_30 hby) (pc' := 31) rfl ?_
 rw [show ((0 : Int32) <<< ((1 : Int32) &&& 31)) = (0 : Int32) from by decide]
 refine w_istoreN X20 hx (d14_31 hby) (L' := #[.val (.ref a0), .val (.int (0 : Int32)), .val (.int p2)]) rfl (pc' := 32) rfl ?_
 refine w_aloadN X20 hx (d14_32 hby) rfl rfl (pc' := 33) rfl ?_
 refine w_iloadN X20 hx (d14_33 hby) rfl (pc' := 34) rfl ?_
 refine w_iinc X20 hx (d14_34 hby) (v := (1 : Int32)) rfl rfl (L' := #[.val (.ref a0), .val (.int ((0 : Int32) + (1 : Int32))), .val (.int p2)]) rfl (pc' := 37) rfl ?_
 rw [show ((0 : Int32) + (1 : Int32)) = (1 : Int32) from by decide]
 refine w_iloadN X20 hx (d14_37 hby) rfl (pc' := 38) rfl ?_
 refine w_getS X20 hx "" hZ hown (Or.inl (wd_62 hw)) Via.refl e20 (zz1.ext O0.2) (d14_38 hby) (pc' := 41) rfl ?_
 intro T21 X21 e21
 refine w_ishr X21 hx (d14_41 hby) (pc' := 42) rfl ?_
 refine w_i2b X21 hx (d14_42 hby) (pc' := 43) rfl ?_
 obtain ⟨clu22, Aru22, qu22, Su22, Nu22, Hu22, Gu22⟩ := id V_a0
 have hinu22 := inb_of (j := (0 : Int32)) Su22 ⟨by decide, by decide⟩
 refine w_stB X21 hx hZ e21 Aru22 hinu22 (d14_43 hby) (pc' := 44) rfl ?_
 intro T23 h23 X23 e23 W23
 have V24 : Arv Z h23 a0 k_a0 .byte (6 : Int32) [(.int (nar .byte ((p2 >>> ((0 : Int32) &&& 31)).toInt8.toInt32))), (.int (0 : Int32)), (.int (0 : Int32)), (.int (0 : Int32)), (.int (0 : Int32)), (.int (0 : Int32))] (.int (0 : Int32)) := Arv.set Aru22 qu22 Su22 Nu22 Hu22 Gu22 (fits_nar_byte _) W23 0 rfl (Nat.le_of_ble_eq_true rfl)
 have V25 : Arv Z h23 a0 k_a0 .byte (6 : Int32) [(.int ((p2 >>> ((0 : Int32) &&& 31)).toInt8.toInt32)), (.int (0 : Int32)), (.int (0 : Int32)), (.int (0 : Int32)), (.int (0 : Int32)), (.int (0 : Int32))] (.int (0 : Int32)) := by rw [nar_b] at V24; exact V24
 have K26 : Keep h0 h23 [a0] := (Keep.refl h0 [a0]).wr W23 (Or.inl (by simp))
 have N27 := Fr.snoc X23 N0 zz2
 refine w_aloadN X23 hx (d14_44 hby) rfl rfl (pc' := 45) rfl ?_
 refine w_iloadN X23 hx (d14_45 hby) rfl (pc' := 46) rfl ?_
 refine w_iloadN X23 hx (d14_46 hby) rfl (pc' := 47) rfl ?_
 have f28 : Old Z n0 h23 := (O0.wr W23 zz2)
 refine w_getS X23 hx "" hZ hown (Or.inl (wd_63 hw)) Via.refl e23 (zz3.ext f28.2) (d14_47 hby) (pc' := 50) rfl ?_
 intro T29 X29 e29
 refine w_ishr X29 hx (d14_50 hby) (pc' := 51) rfl ?_
 refine w_i2b X29 hx (d14_51 hby) (pc' := 52) rfl ?_
 obtain ⟨clu30, Aru30, qu30, Su30, Nu30, Hu30, Gu30⟩ := id V25
 have hinu30 := inb_of (j := (1 : Int32)) Su30 ⟨by decide, by decide⟩
 refine w_stB X29 hx hZ e29 Aru30 hinu30 (d14_52 hby) (pc' := 53) rfl ?_
 intro T31 h31 X31 e31 W31
 have V32 : Arv Z h31 a0 k_a0 .byte (6 : Int32) [(.int ((p2 >>> ((0 : Int32) &&& 31)).toInt8.toInt32)), (.int (nar .byte ((p2 >>> ((8 : Int32) &&& 31)).toInt8.toInt32))), (.int (0 : Int32)), (.int (0 : Int32)), (.int (0 : Int32)), (.int (0 : Int32))] (.int (0 : Int32)) := Arv.set Aru30 qu30 Su30 Nu30 Hu30 Gu30 (fits_nar_byte _) W31 1 rfl (Nat.le_of_ble_eq_true rfl)
 have V33 : Arv Z h31 a0 k_a0 .byte (6 : Int32) [(.int ((p2 >>> ((0 : Int32) &&& 31)).toInt8.toInt32)), (.int ((p2 >>> ((8 : Int32) &&& 31)).toInt8.toInt32)), (.int (0 : Int32)), (.int (0 : Int32)), (.int (0 : Int32)), (.int (0 : Int32))] (.int (0 : Int32)) := by rw [nar_b] at V32; exact V32
 have K34 : Keep h0 h31 [a0] := K26.wr W31 (Or.inl (by simp))
 have N35 := Fr.snoc X31 N27 zz2
 exact w_done X31 hlk (v := none) e31 (fun _ => rfl) (fun fs hr => X31.returnOut hx hret (d14_53 hby) hr) (by decide) (by decide) (⟨rfl, N35, K34, V33⟩)
theorem ef_m14_38 (m : MethodId) (a0 : Addr) (p2 : Int32)  : entryFrame m #[(.ref a0), (.int (1 : Int32)), (.int p2)] 3 = mkF m 0 #[.val (.ref a0), .val (.int (1 : Int32)), .val (.int p2)] [] := by first | (simp [entryFrame, mkF, argsToLocals, Value.category]; done) | rfl
def Q_m14_38 (Z : State) (a0 : Addr) (p2 : Int32) (k_a0 : ClassId) (jj0 : Int32) (jj1 : Int32) (h0 : Heap) (n0 : Nat) (v : Option Value) (h : Heap) (L : List Loc) : Prop := v = none ∧ Fr n0 L ∧ Keep h0 h [a0] ∧ Arv Z h a0 k_a0 .byte (6 : Int32) [(.int jj0), (.int jj1), (.int ((p2 >>> ((0 : Int32) &&& 31)).toInt8.toInt32)), (.int ((p2 >>> ((8 : Int32) &&& 31)).toInt8.toInt32)), (.int (0 : Int32)), (.int (0 : Int32))] (.int (0 : Int32))
theorem rm_m14_38 (l : Launch) (Z : State) (aZ : Array Value) (hw : ∀ d ∈ tables_1, d.before aZ Z = true) (ws : List Jvm.Cond) (a0 : Addr) (p2 : Int32) (k_a0 : ClassId) (jj0 : Int32) (jj1 : Int32) (h0 : Heap) (n0 : Nat) (Z0 : n0 ≤ h0.size) (zz2 : Sta Z Z.heap kc1 "$assertionsDisabled" "Z" (.int (1 : Int32))) (O0 : Old Z n0 h0) (zz3 : Sta Z Z.heap kc1 "HI_BYTE_SHIFT" "I" (.int (0 : Int32))) (V_a0 : Arv Z h0 a0 k_a0 .byte (6 : Int32) [(.int jj0), (.int jj1), (.int (0 : Int32)), (.int (0 : Int32)), (.int (0 : Int32)), (.int (0 : Int32))] (.int (0 : Int32))) (zz4 : n0 ≤ a0) (zz5 : Sta Z Z.heap kc1 "LO_BYTE_SHIFT" "I" (.int (8 : Int32))) :
    MetN l Z yn_14 jdk_52_method_4_code 3 none ws ({ frames := 0, cells := 0, slots := 0, locals := 0 } : Room) #[(.ref a0), (.int (1 : Int32)), (.int p2)] h0 (Q_m14_38 Z a0 p2 k_a0 jj0 jj1 h0 n0) := by
 refine MetN.of (plainFor_of_name pn_3) ?_
 intro p e s m below meth c s₁ hret hx hby hml hown hnm hlk hZ X0 e0
 have N0 := Fr.nil n0
 rw [ef_m14_38 m a0 p2]
 refine w_getS X0 hx "" hZ hown (Or.inl (wd_61 hw)) Via.refl e0 (zz2.ext O0.2) (d14_0 hby) (pc' := 3) rfl ?_
 intro T20 X20 e20
 refine w_ifY X20 hx (d14_3 hby) (feq (by decide : ¬ ((1 : Int32) = (0 : Int32)))).2 (pc' := 28) (by decide) (by decide) ?_
 refine w_iloadN X20 hx (d14_28 hby) rfl (pc' := 29) rfl ?_
 refine w_iconst X20 hx (d14_29 hby) (v := (1 : Int32)) rfl (pc' := 30) rfl ?_
 refine w_ishl X20 hx (d14_30 hby) (pc' := 31) rfl ?_
 rw [show ((1 : Int32) <<< ((1 : Int32) &&& 31)) = (2 : Int32) from by decide]
 refine w_istoreN X20 hx (d14_31 hby) (L' := #[.val (.ref a0), .val (.int (2 : Int32)), .val (.int p2)]) rfl (pc' := 32) rfl ?_
 refine w_aloadN X20 hx (d14_32 hby) rfl rfl (pc' := 33) rfl ?_
 refine w_iloadN X20 hx (d14_33 hby) rfl (pc' := 34) rfl ?_
 refine w_iinc X20 hx (d14_34 hby) (v := (1 : Int32)) rfl rfl (L' := #[.val (.ref a0), .val (.int ((2 : Int32) + (1 : Int32))), .val (.int p2)]) rfl (pc' := 37) rfl ?_
 rw [show ((2 : Int32) + (1 : Int32)) = (3 : Int32) from by decide]
 refine w_iloadN X20 hx (d14_37 hby) rfl (pc' := 38) rfl ?_
 refine w_getS X20 hx "" hZ hown (Or.inl (wd_62 hw)) Via.refl e20 (zz3.ext O0.2) (d14_38 hby) (pc' := 41) rfl ?_
 intro T21 X21 e21
 refine w_ishr X21 hx (d14_41 hby) (pc' := 42) rfl ?_
 refine w_i2b X21 hx (d14_42 hby) (pc' := 43) rfl ?_
 obtain ⟨clu22, Aru22, qu22, Su22, Nu22, Hu22, Gu22⟩ := id V_a0
 have hinu22 := inb_of (j := (2 : Int32)) Su22 ⟨by decide, by decide⟩
 refine w_stB X21 hx hZ e21 Aru22 hinu22 (d14_43 hby) (pc' := 44) rfl ?_
 intro T23 h23 X23 e23 W23
 have V24 : Arv Z h23 a0 k_a0 .byte (6 : Int32) [(.int jj0), (.int jj1), (.int (nar .byte ((p2 >>> ((0 : Int32) &&& 31)).toInt8.toInt32))), (.int (0 : Int32)), (.int (0 : Int32)), (.int (0 : Int32))] (.int (0 : Int32)) := Arv.set Aru22 qu22 Su22 Nu22 Hu22 Gu22 (fits_nar_byte _) W23 2 rfl (Nat.le_of_ble_eq_true rfl)
 have V25 : Arv Z h23 a0 k_a0 .byte (6 : Int32) [(.int jj0), (.int jj1), (.int ((p2 >>> ((0 : Int32) &&& 31)).toInt8.toInt32)), (.int (0 : Int32)), (.int (0 : Int32)), (.int (0 : Int32))] (.int (0 : Int32)) := by rw [nar_b] at V24; exact V24
 have K26 : Keep h0 h23 [a0] := (Keep.refl h0 [a0]).wr W23 (Or.inl (by simp))
 have N27 := Fr.snoc X23 N0 zz4
 refine w_aloadN X23 hx (d14_44 hby) rfl rfl (pc' := 45) rfl ?_
 refine w_iloadN X23 hx (d14_45 hby) rfl (pc' := 46) rfl ?_
 refine w_iloadN X23 hx (d14_46 hby) rfl (pc' := 47) rfl ?_
 have f28 : Old Z n0 h23 := (O0.wr W23 zz4)
 refine w_getS X23 hx "" hZ hown (Or.inl (wd_63 hw)) Via.refl e23 (zz5.ext f28.2) (d14_47 hby) (pc' := 50) rfl ?_
 intro T29 X29 e29
 refine w_ishr X29 hx (d14_50 hby) (pc' := 51) rfl ?_
 refine w_i2b X29 hx (d14_51 hby) (pc' := 52) rfl ?_
 obtain ⟨clu30, Aru30, qu30, Su30, Nu30, Hu30, Gu30⟩ := id V25
 have hinu30 := inb_of (j := (3 : Int32)) Su30 ⟨by decide, by decide⟩
 refine w_stB X29 hx hZ e29 Aru30 hinu30 (d14_52 hby) (pc' := 53) rfl ?_
 intro T31 h31 X31 e31 W31
 have V32 : Arv Z h31 a0 k_a0 .byte (6 : Int32) [(.int jj0), (.int jj1), (.int ((p2 >>> ((0 : Int32) &&& 31)).toInt8.toInt32)), (.int (nar .byte ((p2 >>> ((8 : Int32) &&& 31)).toInt8.toInt32))), (.int (0 : Int32)), (.int (0 : Int32))] (.int (0 : Int32)) := Arv.set Aru30 qu30 Su30 Nu30 Hu30 Gu30 (fits_nar_byte _) W31 3 rfl (Nat.le_of_ble_eq_true rfl)
 have V33 : Arv Z h31 a0 k_a0 .byte (6 : Int32) [(.int jj0), (.int jj1), (.int ((p2 >>> ((0 : Int32) &&& 31)).toInt8.toInt32)), (.int ((p2 >>> ((8 : Int32) &&& 31)).toInt8.toInt32)), (.int (0 : Int32)), (.int (0 : Int32))] (.int (0 : Int32)) := by rw [nar_b] at V32; exact V32
 have K34 : Keep h0 h31 [a0] := K26.wr W31 (Or.inl (by simp))
 have N35 := Fr.snoc X31 N27 zz4
 exact w_done X31 hlk (v := none) e31 (fun _ => rfl) (fun fs hr => X31.returnOut hx hret (d14_53 hby) hr) (by decide) (by decide) (⟨rfl, N35, K34, V33⟩)
theorem ef_m14_39 (m : MethodId) (a0 : Addr) (p2 : Int32)  : entryFrame m #[(.ref a0), (.int (2 : Int32)), (.int p2)] 3 = mkF m 0 #[.val (.ref a0), .val (.int (2 : Int32)), .val (.int p2)] [] := by first | (simp [entryFrame, mkF, argsToLocals, Value.category]; done) | rfl
def Q_m14_39 (Z : State) (a0 : Addr) (p2 : Int32) (k_a0 : ClassId) (jj0 : Int32) (jj1 : Int32) (jj2 : Int32) (jj3 : Int32) (h0 : Heap) (n0 : Nat) (v : Option Value) (h : Heap) (L : List Loc) : Prop := v = none ∧ Fr n0 L ∧ Keep h0 h [a0] ∧ Arv Z h a0 k_a0 .byte (6 : Int32) [(.int jj0), (.int jj1), (.int jj2), (.int jj3), (.int ((p2 >>> ((0 : Int32) &&& 31)).toInt8.toInt32)), (.int ((p2 >>> ((8 : Int32) &&& 31)).toInt8.toInt32))] (.int (0 : Int32))
theorem rm_m14_39 (l : Launch) (Z : State) (aZ : Array Value) (hw : ∀ d ∈ tables_1, d.before aZ Z = true) (ws : List Jvm.Cond) (a0 : Addr) (p2 : Int32) (k_a0 : ClassId) (jj0 : Int32) (jj1 : Int32) (jj2 : Int32) (jj3 : Int32) (h0 : Heap) (n0 : Nat) (Z0 : n0 ≤ h0.size) (zz4 : Sta Z Z.heap kc1 "$assertionsDisabled" "Z" (.int (1 : Int32))) (O0 : Old Z n0 h0) (zz5 : Sta Z Z.heap kc1 "HI_BYTE_SHIFT" "I" (.int (0 : Int32))) (V_a0 : Arv Z h0 a0 k_a0 .byte (6 : Int32) [(.int jj0), (.int jj1), (.int jj2), (.int jj3), (.int (0 : Int32)), (.int (0 : Int32))] (.int (0 : Int32))) (zz6 : n0 ≤ a0) (zz7 : Sta Z Z.heap kc1 "LO_BYTE_SHIFT" "I" (.int (8 : Int32))) :
    MetN l Z yn_14 jdk_52_method_4_code 3 none ws ({ frames := 0, cells := 0, slots := 0, locals := 0 } : Room) #[(.ref a0), (.int (2 : Int32)), (.int p2)] h0 (Q_m14_39 Z a0 p2 k_a0 jj0 jj1 jj2 jj3 h0 n0) := by
 refine MetN.of (plainFor_of_name pn_3) ?_
 intro p e s m below meth c s₁ hret hx hby hml hown hnm hlk hZ X0 e0
 have N0 := Fr.nil n0
 rw [ef_m14_39 m a0 p2]
 refine w_getS X0 hx "" hZ hown (Or.inl (wd_61 hw)) Via.refl e0 (zz4.ext O0.2) (d14_0 hby) (pc' := 3) rfl ?_
 intro T20 X20 e20
 refine w_ifY X20 hx (d14_3 hby) (feq (by decide : ¬ ((1 : Int32) = (0 : Int32)))).2 (pc' := 28) (by decide) (by decide) ?_
 refine w_iloadN X20 hx (d14_28 hby) rfl (pc' := 29) rfl ?_
 refine w_iconst X20 hx (d14_29 hby) (v := (1 : Int32)) rfl (pc' := 30) rfl ?_
 refine w_ishl X20 hx (d14_30 hby) (pc' := 31) rfl ?_
 rw [show ((2 : Int32) <<< ((1 : Int32) &&& 31)) = (4 : Int32) from by decide]
 refine w_istoreN X20 hx (d14_31 hby) (L' := #[.val (.ref a0), .val (.int (4 : Int32)), .val (.int p2)]) rfl (pc' := 32) rfl ?_
 refine w_aloadN X20 hx (d14_32 hby) rfl rfl (pc' := 33) rfl ?_
 refine w_iloadN X20 hx (d14_33 hby) rfl (pc' := 34) rfl ?_
 refine w_iinc X20 hx (d14_34 hby) (v := (1 : Int32)) rfl rfl (L' := #[.val (.ref a0), .val (.int ((4 : Int32) + (1 : Int32))), .val (.int p2)]) rfl (pc' := 37) rfl ?_
 rw [show ((4 : Int32) + (1 : Int32)) = (5 : Int32) from by decide]
 refine w_iloadN X20 hx (d14_37 hby) rfl (pc' := 38) rfl ?_
 refine w_getS X20 hx "" hZ hown (Or.inl (wd_62 hw)) Via.refl e20 (zz5.ext O0.2) (d14_38 hby) (pc' := 41) rfl ?_
 intro T21 X21 e21
 refine w_ishr X21 hx (d14_41 hby) (pc' := 42) rfl ?_
 refine w_i2b X21 hx (d14_42 hby) (pc' := 43) rfl ?_
 obtain ⟨clu22, Aru22, qu22, Su22, Nu22, Hu22, Gu22⟩ := id V_a0
 have hinu22 := inb_of (j := (4 : Int32)) Su22 ⟨by decide, by decide⟩
 refine w_stB X21 hx hZ e21 Aru22 hinu22 (d14_43 hby) (pc' := 44) rfl ?_
 intro T23 h23 X23 e23 W23
 have V24 : Arv Z h23 a0 k_a0 .byte (6 : Int32) [(.int jj0), (.int jj1), (.int jj2), (.int jj3), (.int (nar .byte ((p2 >>> ((0 : Int32) &&& 31)).toInt8.toInt32))), (.int (0 : Int32))] (.int (0 : Int32)) := Arv.set Aru22 qu22 Su22 Nu22 Hu22 Gu22 (fits_nar_byte _) W23 4 rfl (Nat.le_of_ble_eq_true rfl)
 have V25 : Arv Z h23 a0 k_a0 .byte (6 : Int32) [(.int jj0), (.int jj1), (.int jj2), (.int jj3), (.int ((p2 >>> ((0 : Int32) &&& 31)).toInt8.toInt32)), (.int (0 : Int32))] (.int (0 : Int32)) := by rw [nar_b] at V24; exact V24
 have K26 : Keep h0 h23 [a0] := (Keep.refl h0 [a0]).wr W23 (Or.inl (by simp))
 have N27 := Fr.snoc X23 N0 zz6
 refine w_aloadN X23 hx (d14_44 hby) rfl rfl (pc' := 45) rfl ?_
 refine w_iloadN X23 hx (d14_45 hby) rfl (pc' := 46) rfl ?_
 refine w_iloadN X23 hx (d14_46 hby) rfl (pc' := 47) rfl ?_
 have f28 : Old Z n0 h23 := (O0.wr W23 zz6)
 refine w_getS X23 hx "" hZ hown (Or.inl (wd_63 hw)) Via.refl e23 (zz7.ext f28.2) (d14_47 hby) (pc' := 50) rfl ?_
 intro T29 X29 e29
 refine w_ishr X29 hx (d14_50 hby) (pc' := 51) rfl ?_
 refine w_i2b X29 hx (d14_51 hby) (pc' := 52) rfl ?_
 obtain ⟨clu30, Aru30, qu30, Su30, Nu30, Hu30, Gu30⟩ := id V25
 have hinu30 := inb_of (j := (5 : Int32)) Su30 ⟨by decide, by decide⟩
 refine w_stB X29 hx hZ e29 Aru30 hinu30 (d14_52 hby) (pc' := 53) rfl ?_
 intro T31 h31 X31 e31 W31
 have V32 : Arv Z h31 a0 k_a0 .byte (6 : Int32) [(.int jj0), (.int jj1), (.int jj2), (.int jj3), (.int ((p2 >>> ((0 : Int32) &&& 31)).toInt8.toInt32)), (.int (nar .byte ((p2 >>> ((8 : Int32) &&& 31)).toInt8.toInt32)))] (.int (0 : Int32)) := Arv.set Aru30 qu30 Su30 Nu30 Hu30 Gu30 (fits_nar_byte _) W31 5 rfl (Nat.le_of_ble_eq_true rfl)
 have V33 : Arv Z h31 a0 k_a0 .byte (6 : Int32) [(.int jj0), (.int jj1), (.int jj2), (.int jj3), (.int ((p2 >>> ((0 : Int32) &&& 31)).toInt8.toInt32)), (.int ((p2 >>> ((8 : Int32) &&& 31)).toInt8.toInt32))] (.int (0 : Int32)) := by rw [nar_b] at V32; exact V32
 have K34 : Keep h0 h31 [a0] := K26.wr W31 (Or.inl (by simp))
 have N35 := Fr.snoc X31 N27 zz6
 exact w_done X31 hlk (v := none) e31 (fun _ => rfl) (fun fs hr => X31.returnOut hx hret (d14_53 hby) hr) (by decide) (by decide) (⟨rfl, N35, K34, V33⟩)
theorem ef_m11_34 (m : MethodId) (a0 : Addr)  : entryFrame m #[(.ref a0), (.int (0 : Int32)), (.int (3 : Int32))] 5 = mkF m 0 #[.val (.ref a0), .val (.int (0 : Int32)), .val (.int (3 : Int32)), .unset, .unset] [] := by first | (simp [entryFrame, mkF, argsToLocals, Value.category]; done) | rfl
def Q_m11_34 (Z : State) (a0 : Addr) (k_a0 : ClassId) (jj0 : Int32) (jj1 : Int32) (jj2 : Int32) (h0 : Heap) (n0 : Nat) (v : Option Value) (h : Heap) (L : List Loc) : Prop := ∃ (r0 : Addr) (c0 : ClassId), v = some (.ref r0) ∧ Fr n0 L ∧ Keep h0 h [] ∧ h0.size ≤ r0 ∧ Arv Z h r0 c0 .byte (6 : Int32) [(.int ((jj0 >>> ((0 : Int32) &&& 31)).toInt8.toInt32)), (.int ((jj0 >>> ((8 : Int32) &&& 31)).toInt8.toInt32)), (.int ((jj1 >>> ((0 : Int32) &&& 31)).toInt8.toInt32)), (.int ((jj1 >>> ((8 : Int32) &&& 31)).toInt8.toInt32)), (.int ((jj2 >>> ((0 : Int32) &&& 31)).toInt8.toInt32)), (.int ((jj2 >>> ((8 : Int32) &&& 31)).toInt8.toInt32))] (.int (0 : Int32))
theorem rm_m11_34 (l : Launch) (Z : State) (aZ : Array Value) (hw : ∀ d ∈ tables_1, d.before aZ Z = true) (ws : List Jvm.Cond) (a0 : Addr) (k_a0 : ClassId) (jj0 : Int32) (jj1 : Int32) (jj2 : Int32) (h0 : Heap) (n0 : Nat) (Z0 : n0 ≤ h0.size) (V_a0 : Arv Z h0 a0 k_a0 .char (3 : Int32) [(.int jj0), (.int jj1), (.int jj2)] (.int (0 : Int32))) (zz3 : Sta Z Z.heap kc1 "$assertionsDisabled" "Z" (.int (1 : Int32))) (O0 : Old Z n0 h0) (zz4 : Sta Z Z.heap kc1 "HI_BYTE_SHIFT" "I" (.int (0 : Int32))) (zz5 : Sta Z Z.heap kc1 "LO_BYTE_SHIFT" "I" (.int (8 : Int32))) :
    MetN l Z yn_11 jdk_52_method_14_code 5 (some (.array .byte)) ws ({ frames := 2, cells := 1, slots := 6, locals := 24 } : Room) #[(.ref a0), (.int (0 : Int32)), (.int (3 : Int32))] h0 (Q_m11_34 Z a0 k_a0 jj0 jj1 jj2 h0 n0) := by
 refine MetN.of (plainFor_of_name pn_3) ?_
 intro p e s m below meth c s₁ hret hx hby hml hown hnm hlk hZ X0 e0
 have N0 := Fr.nil n0
 rw [ef_m11_34 m a0]
 refine w_iloadN X0 hx (d11_0 hby) rfl (pc' := 1) rfl ?_
 refine w_static X0 hx (y := yn_12) hown (mvT hZ (wd_51 hw)) (mvT hZ (wd_52 hw)) (mvT hZ (wd_40 hw)) (mvT hZ (wd_53 hw)) (by decide) (backOf (W := 0) (rm_m12_35 l Z aZ hw []  h0 n0 Z0 ) hZ (wd_53 hw) (wd_40 hw) (by decide) (by decide)) (by rw [hml]; rfl) [(.int (3 : Int32))] (lenOf pd_6 rfl) rfl (Nat.le_of_eq rfl) (d11_1 hby) (fun _ _ => ⟨rfl, e0, (by decide : 0 + 1 ≤ _), (by decide : 0 + 6 ≤ _)⟩) (pc' := 4) rfl ?_
 rintro _ _ ⟨T20, L20, k20, n20⟩ X20 ⟨Lc20, hQ20, l20, y20, z20⟩
 dsimp only [Pt.U, Pt.locs, Pt.cells, Pt.slots] at X20 l20 y20 z20 hQ20 ⊢
 rw [l20, y20, z20] at X20
 obtain ⟨r0_20, c0_20, rfl, N20q, K20, g20_0, g20_1⟩ := hQ20
 have N21 := Fr.app N0 N20q
 have K22 : Keep h0 T20.heap [] := (Keep.refl h0 []).trans K20 (all0 (P := fun x => x ∈ [] ∨ h0.size ≤ x))
 have ge23 : n0 ≤ r0_20 := Nat.le_trans Z0 g20_0
 have sz24 : h0.size ≤ r0_20 := Nat.le_trans (Nat.le_refl _) g20_0
 show Runs _ _ _ _ (T20.setTop (mkF m 4 #[.val (.ref a0), .val (.int (0 : Int32)), .val (.int (3 : Int32)), .unset, .unset] [(.ref r0_20)]))
 refine w_astoreN X20 hx (d11_4 hby) rfl (L' := #[.val (.ref a0), .val (.int (0 : Int32)), .val (.int (3 : Int32)), .val (.ref r0_20), .unset]) rfl (pc' := 5) rfl ?_
 refine w_iconst X20 hx (d11_5 hby) (v := (0 : Int32)) rfl (pc' := 6) rfl ?_
 refine w_istore X20 hx (d11_6 hby) (L' := #[.val (.ref a0), .val (.int (0 : Int32)), .val (.int (3 : Int32)), .val (.ref r0_20), .val (.int (0 : Int32))]) rfl (pc' := 8) rfl ?_
 refine w_iload X20 hx (d11_8 hby) rfl (pc' := 10) rfl ?_
 refine w_iloadN X20 hx (d11_10 hby) rfl (pc' := 11) rfl ?_
 refine w_icN X20 hx (d11_11 hby) (tlt (by decide : (0 : Int32) < (3 : Int32))).2.1 (pc' := 14) rfl ?_
 refine w_aloadN X20 hx (d11_14 hby) rfl rfl (pc' := 15) rfl ?_
 refine w_iload X20 hx (d11_15 hby) rfl (pc' := 17) rfl ?_
 refine w_aloadN X20 hx (d11_17 hby) rfl rfl (pc' := 18) rfl ?_
 refine w_iloadN X20 hx (d11_18 hby) rfl (pc' := 19) rfl ?_
 have f25 : Arv Z T20.heap a0 k_a0 .char (3 : Int32) [(.int jj0), (.int jj1), (.int jj2)] (.int (0 : Int32)) := (V_a0.keep K20 nin0)
 obtain ⟨clu26, Aru26, qu26, Su26, Nu26, Hu26, Gu26⟩ := id f25
 have hinu26 := inb_of (j := (0 : Int32)) Su26 ⟨by decide, by decide⟩
 refine w_caload X20 hx hZ rfl Aru26 hinu26 (Hu26.at hinu26 rfl) (d11_19 hby) (pc' := 20) rfl ?_
 have f29 : Old Z n0 T20.heap := (O0.keep K20 all0)
 refine w_static X20 hx (y := yn_14) hown (mvT hZ (wd_58 hw)) (mvT hZ (wd_59 hw)) (mvT hZ (wd_40 hw)) (mvT hZ (wd_60 hw)) (by decide) (backOf (W := 0) (rm_m14_37 l Z aZ hw [] r0_20 jj0 c0_20 T20.heap n0 (Nat.le_trans Z0 K20.1) zz3 f29 zz4 g20_1 ge23 zz5) hZ (wd_60 hw) (wd_40 hw) (by decide) (by decide)) (by rw [hml]; rfl) [(.ref r0_20), (.int (0 : Int32)), (.int jj0)] (lenOf pd_7 rfl) rfl (Nat.le_of_eq rfl) (d11_20 hby) (fun _ _ => ⟨rfl, rfl, (by decide : 1 + 0 ≤ _), (by decide : 6 + 0 ≤ _)⟩) (pc' := 23) rfl ?_
 rintro _ _ ⟨T30, L30, k30, n30⟩ X30 ⟨Lc30, hQ30, l30, y30, z30⟩
 dsimp only [Pt.U, Pt.locs, Pt.cells, Pt.slots] at X30 l30 y30 z30 hQ30 ⊢
 rw [l30, y30, z30] at X30
 obtain ⟨rfl, N30q, K30, g30_0⟩ := hQ30
 have N31 := Fr.app N21 N30q
 have K32 : Keep h0 T30.heap [] := K22.trans K30 (allS (Or.inr sz24) (all0 (P := fun x => x ∈ [] ∨ h0.size ≤ x)))
 show Runs _ _ _ _ (T30.setTop (mkF m 23 #[.val (.ref a0), .val (.int (0 : Int32)), .val (.int (3 : Int32)), .val (.ref r0_20), .val (.int (0 : Int32))] []))
 refine w_iinc X30 hx (d11_23 hby) (v := (1 : Int32)) rfl rfl (L' := #[.val (.ref a0), .val (.int ((0 : Int32) + (1 : Int32))), .val (.int (3 : Int32)), .val (.ref r0_20), .val (.int (0 : Int32))]) rfl (pc' := 26) rfl ?_
 rw [show ((0 : Int32) + (1 : Int32)) = (1 : Int32) from by decide]
 refine w_iinc X30 hx (d11_26 hby) (v := (1 : Int32)) rfl rfl (L' := #[.val (.ref a0), .val (.int (1 : Int32)), .val (.int (3 : Int32)), .val (.ref r0_20), .val (.int ((0 : Int32) + (1 : Int32)))]) rfl (pc' := 29) rfl ?_
 rw [show ((0 : Int32) + (1 : Int32)) = (1 : Int32) from by decide]
 refine w_goto X30 hx (d11_29 hby) (pc' := 8) (by decide) (by decide) ?_
 refine w_iload X30 hx (d11_8 hby) rfl (pc' := 10) rfl ?_
 refine w_iloadN X30 hx (d11_10 hby) rfl (pc' := 11) rfl ?_
 refine w_icN X30 hx (d11_11 hby) (tlt (by decide : (1 : Int32) < (3 : Int32))).2.1 (pc' := 14) rfl ?_
 refine w_aloadN X30 hx (d11_14 hby) rfl rfl (pc' := 15) rfl ?_
 refine w_iload X30 hx (d11_15 hby) rfl (pc' := 17) rfl ?_
 refine w_aloadN X30 hx (d11_17 hby) rfl rfl (pc' := 18) rfl ?_
 refine w_iloadN X30 hx (d11_18 hby) rfl (pc' := 19) rfl ?_
 have ne33 : a0 ≠ r0_20 := (Nat.ne_of_lt (Nat.lt_of_lt_of_le V_a0.lt (Nat.le_trans (Nat.le_refl _) g20_0)))
 have f34 : Arv Z T30.heap a0 k_a0 .char (3 : Int32) [(.int jj0), (.int jj1), (.int jj2)] (.int (0 : Int32)) := (f25.keep K30 (ninS ne33 nin0))
 obtain ⟨clu35, Aru35, qu35, Su35, Nu35, Hu35, Gu35⟩ := id f34
 have hinu35 := inb_of (j := (1 : Int32)) Su35 ⟨by decide, by decide⟩
 refine w_caload X30 hx hZ rfl Aru35 hinu35 (Hu35.at hinu35 rfl) (d11_19 hby) (pc' := 20) rfl ?_
 have f37 : Old Z n0 T30.heap := (f29.keep K30 (allS ge23 all0))
 have le38 : h0.size ≤ T30.heap.size := (Nat.le_trans K20.1 K30.1)
 refine w_static X30 hx (y := yn_14) hown (mvT hZ (wd_58 hw)) (mvT hZ (wd_59 hw)) (mvT hZ (wd_40 hw)) (mvT hZ (wd_60 hw)) (by decide) (backOf (W := 0) (rm_m14_38 l Z aZ hw [] r0_20 jj1 c0_20 ((jj0 >>> ((0 : Int32) &&& 31)).toInt8.toInt32) ((jj0 >>> ((8 : Int32) &&& 31)).toInt8.toInt32) T30.heap n0 (Nat.le_trans Z0 le38) zz3 f37 zz4 g30_0 ge23 zz5) hZ (wd_60 hw) (wd_40 hw) (by decide) (by decide)) (by rw [hml]; rfl) [(.ref r0_20), (.int (1 : Int32)), (.int jj1)] (lenOf pd_7 rfl) rfl (Nat.le_of_eq rfl) (d11_20 hby) (fun _ _ => ⟨rfl, rfl, (by decide : 1 + 0 ≤ _), (by decide : 6 + 0 ≤ _)⟩) (pc' := 23) rfl ?_
 rintro _ _ ⟨T39, L39, k39, n39⟩ X39 ⟨Lc39, hQ39, l39, y39, z39⟩
 dsimp only [Pt.U, Pt.locs, Pt.cells, Pt.slots] at X39 l39 y39 z39 hQ39 ⊢
 rw [l39, y39, z39] at X39
 obtain ⟨rfl, N39q, K39, g39_0⟩ := hQ39
 have N40 := Fr.app N31 N39q
 have K41 : Keep h0 T39.heap [] := K32.trans K39 (allS (Or.inr sz24) (all0 (P := fun x => x ∈ [] ∨ h0.size ≤ x)))
 show Runs _ _ _ _ (T39.setTop (mkF m 23 #[.val (.ref a0), .val (.int (1 : Int32)), .val (.int (3 : Int32)), .val (.ref r0_20), .val (.int (1 : Int32))] []))
 refine w_iinc X39 hx (d11_23 hby) (v := (1 : Int32)) rfl rfl (L' := #[.val (.ref a0), .val (.int ((1 : Int32) + (1 : Int32))), .val (.int (3 : Int32)), .val (.ref r0_20), .val (.int (1 : Int32))]) rfl (pc' := 26) rfl ?_
 rw [show ((1 : Int32) + (1 : Int32)) = (2 : Int32) from by decide]
 refine w_iinc X39 hx (d11_26 hby) (v := (1 : Int32)) rfl rfl (L' := #[.val (.ref a0), .val (.int (2 : Int32)), .val (.int (3 : Int32)), .val (.ref r0_20), .val (.int ((1 : Int32) + (1 : Int32)))]) rfl (pc' := 29) rfl ?_
 rw [show ((1 : Int32) + (1 : Int32)) = (2 : Int32) from by decide]
 refine w_goto X39 hx (d11_29 hby) (pc' := 8) (by decide) (by decide) ?_
 refine w_iload X39 hx (d11_8 hby) rfl (pc' := 10) rfl ?_
 refine w_iloadN X39 hx (d11_10 hby) rfl (pc' := 11) rfl ?_
 refine w_icN X39 hx (d11_11 hby) (tlt (by decide : (2 : Int32) < (3 : Int32))).2.1 (pc' := 14) rfl ?_
 refine w_aloadN X39 hx (d11_14 hby) rfl rfl (pc' := 15) rfl ?_
 refine w_iload X39 hx (d11_15 hby) rfl (pc' := 17) rfl ?_
 refine w_aloadN X39 hx (d11_17 hby) rfl rfl (pc' := 18) rfl ?_
 refine w_iloadN X39 hx (d11_18 hby) rfl (pc' := 19) rfl ?_
 have f42 : Arv Z T39.heap a0 k_a0 .char (3 : Int32) [(.int jj0), (.int jj1), (.int jj2)] (.int (0 : Int32)) := (f34.keep K39 (ninS ne33 nin0))
 obtain ⟨clu43, Aru43, qu43, Su43, Nu43, Hu43, Gu43⟩ := id f42
 have hinu43 := inb_of (j := (2 : Int32)) Su43 ⟨by decide, by decide⟩
 refine w_caload X39 hx hZ rfl Aru43 hinu43 (Hu43.at hinu43 rfl) (d11_19 hby) (pc' := 20) rfl ?_
 have f44 : Old Z n0 T39.heap := (f37.keep K39 (allS ge23 all0))
 have le45 : h0.size ≤ T39.heap.size := (Nat.le_trans le38 K39.1)
 refine w_static X39 hx (y := yn_14) hown (mvT hZ (wd_58 hw)) (mvT hZ (wd_59 hw)) (mvT hZ (wd_40 hw)) (mvT hZ (wd_60 hw)) (by decide) (backOf (W := 0) (rm_m14_39 l Z aZ hw [] r0_20 jj2 c0_20 ((jj0 >>> ((0 : Int32) &&& 31)).toInt8.toInt32) ((jj0 >>> ((8 : Int32) &&& 31)).toInt8.toInt32) ((jj1 >>> ((0 : Int32) &&& 31)).toInt8.toInt32) ((jj1 >>> ((8 : Int32) &&& 31)).toInt8.toInt32) T39.heap n0 (Nat.le_trans Z0 le45) zz3 f44 zz4 g39_0 ge23 zz5) hZ (wd_60 hw) (wd_40 hw) (by decide) (by decide)) (by rw [hml]; rfl) [(.ref r0_20), (.int (2 : Int32)), (.int jj2)] (lenOf pd_7 rfl) rfl (Nat.le_of_eq rfl) (d11_20 hby) (fun _ _ => ⟨rfl, rfl, (by decide : 1 + 0 ≤ _), (by decide : 6 + 0 ≤ _)⟩) (pc' := 23) rfl ?_
 rintro _ _ ⟨T46, L46, k46, n46⟩ X46 ⟨Lc46, hQ46, l46, y46, z46⟩
 dsimp only [Pt.U, Pt.locs, Pt.cells, Pt.slots] at X46 l46 y46 z46 hQ46 ⊢
 rw [l46, y46, z46] at X46
 obtain ⟨rfl, N46q, K46, g46_0⟩ := hQ46
 have N47 := Fr.app N40 N46q
 have K48 : Keep h0 T46.heap [] := K41.trans K46 (allS (Or.inr sz24) (all0 (P := fun x => x ∈ [] ∨ h0.size ≤ x)))
 show Runs _ _ _ _ (T46.setTop (mkF m 23 #[.val (.ref a0), .val (.int (2 : Int32)), .val (.int (3 : Int32)), .val (.ref r0_20), .val (.int (2 : Int32))] []))
 refine w_iinc X46 hx (d11_23 hby) (v := (1 : Int32)) rfl rfl (L' := #[.val (.ref a0), .val (.int ((2 : Int32) + (1 : Int32))), .val (.int (3 : Int32)), .val (.ref r0_20), .val (.int (2 : Int32))]) rfl (pc' := 26) rfl ?_
 rw [show ((2 : Int32) + (1 : Int32)) = (3 : Int32) from by decide]
 refine w_iinc X46 hx (d11_26 hby) (v := (1 : Int32)) rfl rfl (L' := #[.val (.ref a0), .val (.int (3 : Int32)), .val (.int (3 : Int32)), .val (.ref r0_20), .val (.int ((2 : Int32) + (1 : Int32)))]) rfl (pc' := 29) rfl ?_
 rw [show ((2 : Int32) + (1 : Int32)) = (3 : Int32) from by decide]
 refine w_goto X46 hx (d11_29 hby) (pc' := 8) (by decide) (by decide) ?_
 refine w_iload X46 hx (d11_8 hby) rfl (pc' := 10) rfl ?_
 refine w_iloadN X46 hx (d11_10 hby) rfl (pc' := 11) rfl ?_
 refine w_icY X46 hx (d11_11 hby) (flt (by decide : ¬ ((3 : Int32) < (3 : Int32)))).2.1 (pc' := 32) (by decide) (by decide) ?_
 refine w_aloadN X46 hx (d11_32 hby) rfl rfl (pc' := 33) rfl ?_
 exact w_done X46 hlk (v := some (.ref r0_20)) rfl (fun h => by rw [hret] at h; cases h) (fun fs hr => retOut X46 hx hret rfl (Or.inr (Or.inr (Or.inr (Or.inr ⟨rfl, rfl, rfl⟩)))) (d11_33 hby) hr) (by decide) (by decide) (⟨r0_20, c0_20, rfl, N47, K48, sz24, g46_0⟩)
theorem ef_m15_40 (m : MethodId) (a0 : Addr) (p1 : Int32)  : entryFrame m #[(.ref a0), (.int p1)] 2 = mkF m 0 #[.val (.ref a0), .val (.int p1)] [] := by first | (simp [entryFrame, mkF, argsToLocals, Value.category]; done) | rfl
def Q_m15_40 (Z : State) (a0 : Addr) (p1 : Int32) (k_a0 : ClassId) (jj0 : Int32) (jj1 : Int32) (jj2 : Int32) (jj3 : Int32) (jj4 : Int32) (jj5 : Int32) (h0 : Heap) (n0 : Nat) (v : Option Value) (h : Heap) (L : List Loc) : Prop := v = some (.int (((((gI [jj0, jj1, jj2, jj3, jj4, jj5] (p1 <<< ((1 : Int32) &&& 31))) &&& (255 : Int32)) <<< ((0 : Int32) &&& 31)) ||| (((gI [jj0, jj1, jj2, jj3, jj4, jj5] ((p1 <<< ((1 : Int32) &&& 31)) + (1 : Int32))) &&& (255 : Int32)) <<< ((8 : Int32) &&& 31))).toUInt32.toUInt16.toUInt32.toInt32)) ∧ Fr n0 L ∧ h = h0
theorem rm_m15_40 (l : Launch) (Z : State) (aZ : Array Value) (hw : ∀ d ∈ tables_1, d.before aZ Z = true) (ws : List Jvm.Cond) (a0 : Addr) (p1 : Int32) (k_a0 : ClassId) (jj0 : Int32) (jj1 : Int32) (jj2 : Int32) (jj3 : Int32) (jj4 : Int32) (jj5 : Int32) (h0 : Heap) (n0 : Nat) (Z0 : n0 ≤ h0.size) (zz6 : Sta Z Z.heap kc1 "$assertionsDisabled" "Z" (.int (1 : Int32))) (O0 : Old Z n0 h0) (V_a0 : Arv Z h0 a0 k_a0 .byte (6 : Int32) [(.int jj0), (.int jj1), (.int jj2), (.int jj3), (.int jj4), (.int jj5)] (.int (0 : Int32))) (hP_3 : ¬ (p1 < (0 : Int32))) (hP_4 : p1 < (3 : Int32)) (zz7 : Sta Z Z.heap kc1 "HI_BYTE_SHIFT" "I" (.int (0 : Int32))) (zz8 : Sta Z Z.heap kc1 "LO_BYTE_SHIFT" "I" (.int (8 : Int32))) :
    MetN l Z yn_15 jdk_52_method_5_code 2 (some .char) ws ({ frames := 0, cells := 0, slots := 0, locals := 0 } : Room) #[(.ref a0), (.int p1)] h0 (Q_m15_40 Z a0 p1 k_a0 jj0 jj1 jj2 jj3 jj4 jj5 h0 n0) := by
 refine MetN.of (plainFor_of_name pn_3) ?_
 intro p e s m below meth c s₁ hret hx hby hml hown hnm hlk hZ X0 e0
 have N0 := Fr.nil n0
 rw [ef_m15_40 m a0 p1]
 refine w_getS X0 hx "" hZ hown (Or.inl (wd_61 hw)) Via.refl e0 (zz6.ext O0.2) (d15_0 hby) (pc' := 3) rfl ?_
 intro T20 X20 e20
 refine w_ifY X20 hx (d15_3 hby) (feq (by decide : ¬ ((1 : Int32) = (0 : Int32)))).2 (pc' := 28) (by decide) (by decide) ?_
 refine w_iloadN X20 hx (d15_28 hby) rfl (pc' := 29) rfl ?_
 refine w_iconst X20 hx (d15_29 hby) (v := (1 : Int32)) rfl (pc' := 30) rfl ?_
 refine w_ishl X20 hx (d15_30 hby) (pc' := 31) rfl ?_
 refine w_istoreN X20 hx (d15_31 hby) (L' := #[.val (.ref a0), .val (.int (p1 <<< ((1 : Int32) &&& 31)))]) rfl (pc' := 32) rfl ?_
 refine w_aloadN X20 hx (d15_32 hby) rfl rfl (pc' := 33) rfl ?_
 refine w_iloadN X20 hx (d15_33 hby) rfl (pc' := 34) rfl ?_
 refine w_iinc X20 hx (d15_34 hby) (v := (1 : Int32)) rfl rfl (L' := #[.val (.ref a0), .val (.int ((p1 <<< ((1 : Int32) &&& 31)) + (1 : Int32)))]) rfl (pc' := 37) rfl ?_
 obtain ⟨clu21, Aru21, qu21, Su21, Nu21, Hu21, Gu21⟩ := id V_a0
 have hinu21 := inb_of (j := (p1 <<< ((1 : Int32) &&& 31))) Su21 ⟨(own_shl_in (n := 3) (by decide) (by decide) hP_3 hP_4).1.1, (Eq.mp (congrArg (fun z => (p1 <<< ((1 : Int32) &&& 31)) < z) (by decide : (3 : Int32) <<< ((1 : Int32) &&& 31) = 6)) (own_shl_in (n := 3) (by decide) (by decide) hP_3 hP_4).1.2)⟩
 refine w_baload X20 hx hZ e20 Aru21 hinu21 (Hu21.at hinu21 (own_gI [jj0, jj1, jj2, jj3, jj4, jj5] (p1 <<< ((1 : Int32) &&& 31)))) (d15_37 hby) (pc' := 38) rfl ?_
 refine w_sipush X20 hx (d15_38 hby) (v := (255 : Int32)) rfl (pc' := 41) rfl ?_
 refine w_iand X20 hx (d15_41 hby) (pc' := 42) rfl ?_
 refine w_getS X20 hx "" hZ hown (Or.inl (wd_62 hw)) Via.refl e20 (zz7.ext O0.2) (d15_42 hby) (pc' := 45) rfl ?_
 intro T22 X22 e22
 refine w_ishl X22 hx (d15_45 hby) (pc' := 46) rfl ?_
 refine w_aloadN X22 hx (d15_46 hby) rfl rfl (pc' := 47) rfl ?_
 refine w_iloadN X22 hx (d15_47 hby) rfl (pc' := 48) rfl ?_
 obtain ⟨clu23, Aru23, qu23, Su23, Nu23, Hu23, Gu23⟩ := id V_a0
 have hinu23 := inb_of (j := ((p1 <<< ((1 : Int32) &&& 31)) + (1 : Int32))) Su23 ⟨(own_shl_in (n := 3) (by decide) (by decide) hP_3 hP_4).2.1, (Eq.mp (congrArg (fun z => ((p1 <<< ((1 : Int32) &&& 31)) + (1 : Int32)) < z) (by decide : (3 : Int32) <<< ((1 : Int32) &&& 31) = 6)) (own_shl_in (n := 3) (by decide) (by decide) hP_3 hP_4).2.2)⟩
 refine w_baload X22 hx hZ e22 Aru23 hinu23 (Hu23.at hinu23 (own_gI [jj0, jj1, jj2, jj3, jj4, jj5] ((p1 <<< ((1 : Int32) &&& 31)) + (1 : Int32)))) (d15_48 hby) (pc' := 49) rfl ?_
 refine w_sipush X22 hx (d15_49 hby) (v := (255 : Int32)) rfl (pc' := 52) rfl ?_
 refine w_iand X22 hx (d15_52 hby) (pc' := 53) rfl ?_
 refine w_getS X22 hx "" hZ hown (Or.inl (wd_63 hw)) Via.refl e22 (zz8.ext O0.2) (d15_53 hby) (pc' := 56) rfl ?_
 intro T24 X24 e24
 refine w_ishl X24 hx (d15_56 hby) (pc' := 57) rfl ?_
 refine w_ior X24 hx (d15_57 hby) (pc' := 58) rfl ?_
 refine w_i2c X24 hx (d15_58 hby) (pc' := 59) rfl ?_
 exact w_done X24 hlk (v := some (.int (((((gI [jj0, jj1, jj2, jj3, jj4, jj5] (p1 <<< ((1 : Int32) &&& 31))) &&& (255 : Int32)) <<< ((0 : Int32) &&& 31)) ||| (((gI [jj0, jj1, jj2, jj3, jj4, jj5] ((p1 <<< ((1 : Int32) &&& 31)) + (1 : Int32))) &&& (255 : Int32)) <<< ((8 : Int32) &&& 31))).toUInt32.toUInt16.toUInt32.toInt32))) e24 (fun h => by rw [hret] at h; cases h) (fun fs hr => retOut X24 hx hret (t := .char) (XT.narrow_c _) (Or.inl ⟨rfl, by simp, _, rfl⟩) (d15_59 hby) hr) (by decide) (by decide) (⟨rfl, N0, rfl⟩)
theorem ef_m8_32 (m : MethodId) (a0 : Addr)  : entryFrame m #[(.ref a0), (.int (0 : Int32)), (.int (3 : Int32))] 6 = mkF m 0 #[.val (.ref a0), .val (.int (0 : Int32)), .val (.int (3 : Int32)), .unset, .unset, .unset] [] := by first | (simp [entryFrame, mkF, argsToLocals, Value.category]; done) | rfl
def Q_m8_32 (Z : State) (a0 : Addr) (k_a0 : ClassId) (jj0 : Int32) (jj1 : Int32) (jj2 : Int32) (h0 : Heap) (n0 : Nat) (v : Option Value) (h : Heap) (L : List Loc) : Prop := (∃ (t : Addr) (kb : ClassId), v = some (.ref t) ∧ Fr n0 L ∧ Keep h0 h [] ∧ h0.size ≤ t ∧ Arv Z h t kb .byte (3 : Int32) [(.int (jj0.toInt8.toInt32)), (.int (jj1.toInt8.toInt32)), (.int (jj2.toInt8.toInt32))] (.int (0 : Int32)) ∧ ¬ ((255 : Int32) < jj0) ∧ ¬ ((255 : Int32) < jj1) ∧ ¬ ((255 : Int32) < jj2)) ∨ (∃ (t : Addr) (kb : ClassId), v = some (.ref t) ∧ Fr n0 L ∧ Keep h0 h [] ∧ h0.size ≤ t ∧ Arv Z h t kb .byte (6 : Int32) [(.int ((jj0 >>> ((0 : Int32) &&& 31)).toInt8.toInt32)), (.int ((jj0 >>> ((8 : Int32) &&& 31)).toInt8.toInt32)), (.int ((jj1 >>> ((0 : Int32) &&& 31)).toInt8.toInt32)), (.int ((jj1 >>> ((8 : Int32) &&& 31)).toInt8.toInt32)), (.int ((jj2 >>> ((0 : Int32) &&& 31)).toInt8.toInt32)), (.int ((jj2 >>> ((8 : Int32) &&& 31)).toInt8.toInt32))] (.int (0 : Int32)) ∧ ((255 : Int32) < jj0 ∨ (255 : Int32) < jj1 ∨ (255 : Int32) < jj2))
theorem rm_m8_32 (l : Launch) (Z : State) (aZ : Array Value) (hw : ∀ d ∈ tables_1, d.before aZ Z = true) (ws : List Jvm.Cond) (a0 : Addr) (k_a0 : ClassId) (jj0 : Int32) (jj1 : Int32) (jj2 : Int32) (h0 : Heap) (n0 : Nat) (Z0 : n0 ≤ h0.size) (V_a0 : Arv Z h0 a0 k_a0 .char (3 : Int32) [(.int jj0), (.int jj1), (.int jj2)] (.int (0 : Int32))) (zz3 : Sta Z Z.heap kc1 "$assertionsDisabled" "Z" (.int (1 : Int32))) (O0 : Old Z n0 h0) (zz4 : Sta Z Z.heap kc1 "HI_BYTE_SHIFT" "I" (.int (0 : Int32))) (zz5 : Sta Z Z.heap kc1 "LO_BYTE_SHIFT" "I" (.int (8 : Int32))) (zz6 : nar .char jj0 = jj0) (zz7 : nar .char jj1 = jj1) (zz8 : nar .char jj2 = jj2) :
    MetN l Z yn_8 jdk_52_method_16_code 6 (some (.array .byte)) ws ({ frames := 3, cells := 2, slots := 9, locals := 40 } : Room) #[(.ref a0), (.int (0 : Int32)), (.int (3 : Int32))] h0 (Q_m8_32 Z a0 k_a0 jj0 jj1 jj2 h0 n0) := by
 refine MetN.of (plainFor_of_name pn_3) ?_
 intro p e s m below meth c s₁ hret hx hby hml hown hnm hlk hZ X0 e0
 have N0 := Fr.nil n0
 rw [ef_m8_32 m a0]
 refine w_iloadN X0 hx (d8_0 hby) rfl (pc' := 1) rfl ?_
 refine w_newP X0 hx .byte .byte 3 rfl hZ (wd_26 hw) e0 (d8_1 hby) (by decide) (by decide) (by decide) (by decide) (by decide) (pc' := 3) rfl ?_
 intro T20 h20 k20 b20 X20 e20 E20 g20 A20
 have ge21 : n0 ≤ b20 := Nat.le_trans Z0 (Nat.le_of_eq g20.symm)
 have sz22 : h0.size ≤ b20 := Nat.le_trans (Nat.le_refl _) (Nat.le_of_eq g20.symm)
 have K23 : Keep h0 h20 [] := (Keep.refl h0 []).ext E20
 have V24 : Arv Z h20 b20 k20 .byte (3 : Int32) [(.int (0 : Int32)), (.int (0 : Int32)), (.int (0 : Int32))] (.int (0 : Int32)) := (Arv.new A20 (by decide)).pad (pad_rep [] (.int (0 : Int32)) 3)
 refine w_astoreN X20 hx (d8_3 hby) rfl (L' := #[.val (.ref a0), .val (.int (0 : Int32)), .val (.int (3 : Int32)), .val (.ref b20), .unset, .unset]) rfl (pc' := 4) rfl ?_
 refine w_aloadN X20 hx (d8_4 hby) rfl rfl (pc' := 5) rfl ?_
 refine w_iloadN X20 hx (d8_5 hby) rfl (pc' := 6) rfl ?_
 refine w_aloadN X20 hx (d8_6 hby) rfl rfl (pc' := 7) rfl ?_
 refine w_iconst X20 hx (d8_7 hby) (v := (0 : Int32)) rfl (pc' := 8) rfl ?_
 refine w_iloadN X20 hx (d8_8 hby) rfl (pc' := 9) rfl ?_
 have f25 : Arv Z h20 a0 k_a0 .char (3 : Int32) [(.int jj0), (.int jj1), (.int jj2)] (.int (0 : Int32)) := (V_a0.ext E20)
 have ne26 : a0 ≠ b20 := (Nat.ne_of_lt (Nat.lt_of_lt_of_le V_a0.lt (Nat.le_trans (Nat.le_refl _) (Nat.le_of_eq g20.symm))))
 refine w_static X20 hx (y := yn_9) hown (mvT hZ (wd_42 hw)) (mvT hZ (wd_43 hw)) (mvT hZ (wd_40 hw)) (mvT hZ (wd_44 hw)) (by decide) (backOf (W := 0) (rm_m9_33 l Z aZ hw [] a0 b20 k_a0 jj0 jj1 jj2 k20 h20 n0 (Nat.le_trans Z0 E20.1) f25 V24 ge21 ne26) hZ (wd_44 hw) (wd_40 hw) (by decide) (by decide)) (by rw [hml]; rfl) [(.ref a0), (.int (0 : Int32)), (.ref b20), (.int (0 : Int32)), (.int (3 : Int32))] (lenOf pd_4 rfl) rfl (Nat.le_of_eq rfl) (d8_9 hby) (fun _ _ => ⟨rfl, e20, (by decide : 1 + 0 ≤ _), (by decide : 3 + 0 ≤ _)⟩) (pc' := 12) rfl ?_
 rintro _ _ ⟨T27, L27, k27, n27⟩ X27 ⟨Lc27, hQ27, l27, y27, z27⟩
 dsimp only [Pt.U, Pt.locs, Pt.cells, Pt.slots] at X27 l27 y27 z27 hQ27 ⊢
 rw [l27, y27, z27] at X27
 rcases hQ27 with ⟨rfl, N27q, K27, g27_0, g27_1, g27_2, g27_3⟩ | ⟨j_27, rfl, N27q, K27, g27_0, g27_1, g27_2⟩
 · have N28 := Fr.app N0 N27q
   have K29 : Keep h0 T27.heap [] := K23.trans K27 (allS (Or.inr sz22) (all0 (P := fun x => x ∈ [] ∨ h0.size ≤ x)))
   show Runs _ _ _ _ (T27.setTop (mkF m 12 #[.val (.ref a0), .val (.int (0 : Int32)), .val (.int (3 : Int32)), .val (.ref b20), .unset, .unset] [(.int (3 : Int32))]))
   refine w_istore X27 hx (d8_12 hby) (L' := #[.val (.ref a0), .val (.int (0 : Int32)), .val (.int (3 : Int32)), .val (.ref b20), .val (.int (3 : Int32)), .unset]) rfl (pc' := 14) rfl ?_
   refine w_iload X27 hx (d8_14 hby) rfl (pc' := 16) rfl ?_
   refine w_iloadN X27 hx (d8_16 hby) rfl (pc' := 17) rfl ?_
   refine w_icY X27 hx (d8_17 hby) (teq (by decide : (3 : Int32) = (3 : Int32))).1 (pc' := 57) (by decide) (by decide) ?_
   refine w_aloadN X27 hx (d8_57 hby) rfl rfl (pc' := 58) rfl ?_
   exact w_done X27 hlk (v := some (.ref b20)) rfl (fun h => by rw [hret] at h; cases h) (fun fs hr => retOut X27 hx hret rfl (Or.inr (Or.inr (Or.inr (Or.inr ⟨rfl, rfl, rfl⟩)))) (d8_58 hby) hr) (by decide) (by decide) (Or.inl ⟨b20, k20, rfl, N28, K29, sz22, g27_0, g27_1, g27_2, g27_3⟩)
 · have N30 := Fr.app N0 N27q
   have K31 : Keep h0 T27.heap [] := K23.trans K27 (allS (Or.inr sz22) (all0 (P := fun x => x ∈ [] ∨ h0.size ≤ x)))
   show Runs _ _ _ _ (T27.setTop (mkF m 12 #[.val (.ref a0), .val (.int (0 : Int32)), .val (.int (3 : Int32)), .val (.ref b20), .unset, .unset] [(.int j_27)]))
   refine w_istore X27 hx (d8_12 hby) (L' := #[.val (.ref a0), .val (.int (0 : Int32)), .val (.int (3 : Int32)), .val (.ref b20), .val (.int j_27), .unset]) rfl (pc' := 14) rfl ?_
   refine w_iload X27 hx (d8_14 hby) rfl (pc' := 16) rfl ?_
   refine w_iloadN X27 hx (d8_16 hby) rfl (pc' := 17) rfl ?_
   refine w_icN X27 hx (d8_17 hby) (feq (fun q => by have h9 := g27_1; rw [q] at h9; exact absurd h9 (by decide))).1 (pc' := 20) rfl ?_
   refine w_aloadN X27 hx (d8_20 hby) rfl rfl (pc' := 21) rfl ?_
   refine w_iloadN X27 hx (d8_21 hby) rfl (pc' := 22) rfl ?_
   refine w_iloadN X27 hx (d8_22 hby) rfl (pc' := 23) rfl ?_
   have f32 : Arv Z T27.heap a0 k_a0 .char (3 : Int32) [(.int jj0), (.int jj1), (.int jj2)] (.int (0 : Int32)) := (f25.keep K27 (ninS ne26 nin0))
   have f33 : Old Z n0 T27.heap := ((O0.ext E20).keep K27 (allS ge21 all0))
   have le34 : h0.size ≤ T27.heap.size := (Nat.le_trans E20.1 K27.1)
   refine w_static X27 hx (y := yn_11) hown (mvT hZ (wd_48 hw)) (mvT hZ (wd_49 hw)) (mvT hZ (wd_40 hw)) (mvT hZ (wd_50 hw)) (by decide) (backOf (W := 0) (rm_m11_34 l Z aZ hw [] a0 k_a0 jj0 jj1 jj2 T27.heap n0 (Nat.le_trans Z0 le34) f32 zz3 f33 zz4 zz5) hZ (wd_50 hw) (wd_40 hw) (by decide) (by decide)) (by rw [hml]; rfl) [(.ref a0), (.int (0 : Int32)), (.int (3 : Int32))] (lenOf pd_8 rfl) rfl (Nat.le_of_eq rfl) (d8_23 hby) (fun _ _ => ⟨rfl, rfl, (by decide : 1 + 1 ≤ _), (by decide : 3 + 6 ≤ _)⟩) (pc' := 26) rfl ?_
   rintro _ _ ⟨T35, L35, k35, n35⟩ X35 ⟨Lc35, hQ35, l35, y35, z35⟩
   dsimp only [Pt.U, Pt.locs, Pt.cells, Pt.slots] at X35 l35 y35 z35 hQ35 ⊢
   rw [l35, y35, z35] at X35
   obtain ⟨r0_35, c0_35, rfl, N35q, K35, g35_0, g35_1⟩ := hQ35
   have N36 := Fr.app N30 N35q
   have K37 : Keep h0 T35.heap [] := K31.trans K35 (all0 (P := fun x => x ∈ [] ∨ h0.size ≤ x))
   have ge38 : n0 ≤ r0_35 := Nat.le_trans (Nat.le_trans Z0 le34) g35_0
   have sz39 : h0.size ≤ r0_35 := Nat.le_trans le34 g35_0
   show Runs _ _ _ _ (T35.setTop (mkF m 26 #[.val (.ref a0), .val (.int (0 : Int32)), .val (.int (3 : Int32)), .val (.ref b20), .val (.int j_27), .unset] [(.ref r0_35)]))
   refine w_astore X35 hx (d8_26 hby) rfl (L' := #[.val (.ref a0), .val (.int (0 : Int32)), .val (.int (3 : Int32)), .val (.ref b20), .val (.int j_27), .val (.ref r0_35)]) rfl (pc' := 28) rfl ?_
   refine w_aload X35 hx (d8_28 hby) rfl rfl (pc' := 30) rfl ?_
   refine w_iload X35 hx (d8_30 hby) rfl (pc' := 32) rfl ?_
   have f42 : Old Z n0 T35.heap := (f33.keep K35 all0)
   have le43 : h0.size ≤ T35.heap.size := (Nat.le_trans le34 K35.1)
   refine w_static X35 hx (y := yn_15) hown (mvT hZ (wd_64 hw)) (mvT hZ (wd_65 hw)) (mvT hZ (wd_40 hw)) (mvT hZ (wd_66 hw)) (by decide) (backOf (W := 0) (rm_m15_40 l Z aZ hw [] r0_35 j_27 c0_35 ((jj0 >>> ((0 : Int32) &&& 31)).toInt8.toInt32) ((jj0 >>> ((8 : Int32) &&& 31)).toInt8.toInt32) ((jj1 >>> ((0 : Int32) &&& 31)).toInt8.toInt32) ((jj1 >>> ((8 : Int32) &&& 31)).toInt8.toInt32) ((jj2 >>> ((0 : Int32) &&& 31)).toInt8.toInt32) ((jj2 >>> ((8 : Int32) &&& 31)).toInt8.toInt32) T35.heap n0 (Nat.le_trans Z0 le43) zz3 f42 g35_1 g27_0 g27_1 zz4 zz5) hZ (wd_66 hw) (wd_40 hw) (by decide) (by decide)) (by rw [hml]; rfl) [(.ref r0_35), (.int j_27)] (lenOf pd_9 rfl) rfl (Nat.le_of_eq rfl) (d8_32 hby) (fun _ _ => ⟨rfl, rfl, (by decide : 2 + 0 ≤ _), (by decide : 9 + 0 ≤ _)⟩) (pc' := 35) rfl ?_
   rintro _ _ ⟨T44, L44, k44, n44⟩ X44 ⟨Lc44, hQ44, l44, y44, z44⟩
   dsimp only [Pt.U, Pt.locs, Pt.cells, Pt.slots] at X44 l44 y44 z44 hQ44 ⊢
   rw [l44, y44, z44] at X44
   obtain ⟨rfl, N44q, e44⟩ := hQ44
   have N45 := Fr.app N36 N44q
   show Runs _ _ _ _ (T44.setTop (mkF m 35 #[.val (.ref a0), .val (.int (0 : Int32)), .val (.int (3 : Int32)), .val (.ref b20), .val (.int j_27), .val (.ref r0_35)] [(.int (((((gI [((jj0 >>> ((0 : Int32) &&& 31)).toInt8.toInt32), ((jj0 >>> ((8 : Int32) &&& 31)).toInt8.toInt32), ((jj1 >>> ((0 : Int32) &&& 31)).toInt8.toInt32), ((jj1 >>> ((8 : Int32) &&& 31)).toInt8.toInt32), ((jj2 >>> ((0 : Int32) &&& 31)).toInt8.toInt32), ((jj2 >>> ((8 : Int32) &&& 31)).toInt8.toInt32)] (j_27 <<< ((1 : Int32) &&& 31))) &&& (255 : Int32)) <<< ((0 : Int32) &&& 31)) ||| (((gI [((jj0 >>> ((0 : Int32) &&& 31)).toInt8.toInt32), ((jj0 >>> ((8 : Int32) &&& 31)).toInt8.toInt32), ((jj1 >>> ((0 : Int32) &&& 31)).toInt8.toInt32), ((jj1 >>> ((8 : Int32) &&& 31)).toInt8.toInt32), ((jj2 >>> ((0 : Int32) &&& 31)).toInt8.toInt32), ((jj2 >>> ((8 : Int32) &&& 31)).toInt8.toInt32)] ((j_27 <<< ((1 : Int32) &&& 31)) + (1 : Int32))) &&& (255 : Int32)) <<< ((8 : Int32) &&& 31))).toUInt32.toUInt16.toUInt32.toInt32))]))
   refine w_sipush X44 hx (d8_35 hby) (v := (255 : Int32)) rfl (pc' := 38) rfl ?_
   refine w_icY X44 hx (d8_38 hby) (tlt (show (255 : Int32) < (((((gI [((jj0 >>> ((0 : Int32) &&& 31)).toInt8.toInt32), ((jj0 >>> ((8 : Int32) &&& 31)).toInt8.toInt32), ((jj1 >>> ((0 : Int32) &&& 31)).toInt8.toInt32), ((jj1 >>> ((8 : Int32) &&& 31)).toInt8.toInt32), ((jj2 >>> ((0 : Int32) &&& 31)).toInt8.toInt32), ((jj2 >>> ((8 : Int32) &&& 31)).toInt8.toInt32)] (j_27 <<< ((1 : Int32) &&& 31))) &&& (255 : Int32)) <<< ((0 : Int32) &&& 31)) ||| (((gI [((jj0 >>> ((0 : Int32) &&& 31)).toInt8.toInt32), ((jj0 >>> ((8 : Int32) &&& 31)).toInt8.toInt32), ((jj1 >>> ((0 : Int32) &&& 31)).toInt8.toInt32), ((jj1 >>> ((8 : Int32) &&& 31)).toInt8.toInt32), ((jj2 >>> ((0 : Int32) &&& 31)).toInt8.toInt32), ((jj2 >>> ((8 : Int32) &&& 31)).toInt8.toInt32)] ((j_27 <<< ((1 : Int32) &&& 31)) + (1 : Int32))) &&& (255 : Int32)) <<< ((8 : Int32) &&& 31))).toUInt32.toUInt16.toUInt32.toInt32) from by rw [own_uj3 g27_0 g27_1 zz6 zz7 zz8]; exact g27_2)).2.2.1 (pc' := 54) (by decide) (by decide) ?_
   refine w_aload X44 hx (d8_54 hby) rfl rfl (pc' := 56) rfl ?_
   exact w_done X44 hlk (v := some (.ref r0_35)) e44 (fun h => by rw [hret] at h; cases h) (fun fs hr => retOut X44 hx hret rfl (Or.inr (Or.inr (Or.inr (Or.inr ⟨rfl, rfl, rfl⟩)))) (d8_56 hby) hr) (by decide) (by decide) (Or.inr (⟨r0_35, c0_35, rfl, N45, K37, sz39, g35_1, (own_or3 g27_0 g27_1 g27_2)⟩))
theorem ef_m10_41 (m : MethodId) (a0 : Addr)  : entryFrame m #[(.ref a0), (.int (3 : Int32))] 2 = mkF m 0 #[.val (.ref a0), .val (.int (3 : Int32))] [] := by first | (simp [entryFrame, mkF, argsToLocals, Value.category]; done) | rfl
def Q_m10_41 (Z : State) (a0 : Addr) (k_a0 : ClassId) (jj0 : Int32) (jj1 : Int32) (jj2 : Int32) (h0 : Heap) (n0 : Nat) (v : Option Value) (h : Heap) (L : List Loc) : Prop := v = some (.int (0 : Int32)) ∧ Fr n0 L ∧ h = h0
theorem rm_m10_41 (l : Launch) (Z : State) (aZ : Array Value) (hw : ∀ d ∈ tables_1, d.before aZ Z = true) (ws : List Jvm.Cond) (a0 : Addr) (k_a0 : ClassId) (jj0 : Int32) (jj1 : Int32) (jj2 : Int32) (h0 : Heap) (n0 : Nat) (Z0 : n0 ≤ h0.size) (V_a0 : Arv Z h0 a0 k_a0 .byte (3 : Int32) [(.int jj0), (.int jj1), (.int jj2)] (.int (0 : Int32))) :
    MetN l Z yn_10 jdk_52_method_15_code 2 (some .byte) ws ({ frames := 0, cells := 0, slots := 0, locals := 0 } : Room) #[(.ref a0), (.int (3 : Int32))] h0 (Q_m10_41 Z a0 k_a0 jj0 jj1 jj2 h0 n0) := by
 refine MetN.of (plainFor_of_name pn_3) ?_
 intro p e s m below meth c s₁ hret hx hby hml hown hnm hlk hZ X0 e0
 have N0 := Fr.nil n0
 rw [ef_m10_41 m a0]
 refine w_iloadN X0 hx (d10_0 hby) rfl (pc' := 1) rfl ?_
 refine w_aloadN X0 hx (d10_1 hby) rfl rfl (pc' := 2) rfl ?_
 refine w_alen X0 hx hZ e0 V_a0 (d10_2 hby) (pc' := 3) rfl ?_
 refine w_isub X0 hx (d10_3 hby) (pc' := 4) rfl ?_
 rw [show ((3 : Int32) - (3 : Int32)) = (0 : Int32) from by decide]
 refine w_bipush X0 hx (d10_4 hby) (v := (31 : Int32)) rfl (pc' := 6) rfl ?_
 refine w_iushr X0 hx (d10_6 hby) (pc' := 7) rfl ?_
 rw [show (((0 : Int32).toUInt32 >>> ((31 : Int32) &&& 31).toUInt32).toInt32) = (0 : Int32) from by decide]
 refine w_i2b X0 hx (d10_7 hby) (pc' := 8) rfl ?_
 rw [show ((0 : Int32).toInt8.toInt32) = (0 : Int32) from by decide]
 exact w_done X0 hlk (v := some (.int (0 : Int32))) e0 (fun h => by rw [hret] at h; cases h) (fun fs hr => retN X0 hx (t := .byte) hret (by simp) (d10_8 hby) hr) (by decide) (by decide) (⟨rfl, N0, rfl⟩)
theorem ef_m10_42 (m : MethodId) (a0 : Addr)  : entryFrame m #[(.ref a0), (.int (3 : Int32))] 2 = mkF m 0 #[.val (.ref a0), .val (.int (3 : Int32))] [] := by first | (simp [entryFrame, mkF, argsToLocals, Value.category]; done) | rfl
def Q_m10_42 (Z : State) (a0 : Addr) (k_a0 : ClassId) (jj0 : Int32) (jj1 : Int32) (jj2 : Int32) (jj3 : Int32) (jj4 : Int32) (jj5 : Int32) (h0 : Heap) (n0 : Nat) (v : Option Value) (h : Heap) (L : List Loc) : Prop := v = some (.int (1 : Int32)) ∧ Fr n0 L ∧ h = h0
theorem rm_m10_42 (l : Launch) (Z : State) (aZ : Array Value) (hw : ∀ d ∈ tables_1, d.before aZ Z = true) (ws : List Jvm.Cond) (a0 : Addr) (k_a0 : ClassId) (jj0 : Int32) (jj1 : Int32) (jj2 : Int32) (jj3 : Int32) (jj4 : Int32) (jj5 : Int32) (h0 : Heap) (n0 : Nat) (Z0 : n0 ≤ h0.size) (V_a0 : Arv Z h0 a0 k_a0 .byte (6 : Int32) [(.int jj0), (.int jj1), (.int jj2), (.int jj3), (.int jj4), (.int jj5)] (.int (0 : Int32))) :
    MetN l Z yn_10 jdk_52_method_15_code 2 (some .byte) ws ({ frames := 0, cells := 0, slots := 0, locals := 0 } : Room) #[(.ref a0), (.int (3 : Int32))] h0 (Q_m10_42 Z a0 k_a0 jj0 jj1 jj2 jj3 jj4 jj5 h0 n0) := by
 refine MetN.of (plainFor_of_name pn_3) ?_
 intro p e s m below meth c s₁ hret hx hby hml hown hnm hlk hZ X0 e0
 have N0 := Fr.nil n0
 rw [ef_m10_42 m a0]
 refine w_iloadN X0 hx (d10_0 hby) rfl (pc' := 1) rfl ?_
 refine w_aloadN X0 hx (d10_1 hby) rfl rfl (pc' := 2) rfl ?_
 refine w_alen X0 hx hZ e0 V_a0 (d10_2 hby) (pc' := 3) rfl ?_
 refine w_isub X0 hx (d10_3 hby) (pc' := 4) rfl ?_
 rw [show ((3 : Int32) - (6 : Int32)) = (-3 : Int32) from by decide]
 refine w_bipush X0 hx (d10_4 hby) (v := (31 : Int32)) rfl (pc' := 6) rfl ?_
 refine w_iushr X0 hx (d10_6 hby) (pc' := 7) rfl ?_
 rw [show (((-3 : Int32).toUInt32 >>> ((31 : Int32) &&& 31).toUInt32).toInt32) = (1 : Int32) from by decide]
 refine w_i2b X0 hx (d10_7 hby) (pc' := 8) rfl ?_
 rw [show ((1 : Int32).toInt8.toInt32) = (1 : Int32) from by decide]
 exact w_done X0 hlk (v := some (.int (1 : Int32))) e0 (fun h => by rw [hret] at h; cases h) (fun fs hr => retN X0 hx (t := .byte) hret (by simp) (d10_8 hby) hr) (by decide) (by decide) (⟨rfl, N0, rfl⟩)
theorem ef_m5_31 (m : MethodId) (a0 : Addr) (a1 : Addr)  : entryFrame m #[(.ref a0), (.ref a1), (.int (0 : Int32)), (.int (3 : Int32)), .null] 6 = mkF m 0 #[.val (.ref a0), .val (.ref a1), .val (.int (0 : Int32)), .val (.int (3 : Int32)), .val .null, .unset] [] := by first | (simp [entryFrame, mkF, argsToLocals, Value.category]; done) | rfl
def Q_m5_31 (Z : State) (a0 : Addr) (a1 : Addr) (jj0 : Int32) (k_a1 : ClassId) (jj1 : Int32) (jj2 : Int32) (jj3 : Int32) (h0 : Heap) (n0 : Nat) (v : Option Value) (h : Heap) (L : List Loc) : Prop := (∃ (t : Addr) (kb : ClassId), v = none ∧ Fr n0 L ∧ Keep h0 h [a0] ∧ Exa Z h a0 kc0 ∧ Fld Z h a0 kc0 "coder" "B" (.int (0 : Int32)) ∧ Fld Z h a0 kc0 "value" "[B" (.ref t) ∧ h0.size ≤ t ∧ Arv Z h t kb .byte (3 : Int32) [(.int (jj1.toInt8.toInt32)), (.int (jj2.toInt8.toInt32)), (.int (jj3.toInt8.toInt32))] (.int (0 : Int32)) ∧ ¬ ((255 : Int32) < jj1) ∧ ¬ ((255 : Int32) < jj2) ∧ ¬ ((255 : Int32) < jj3)) ∨ (∃ (t : Addr) (kb : ClassId), v = none ∧ Fr n0 L ∧ Keep h0 h [a0] ∧ Exa Z h a0 kc0 ∧ Fld Z h a0 kc0 "coder" "B" (.int (1 : Int32)) ∧ Fld Z h a0 kc0 "value" "[B" (.ref t) ∧ h0.size ≤ t ∧ Arv Z h t kb .byte (6 : Int32) [(.int ((jj1 >>> ((0 : Int32) &&& 31)).toInt8.toInt32)), (.int ((jj1 >>> ((8 : Int32) &&& 31)).toInt8.toInt32)), (.int ((jj2 >>> ((0 : Int32) &&& 31)).toInt8.toInt32)), (.int ((jj2 >>> ((8 : Int32) &&& 31)).toInt8.toInt32)), (.int ((jj3 >>> ((0 : Int32) &&& 31)).toInt8.toInt32)), (.int ((jj3 >>> ((8 : Int32) &&& 31)).toInt8.toInt32))] (.int (0 : Int32)) ∧ ((255 : Int32) < jj1 ∨ (255 : Int32) < jj2 ∨ (255 : Int32) < jj3))
theorem rm_m5_31 (l : Launch) (Z : State) (aZ : Array Value) (hw : ∀ d ∈ tables_1, d.before aZ Z = true) (ws : List Jvm.Cond) (a0 : Addr) (a1 : Addr) (jj0 : Int32) (k_a1 : ClassId) (jj1 : Int32) (jj2 : Int32) (jj3 : Int32) (h0 : Heap) (n0 : Nat) (Z0 : n0 ≤ h0.size) (zz4 : Sta Z Z.heap kc0 "COMPACT_STRINGS" "Z" (.int jj0)) (O0 : Old Z n0 h0) (hP_2 : ¬ (jj0 = (0 : Int32))) (V_a1 : Arv Z h0 a1 k_a1 .char (3 : Int32) [(.int jj1), (.int jj2), (.int jj3)] (.int (0 : Int32))) (zz5 : nar .char jj1 = jj1) (zz6 : nar .char jj2 = jj2) (zz7 : nar .char jj3 = jj3) (zz8 : Sta Z Z.heap kc1 "$assertionsDisabled" "Z" (.int (1 : Int32))) (zz9 : Sta Z Z.heap kc1 "HI_BYTE_SHIFT" "I" (.int (0 : Int32))) (zz10 : Sta Z Z.heap kc1 "LO_BYTE_SHIFT" "I" (.int (8 : Int32))) (E_a0 : Exa Z h0 a0 kc0) (zz11 : Fld Z h0 a0 kc0 "coder" "B" (.int (0 : Int32))) (zz12 : n0 ≤ a0) (zz13 : Fld Z h0 a0 kc0 "value" "[B" .null) :
    MetN l Z yn_5 jdk_42_method_149_code 6 none ws ({ frames := 4, cells := 2, slots := 9, locals := 57 } : Room) #[(.ref a0), (.ref a1), (.int (0 : Int32)), (.int (3 : Int32)), .null] h0 (Q_m5_31 Z a0 a1 jj0 k_a1 jj1 jj2 jj3 h0 n0) := by
 refine MetN.of (plainFor_of_name pn_2) ?_
 intro p e s m below meth c s₁ hret hx hby hml hown hnm hlk hZ X0 e0
 have N0 := Fr.nil n0
 rw [ef_m5_31 m a0 a1]
 refine w_aloadN X0 hx (d5_0 hby) rfl rfl (pc' := 1) rfl ?_
 refine w_initO X0 hx 0 hZ hown (wd_22 hw) (wd_23 hw) (wd_24 hw) e0 (by rw [hml]; rfl) (d5_1 hby) (by decide) (Nat.le_of_eq rfl) (by decide) (pc' := 4) rfl ?_
 intro T20 X20 e20
 refine w_iloadN X20 hx (d5_4 hby) rfl (pc' := 5) rfl ?_
 refine w_ifY X20 hx (d5_5 hby) (feq (by decide : ¬ ((3 : Int32) = (0 : Int32)))).2 (pc' := 27) (by decide) (by decide) ?_
 refine w_getS X20 hx "" hZ hown (Or.inl (wd_37 hw)) Via.refl e20 (zz4.ext O0.2) (d5_27 hby) (pc' := 30) rfl ?_
 intro T21 X21 e21
 refine w_ifN X21 hx (d5_30 hby) (feq hP_2).1 (pc' := 33) rfl ?_
 refine w_aloadN X21 hx (d5_33 hby) rfl rfl (pc' := 34) rfl ?_
 refine w_iloadN X21 hx (d5_34 hby) rfl (pc' := 35) rfl ?_
 refine w_iloadN X21 hx (d5_35 hby) rfl (pc' := 36) rfl ?_
 refine w_static X21 hx (y := yn_8) hown (mvT hZ (wd_38 hw)) (mvT hZ (wd_39 hw)) (mvT hZ (wd_40 hw)) (mvT hZ (wd_41 hw)) (by decide) (backOf (W := 0) (rm_m8_32 l Z aZ hw [] a1 k_a1 jj1 jj2 jj3 h0 n0 Z0 V_a1 zz8 O0 zz9 zz10 zz5 zz6 zz7) hZ (wd_41 hw) (wd_40 hw) (by decide) (by decide)) (by rw [hml]; rfl) [(.ref a1), (.int (0 : Int32)), (.int (3 : Int32))] (lenOf pd_8 rfl) rfl (Nat.le_of_eq rfl) (d5_36 hby) (fun _ _ => ⟨rfl, e21, (by decide : 0 + 2 ≤ _), (by decide : 0 + 9 ≤ _)⟩) (pc' := 39) rfl ?_
 rintro _ _ ⟨T22, L22, k22, n22⟩ X22 ⟨Lc22, hQ22, l22, y22, z22⟩
 dsimp only [Pt.U, Pt.locs, Pt.cells, Pt.slots] at X22 l22 y22 z22 hQ22 ⊢
 rw [l22, y22, z22] at X22
 rcases hQ22 with ⟨t_22, kb_22, rfl, N22q, K22, g22_0, g22_1, g22_2, g22_3, g22_4⟩ | ⟨t_22, kb_22, rfl, N22q, K22, g22_0, g22_1, g22_2⟩
 · have N23 := Fr.app N0 N22q
   have K24 : Keep h0 T22.heap [a0] := (Keep.refl h0 [a0]).trans K22 (all0 (P := fun x => x ∈ [a0] ∨ h0.size ≤ x))
   have ge25 : n0 ≤ t_22 := Nat.le_trans Z0 g22_0
   have sz26 : h0.size ≤ t_22 := Nat.le_trans (Nat.le_refl _) g22_0
   show Runs _ _ _ _ (T22.setTop (mkF m 39 #[.val (.ref a0), .val (.ref a1), .val (.int (0 : Int32)), .val (.int (3 : Int32)), .val .null, .unset] [(.ref t_22)]))
   refine w_astore X22 hx (d5_39 hby) rfl (L' := #[.val (.ref a0), .val (.ref a1), .val (.int (0 : Int32)), .val (.int (3 : Int32)), .val .null, .val (.ref t_22)]) rfl (pc' := 41) rfl ?_
   refine w_aloadN X22 hx (d5_41 hby) rfl rfl (pc' := 42) rfl ?_
   refine w_aload X22 hx (d5_42 hby) rfl rfl (pc' := 44) rfl ?_
   refine w_iloadN X22 hx (d5_44 hby) rfl (pc' := 45) rfl ?_
   refine w_static X22 hx (y := yn_10) hown (mvT hZ (wd_45 hw)) (mvT hZ (wd_46 hw)) (mvT hZ (wd_40 hw)) (mvT hZ (wd_47 hw)) (by decide) (backOf (W := 1) (rm_m10_41 l Z aZ hw [] t_22 kb_22 (jj1.toInt8.toInt32) (jj2.toInt8.toInt32) (jj3.toInt8.toInt32) T22.heap n0 (Nat.le_trans Z0 K22.1) g22_1) hZ (wd_47 hw) (wd_40 hw) (by decide) (by decide)) (by rw [hml]; rfl) [(.ref t_22), (.int (3 : Int32))] (lenOf pd_10 rfl) rfl (Nat.le_of_eq rfl) (d5_45 hby) (fun _ _ => ⟨rfl, rfl, (by decide : 2 + 0 ≤ _), (by decide : 9 + 0 ≤ _)⟩) (pc' := 48) rfl ?_
   rintro _ _ ⟨T27, L27, k27, n27⟩ X27 ⟨Lc27, hQ27, l27, y27, z27⟩
   dsimp only [Pt.U, Pt.locs, Pt.cells, Pt.slots] at X27 l27 y27 z27 hQ27 ⊢
   rw [l27, y27, z27] at X27
   obtain ⟨rfl, N27q, e27⟩ := hQ27
   have N28 := Fr.app N23 N27q
   show Runs _ _ _ _ (T27.setTop (mkF m 48 #[.val (.ref a0), .val (.ref a1), .val (.int (0 : Int32)), .val (.int (3 : Int32)), .val .null, .val (.ref t_22)] [(.int (0 : Int32)), (.ref a0)]))
   have f29 : Exa Z T22.heap a0 kc0 := (E_a0.keep K22)
   have f30 : Fld Z T22.heap a0 kc0 "coder" "B" (.int (0 : Int32)) := (zz11.keep K22 nin0)
   refine w_putF X27 hx "" hZ hown (Or.inl (wd_32 hw)) Via.refl e27 f30 f29 (Or.inr ⟨(wd_28 hw), rfl, hnm⟩) (wd_13 hw) (ty := .byte) (by decide) rfl rfl (d5_48 hby) (pc' := 51) rfl ?_
   intro T31 h31 X31 e31 W31
   have f32 : Fld Z h31 a0 kc0 "coder" "B" (.int (0 : Int32)) := f30.same W31
   have K33 : Keep h0 h31 [a0] := K24.wr W31 (Or.inl (by simp))
   have N34 := Fr.snoc X31 N28 zz12
   refine w_aloadN X31 hx (d5_51 hby) rfl rfl (pc' := 52) rfl ?_
   refine w_aload X31 hx (d5_52 hby) rfl rfl (pc' := 54) rfl ?_
   have f35 : Exa Z h31 a0 kc0 := (f29.wr W31)
   have f36 : Fld Z h31 a0 kc0 "value" "[B" .null := ((zz13.keep K22 nin0).other W31 (Or.inr (slot_ne (Or.inr (wd_27 hw)) (Or.inr (wd_28 hw)) (by decide) (t := (.array .byte)) (t' := .byte) (by decide) (by decide))))
   refine w_putF X31 hx "" hZ hown (Or.inl (wd_31 hw)) Via.refl e31 f36 f35 (Or.inr ⟨(wd_27 hw), rfl, hnm⟩) (wd_13 hw) (ty := (.array .byte)) (by decide) rfl rfl (d5_54 hby) (pc' := 57) rfl ?_
   intro T37 h37 X37 e37 W37
   have f38 : Fld Z h37 a0 kc0 "value" "[B" (.ref t_22) := f36.same W37
   have K39 : Keep h0 h37 [a0] := K33.wr W37 (Or.inl (by simp))
   have N40 := Fr.snoc X37 N34 zz12
   have f41 : Exa Z h37 a0 kc0 := (f35.wr W37)
   have f42 : Fld Z h37 a0 kc0 "coder" "B" (.int (0 : Int32)) := (f32.other W37 (Or.inr (slot_ne (Or.inr (wd_28 hw)) (Or.inr (wd_27 hw)) (by decide) (t := .byte) (t' := (.array .byte)) (by decide) (by decide))))
   have ne43 : a0 ≠ t_22 := (Nat.ne_of_lt (Nat.lt_of_lt_of_le E_a0.lt (Nat.le_trans (Nat.le_refl _) g22_0)))
   have f44 : Arv Z h37 t_22 kb_22 .byte (3 : Int32) [(.int (jj1.toInt8.toInt32)), (.int (jj2.toInt8.toInt32)), (.int (jj3.toInt8.toInt32))] (.int (0 : Int32)) := ((g22_1.other W31 (Ne.symm ne43)).other W37 (Ne.symm ne43))
   exact w_done X37 hlk (v := none) e37 (fun _ => rfl) (fun fs hr => X37.returnOut hx hret (d5_57 hby) hr) (by decide) (by decide) (Or.inl ⟨t_22, kb_22, rfl, N40, K39, f41, f42, f38, sz26, f44, g22_2, g22_3, g22_4⟩)
 · have N45 := Fr.app N0 N22q
   have K46 : Keep h0 T22.heap [a0] := (Keep.refl h0 [a0]).trans K22 (all0 (P := fun x => x ∈ [a0] ∨ h0.size ≤ x))
   have ge47 : n0 ≤ t_22 := Nat.le_trans Z0 g22_0
   have sz48 : h0.size ≤ t_22 := Nat.le_trans (Nat.le_refl _) g22_0
   show Runs _ _ _ _ (T22.setTop (mkF m 39 #[.val (.ref a0), .val (.ref a1), .val (.int (0 : Int32)), .val (.int (3 : Int32)), .val .null, .unset] [(.ref t_22)]))
   refine w_astore X22 hx (d5_39 hby) rfl (L' := #[.val (.ref a0), .val (.ref a1), .val (.int (0 : Int32)), .val (.int (3 : Int32)), .val .null, .val (.ref t_22)]) rfl (pc' := 41) rfl ?_
   refine w_aloadN X22 hx (d5_41 hby) rfl rfl (pc' := 42) rfl ?_
   refine w_aload X22 hx (d5_42 hby) rfl rfl (pc' := 44) rfl ?_
   refine w_iloadN X22 hx (d5_44 hby) rfl (pc' := 45) rfl ?_
   refine w_static X22 hx (y := yn_10) hown (mvT hZ (wd_45 hw)) (mvT hZ (wd_46 hw)) (mvT hZ (wd_40 hw)) (mvT hZ (wd_47 hw)) (by decide) (backOf (W := 1) (rm_m10_42 l Z aZ hw [] t_22 kb_22 ((jj1 >>> ((0 : Int32) &&& 31)).toInt8.toInt32) ((jj1 >>> ((8 : Int32) &&& 31)).toInt8.toInt32) ((jj2 >>> ((0 : Int32) &&& 31)).toInt8.toInt32) ((jj2 >>> ((8 : Int32) &&& 31)).toInt8.toInt32) ((jj3 >>> ((0 : Int32) &&& 31)).toInt8.toInt32) ((jj3 >>> ((8 : Int32) &&& 31)).toInt8.toInt32) T22.heap n0 (Nat.le_trans Z0 K22.1) g22_1) hZ (wd_47 hw) (wd_40 hw) (by decide) (by decide)) (by rw [hml]; rfl) [(.ref t_22), (.int (3 : Int32))] (lenOf pd_10 rfl) rfl (Nat.le_of_eq rfl) (d5_45 hby) (fun _ _ => ⟨rfl, rfl, (by decide : 2 + 0 ≤ _), (by decide : 9 + 0 ≤ _)⟩) (pc' := 48) rfl ?_
   rintro _ _ ⟨T49, L49, k49, n49⟩ X49 ⟨Lc49, hQ49, l49, y49, z49⟩
   dsimp only [Pt.U, Pt.locs, Pt.cells, Pt.slots] at X49 l49 y49 z49 hQ49 ⊢
   rw [l49, y49, z49] at X49
   obtain ⟨rfl, N49q, e49⟩ := hQ49
   have N50 := Fr.app N45 N49q
   show Runs _ _ _ _ (T49.setTop (mkF m 48 #[.val (.ref a0), .val (.ref a1), .val (.int (0 : Int32)), .val (.int (3 : Int32)), .val .null, .val (.ref t_22)] [(.int (1 : Int32)), (.ref a0)]))
   have f51 : Exa Z T22.heap a0 kc0 := (E_a0.keep K22)
   have f52 : Fld Z T22.heap a0 kc0 "coder" "B" (.int (0 : Int32)) := (zz11.keep K22 nin0)
   refine w_putF X49 hx "" hZ hown (Or.inl (wd_32 hw)) Via.refl e49 f52 f51 (Or.inr ⟨(wd_28 hw), rfl, hnm⟩) (wd_13 hw) (ty := .byte) (by decide) rfl rfl (d5_48 hby) (pc' := 51) rfl ?_
   intro T53 h53 X53 e53 W53
   have f54 : Fld Z h53 a0 kc0 "coder" "B" (.int (1 : Int32)) := f52.same W53
   have K55 : Keep h0 h53 [a0] := K46.wr W53 (Or.inl (by simp))
   have N56 := Fr.snoc X53 N50 zz12
   refine w_aloadN X53 hx (d5_51 hby) rfl rfl (pc' := 52) rfl ?_
   refine w_aload X53 hx (d5_52 hby) rfl rfl (pc' := 54) rfl ?_
   have f57 : Exa Z h53 a0 kc0 := (f51.wr W53)
   have f58 : Fld Z h53 a0 kc0 "value" "[B" .null := ((zz13.keep K22 nin0).other W53 (Or.inr (slot_ne (Or.inr (wd_27 hw)) (Or.inr (wd_28 hw)) (by decide) (t := (.array .byte)) (t' := .byte) (by decide) (by decide))))
   refine w_putF X53 hx "" hZ hown (Or.inl (wd_31 hw)) Via.refl e53 f58 f57 (Or.inr ⟨(wd_27 hw), rfl, hnm⟩) (wd_13 hw) (ty := (.array .byte)) (by decide) rfl rfl (d5_54 hby) (pc' := 57) rfl ?_
   intro T59 h59 X59 e59 W59
   have f60 : Fld Z h59 a0 kc0 "value" "[B" (.ref t_22) := f58.same W59
   have K61 : Keep h0 h59 [a0] := K55.wr W59 (Or.inl (by simp))
   have N62 := Fr.snoc X59 N56 zz12
   have f64 : Exa Z h59 a0 kc0 := (f57.wr W59)
   have f65 : Fld Z h59 a0 kc0 "coder" "B" (.int (1 : Int32)) := (f54.other W59 (Or.inr (slot_ne (Or.inr (wd_28 hw)) (Or.inr (wd_27 hw)) (by decide) (t := .byte) (t' := (.array .byte)) (by decide) (by decide))))
   have ne66 : a0 ≠ t_22 := (Nat.ne_of_lt (Nat.lt_of_lt_of_le E_a0.lt (Nat.le_trans (Nat.le_refl _) g22_0)))
   have f67 : Arv Z h59 t_22 kb_22 .byte (6 : Int32) [(.int ((jj1 >>> ((0 : Int32) &&& 31)).toInt8.toInt32)), (.int ((jj1 >>> ((8 : Int32) &&& 31)).toInt8.toInt32)), (.int ((jj2 >>> ((0 : Int32) &&& 31)).toInt8.toInt32)), (.int ((jj2 >>> ((8 : Int32) &&& 31)).toInt8.toInt32)), (.int ((jj3 >>> ((0 : Int32) &&& 31)).toInt8.toInt32)), (.int ((jj3 >>> ((8 : Int32) &&& 31)).toInt8.toInt32))] (.int (0 : Int32)) := ((g22_1.other W53 (Ne.symm ne66)).other W59 (Ne.symm ne66))
   exact w_done X59 hlk (v := none) e59 (fun _ => rfl) (fun fs hr => X59.returnOut hx hret (d5_57 hby) hr) (by decide) (by decide) (Or.inr (⟨t_22, kb_22, rfl, N62, K61, f64, f65, f60, sz48, f67, g22_2⟩))
theorem ef_m4_30 (m : MethodId) (a0 : Addr) (a1 : Addr)  : entryFrame m #[(.ref a0), (.ref a1)] 2 = mkF m 0 #[.val (.ref a0), .val (.ref a1)] [] := by first | (simp [entryFrame, mkF, argsToLocals, Value.category]; done) | rfl
def Q_m4_30 (Z : State) (a0 : Addr) (a1 : Addr) (k_a1 : ClassId) (jj0 : Int32) (jj1 : Int32) (jj2 : Int32) (jj3 : Int32) (h0 : Heap) (n0 : Nat) (v : Option Value) (h : Heap) (L : List Loc) : Prop := (∃ (t : Addr) (kb : ClassId), v = none ∧ Fr n0 L ∧ Keep h0 h [a0] ∧ Exa Z h a0 kc0 ∧ Fld Z h a0 kc0 "coder" "B" (.int (0 : Int32)) ∧ Fld Z h a0 kc0 "value" "[B" (.ref t) ∧ h0.size ≤ t ∧ Arv Z h t kb .byte (3 : Int32) [(.int (jj0.toInt8.toInt32)), (.int (jj1.toInt8.toInt32)), (.int (jj2.toInt8.toInt32))] (.int (0 : Int32)) ∧ ¬ ((255 : Int32) < jj0) ∧ ¬ ((255 : Int32) < jj1) ∧ ¬ ((255 : Int32) < jj2)) ∨ (∃ (t : Addr) (kb : ClassId), v = none ∧ Fr n0 L ∧ Keep h0 h [a0] ∧ Exa Z h a0 kc0 ∧ Fld Z h a0 kc0 "coder" "B" (.int (1 : Int32)) ∧ Fld Z h a0 kc0 "value" "[B" (.ref t) ∧ h0.size ≤ t ∧ Arv Z h t kb .byte (6 : Int32) [(.int ((jj0 >>> ((0 : Int32) &&& 31)).toInt8.toInt32)), (.int ((jj0 >>> ((8 : Int32) &&& 31)).toInt8.toInt32)), (.int ((jj1 >>> ((0 : Int32) &&& 31)).toInt8.toInt32)), (.int ((jj1 >>> ((8 : Int32) &&& 31)).toInt8.toInt32)), (.int ((jj2 >>> ((0 : Int32) &&& 31)).toInt8.toInt32)), (.int ((jj2 >>> ((8 : Int32) &&& 31)).toInt8.toInt32))] (.int (0 : Int32)) ∧ ((255 : Int32) < jj0 ∨ (255 : Int32) < jj1 ∨ (255 : Int32) < jj2))
theorem rm_m4_30 (l : Launch) (Z : State) (aZ : Array Value) (hw : ∀ d ∈ tables_1, d.before aZ Z = true) (ws : List Jvm.Cond) (a0 : Addr) (a1 : Addr) (k_a1 : ClassId) (jj0 : Int32) (jj1 : Int32) (jj2 : Int32) (jj3 : Int32) (h0 : Heap) (n0 : Nat) (Z0 : n0 ≤ h0.size) (V_a1 : Arv Z h0 a1 k_a1 .char (3 : Int32) [(.int jj0), (.int jj1), (.int jj2)] (.int (0 : Int32))) (hP_1 : ¬ (jj3 = (0 : Int32))) (zz4 : nar .char jj0 = jj0) (zz5 : nar .char jj1 = jj1) (zz6 : nar .char jj2 = jj2) (E_a0 : Exa Z h0 a0 kc0) (zz7 : Fld Z h0 a0 kc0 "coder" "B" (.int (0 : Int32))) (zz8 : Fld Z h0 a0 kc0 "value" "[B" .null) (zz9 : Sta Z Z.heap kc0 "COMPACT_STRINGS" "Z" (.int jj3)) (O0 : Old Z n0 h0) (zz10 : Sta Z Z.heap kc1 "$assertionsDisabled" "Z" (.int (1 : Int32))) (zz11 : Sta Z Z.heap kc1 "HI_BYTE_SHIFT" "I" (.int (0 : Int32))) (zz12 : Sta Z Z.heap kc1 "LO_BYTE_SHIFT" "I" (.int (8 : Int32))) (zz13 : n0 ≤ a0) :
    MetN l Z yn_4 jdk_42_method_3_code 2 none ws ({ frames := 5, cells := 2, slots := 9, locals := 74 } : Room) #[(.ref a0), (.ref a1)] h0 (Q_m4_30 Z a0 a1 k_a1 jj0 jj1 jj2 jj3 h0 n0) := by
 refine MetN.of (plainFor_of_name pn_2) ?_
 intro p e s m below meth c s₁ hret hx hby hml hown hnm hlk hZ X0 e0
 have N0 := Fr.nil n0
 rw [ef_m4_30 m a0 a1]
 refine w_aloadN X0 hx (d4_0 hby) rfl rfl (pc' := 1) rfl ?_
 refine w_aloadN X0 hx (d4_1 hby) rfl rfl (pc' := 2) rfl ?_
 refine w_iconst X0 hx (d4_2 hby) (v := (0 : Int32)) rfl (pc' := 3) rfl ?_
 refine w_aloadN X0 hx (d4_3 hby) rfl rfl (pc' := 4) rfl ?_
 refine w_alen X0 hx hZ e0 V_a1 (d4_4 hby) (pc' := 5) rfl ?_
 refine w_null X0 hx (d4_5 hby) (pc' := 6) rfl ?_
 refine w_special X0 hx (y := yn_5) rfl hown (mvT hZ (wd_18 hw)) (mvT hZ (wd_19 hw)) (mvT hZ (wd_21 hw)) (by decide) (backOf (W := 0) (rm_m5_31 l Z aZ hw [] a0 a1 jj3 k_a1 jj0 jj1 jj2 h0 n0 Z0 zz9 O0 hP_1 V_a1 zz4 zz5 zz6 zz10 zz11 zz12 E_a0 zz7 zz13 zz8) hZ (wd_21 hw) (wd_14 hw) (by decide) (by decide)) (by rw [hml]; rfl) [(.ref a1), (.int (0 : Int32)), (.int (3 : Int32)), .null] (lenOf pd_2 rfl) rfl (Nat.le_of_eq rfl) (d4_6 hby) (fun _ _ => ⟨rfl, e0, (by decide : 0 + 2 ≤ _), (by decide : 0 + 9 ≤ _)⟩) (pc' := 9) rfl ?_
 rintro _ _ ⟨T20, L20, k20, n20⟩ X20 ⟨Lc20, hQ20, l20, y20, z20⟩
 dsimp only [Pt.U, Pt.locs, Pt.cells, Pt.slots] at X20 l20 y20 z20 hQ20 ⊢
 rw [l20, y20, z20] at X20
 rcases hQ20 with ⟨t_20, kb_20, rfl, N20q, K20, g20_0, g20_1, g20_2, g20_3, g20_4, g20_5, g20_6, g20_7⟩ | ⟨t_20, kb_20, rfl, N20q, K20, g20_0, g20_1, g20_2, g20_3, g20_4, g20_5⟩
 · have N21 := Fr.app N0 N20q
   have K22 : Keep h0 T20.heap [a0] := (Keep.refl h0 [a0]).trans K20 (allS (Or.inl (by simp)) (all0 (P := fun x => x ∈ [a0] ∨ h0.size ≤ x)))
   have ge23 : n0 ≤ t_20 := Nat.le_trans Z0 g20_3
   have sz24 : h0.size ≤ t_20 := Nat.le_trans (Nat.le_refl _) g20_3
   show Runs _ _ _ _ (T20.setTop (mkF m 9 #[.val (.ref a0), .val (.ref a1)] []))
   exact w_done X20 hlk (v := none) rfl (fun _ => rfl) (fun fs hr => X20.returnOut hx hret (d4_9 hby) hr) (by decide) (by decide) (Or.inl ⟨t_20, kb_20, rfl, N21, K22, g20_0, g20_1, g20_2, sz24, g20_4, g20_5, g20_6, g20_7⟩)
 · have N25 := Fr.app N0 N20q
   have K26 : Keep h0 T20.heap [a0] := (Keep.refl h0 [a0]).trans K20 (allS (Or.inl (by simp)) (all0 (P := fun x => x ∈ [a0] ∨ h0.size ≤ x)))
   have ge27 : n0 ≤ t_20 := Nat.le_trans Z0 g20_3
   have sz28 : h0.size ≤ t_20 := Nat.le_trans (Nat.le_refl _) g20_3
   show Runs _ _ _ _ (T20.setTop (mkF m 9 #[.val (.ref a0), .val (.ref a1)] []))
   exact w_done X20 hlk (v := none) rfl (fun _ => rfl) (fun fs hr => X20.returnOut hx hret (d4_9 hby) hr) (by decide) (by decide) (Or.inr (⟨t_20, kb_20, rfl, N25, K26, g20_0, g20_1, g20_2, sz28, g20_4, g20_5⟩))
theorem ef_m9_46 (m : MethodId) (a0 : Addr) (a2 : Addr)  : entryFrame m #[(.ref a0), (.int (0 : Int32)), (.ref a2), (.int (0 : Int32)), (.int (4 : Int32))] 7 = mkF m 0 #[.val (.ref a0), .val (.int (0 : Int32)), .val (.ref a2), .val (.int (0 : Int32)), .val (.int (4 : Int32)), .unset, .unset] [] := by first | (simp [entryFrame, mkF, argsToLocals, Value.category]; done) | rfl
def Q_m9_46 (Z : State) (a0 : Addr) (a2 : Addr) (k_a0 : ClassId) (jj0 : Int32) (jj1 : Int32) (jj2 : Int32) (jj3 : Int32) (k_a2 : ClassId) (h0 : Heap) (n0 : Nat) (v : Option Value) (h : Heap) (L : List Loc) : Prop := (v = some (.int (4 : Int32)) ∧ Fr n0 L ∧ Keep h0 h [a2] ∧ Arv Z h a2 k_a2 .byte (4 : Int32) [(.int (jj0.toInt8.toInt32)), (.int (jj1.toInt8.toInt32)), (.int (jj2.toInt8.toInt32)), (.int (jj3.toInt8.toInt32))] (.int (0 : Int32)) ∧ ¬ ((255 : Int32) < jj0) ∧ ¬ ((255 : Int32) < jj1) ∧ ¬ ((255 : Int32) < jj2) ∧ ¬ ((255 : Int32) < jj3)) ∨ (∃ (j : Int32), v = some (.int j) ∧ Fr n0 L ∧ Keep h0 h [a2] ∧ ¬ (j < (0 : Int32)) ∧ j < (4 : Int32) ∧ (255 : Int32) < (gI [jj0, jj1, jj2, jj3] j))
theorem rm_m9_46 (l : Launch) (Z : State) (aZ : Array Value) (hw : ∀ d ∈ tables_1, d.before aZ Z = true) (ws : List Jvm.Cond) (a0 : Addr) (a2 : Addr) (k_a0 : ClassId) (jj0 : Int32) (jj1 : Int32) (jj2 : Int32) (jj3 : Int32) (k_a2 : ClassId) (h0 : Heap) (n0 : Nat) (Z0 : n0 ≤ h0.size) (V_a0 : Arv Z h0 a0 k_a0 .char (4 : Int32) [(.int jj0), (.int jj1), (.int jj2), (.int jj3)] (.int (0 : Int32))) (V_a2 : Arv Z h0 a2 k_a2 .byte (4 : Int32) [(.int (0 : Int32)), (.int (0 : Int32)), (.int (0 : Int32)), (.int (0 : Int32))] (.int (0 : Int32))) (zz4 : n0 ≤ a2) (zz5 : a0 ≠ a2) :
    MetN l Z yn_9 jdk_52_method_21_code 7 (some .int) ws ({ frames := 0, cells := 0, slots := 0, locals := 0 } : Room) #[(.ref a0), (.int (0 : Int32)), (.ref a2), (.int (0 : Int32)), (.int (4 : Int32))] h0 (Q_m9_46 Z a0 a2 k_a0 jj0 jj1 jj2 jj3 k_a2 h0 n0) := by
 refine MetN.of (plainFor_of_name pn_3) ?_
 intro p e s m below meth c s₁ hret hx hby hml hown hnm hlk hZ X0 e0
 have N0 := Fr.nil n0
 rw [ef_m9_46 m a0 a2]
 refine w_iconst X0 hx (d9_0 hby) (v := (0 : Int32)) rfl (pc' := 1) rfl ?_
 refine w_istore X0 hx (d9_1 hby) (L' := #[.val (.ref a0), .val (.int (0 : Int32)), .val (.ref a2), .val (.int (0 : Int32)), .val (.int (4 : Int32)), .val (.int (0 : Int32)), .unset]) rfl (pc' := 3) rfl ?_
 refine w_iload X0 hx (d9_3 hby) rfl (pc' := 5) rfl ?_
 refine w_iload X0 hx (d9_5 hby) rfl (pc' := 7) rfl ?_
 refine w_icN X0 hx (d9_7 hby) (tlt (by decide : (0 : Int32) < (4 : Int32))).2.1 (pc' := 10) rfl ?_
 refine w_aloadN X0 hx (d9_10 hby) rfl rfl (pc' := 11) rfl ?_
 refine w_iloadN X0 hx (d9_11 hby) rfl (pc' := 12) rfl ?_
 obtain ⟨clu20, Aru20, qu20, Su20, Nu20, Hu20, Gu20⟩ := id V_a0
 have hinu20 := inb_of (j := (0 : Int32)) Su20 ⟨by decide, by decide⟩
 refine w_caload X0 hx hZ e0 Aru20 hinu20 (Hu20.at hinu20 rfl) (d9_12 hby) (pc' := 13) rfl ?_
 refine w_istore X0 hx (d9_13 hby) (L' := #[.val (.ref a0), .val (.int (0 : Int32)), .val (.ref a2), .val (.int (0 : Int32)), .val (.int (4 : Int32)), .val (.int (0 : Int32)), .val (.int jj0)]) rfl (pc' := 15) rfl ?_
 refine w_iload X0 hx (d9_15 hby) rfl (pc' := 17) rfl ?_
 refine w_sipush X0 hx (d9_17 hby) (v := (255 : Int32)) rfl (pc' := 20) rfl ?_
 by_cases hc21 : (255 : Int32) < jj0
 · refine w_icN X0 hx (d9_20 hby) (tlt hc21).2.2.2 (pc' := 23) rfl ?_
   refine w_iload X0 hx (d9_23 hby) rfl (pc' := 25) rfl ?_
   exact w_done X0 hlk (v := some (.int (0 : Int32))) e0 (fun h => by rw [hret] at h; cases h) (fun fs hr => retI X0 hx hret (d9_25 hby) hr) (by decide) (by decide) (Or.inr (⟨(0 : Int32), rfl, N0, (Keep.refl h0 [a2]), (by decide : ¬ ((0 : Int32) < (0 : Int32))), (by decide : (0 : Int32) < (4 : Int32)), (show (255 : Int32) < (gI [jj0, jj1, jj2, jj3] (0 : Int32)) from hc21)⟩))
 · refine w_icY X0 hx (d9_20 hby) (flt hc21).2.2.2 (pc' := 26) (by decide) (by decide) ?_
   refine w_aloadN X0 hx (d9_26 hby) rfl rfl (pc' := 27) rfl ?_
   refine w_iloadN X0 hx (d9_27 hby) rfl (pc' := 28) rfl ?_
   refine w_iload X0 hx (d9_28 hby) rfl (pc' := 30) rfl ?_
   refine w_i2b X0 hx (d9_30 hby) (pc' := 31) rfl ?_
   obtain ⟨clu22, Aru22, qu22, Su22, Nu22, Hu22, Gu22⟩ := id V_a2
   have hinu22 := inb_of (j := (0 : Int32)) Su22 ⟨by decide, by decide⟩
   refine w_stB X0 hx hZ e0 Aru22 hinu22 (d9_31 hby) (pc' := 32) rfl ?_
   intro T23 h23 X23 e23 W23
   have V24 : Arv Z h23 a2 k_a2 .byte (4 : Int32) [(.int (nar .byte (jj0.toInt8.toInt32))), (.int (0 : Int32)), (.int (0 : Int32)), (.int (0 : Int32))] (.int (0 : Int32)) := Arv.set Aru22 qu22 Su22 Nu22 Hu22 Gu22 (fits_nar_byte _) W23 0 rfl (Nat.le_of_ble_eq_true rfl)
   have V25 : Arv Z h23 a2 k_a2 .byte (4 : Int32) [(.int (jj0.toInt8.toInt32)), (.int (0 : Int32)), (.int (0 : Int32)), (.int (0 : Int32))] (.int (0 : Int32)) := by rw [nar_b] at V24; exact V24
   have K26 : Keep h0 h23 [a2] := (Keep.refl h0 [a2]).wr W23 (Or.inl (by simp))
   have N27 := Fr.snoc X23 N0 zz4
   refine w_iinc X23 hx (d9_32 hby) (v := (1 : Int32)) rfl rfl (L' := #[.val (.ref a0), .val (.int ((0 : Int32) + (1 : Int32))), .val (.ref a2), .val (.int (0 : Int32)), .val (.int (4 : Int32)), .val (.int (0 : Int32)), .val (.int jj0)]) rfl (pc' := 35) rfl ?_
   rw [show ((0 : Int32) + (1 : Int32)) = (1 : Int32) from by decide]
   refine w_iinc X23 hx (d9_35 hby) (v := (1 : Int32)) rfl rfl (L' := #[.val (.ref a0), .val (.int (1 : Int32)), .val (.ref a2), .val (.int ((0 : Int32) + (1 : Int32))), .val (.int (4 : Int32)), .val (.int (0 : Int32)), .val (.int jj0)]) rfl (pc' := 38) rfl ?_
   rw [show ((0 : Int32) + (1 : Int32)) = (1 : Int32) from by decide]
   refine w_iinc X23 hx (d9_38 hby) (v := (1 : Int32)) rfl rfl (L' := #[.val (.ref a0), .val (.int (1 : Int32)), .val (.ref a2), .val (.int (1 : Int32)), .val (.int (4 : Int32)), .val (.int ((0 : Int32) + (1 : Int32))), .val (.int jj0)]) rfl (pc' := 41) rfl ?_
   rw [show ((0 : Int32) + (1 : Int32)) = (1 : Int32) from by decide]
   refine w_goto X23 hx (d9_41 hby) (pc' := 3) (by decide) (by decide) ?_
   refine w_iload X23 hx (d9_3 hby) rfl (pc' := 5) rfl ?_
   refine w_iload X23 hx (d9_5 hby) rfl (pc' := 7) rfl ?_
   refine w_icN X23 hx (d9_7 hby) (tlt (by decide : (1 : Int32) < (4 : Int32))).2.1 (pc' := 10) rfl ?_
   refine w_aloadN X23 hx (d9_10 hby) rfl rfl (pc' := 11) rfl ?_
   refine w_iloadN X23 hx (d9_11 hby) rfl (pc' := 12) rfl ?_
   have f28 : Arv Z h23 a0 k_a0 .char (4 : Int32) [(.int jj0), (.int jj1), (.int jj2), (.int jj3)] (.int (0 : Int32)) := (V_a0.other W23 zz5)
   obtain ⟨clu29, Aru29, qu29, Su29, Nu29, Hu29, Gu29⟩ := id f28
   have hinu29 := inb_of (j := (1 : Int32)) Su29 ⟨by decide, by decide⟩
   refine w_caload X23 hx hZ e23 Aru29 hinu29 (Hu29.at hinu29 rfl) (d9_12 hby) (pc' := 13) rfl ?_
   refine w_istore X23 hx (d9_13 hby) (L' := #[.val (.ref a0), .val (.int (1 : Int32)), .val (.ref a2), .val (.int (1 : Int32)), .val (.int (4 : Int32)), .val (.int (1 : Int32)), .val (.int jj1)]) rfl (pc' := 15) rfl ?_
   refine w_iload X23 hx (d9_15 hby) rfl (pc' := 17) rfl ?_
   refine w_sipush X23 hx (d9_17 hby) (v := (255 : Int32)) rfl (pc' := 20) rfl ?_
   by_cases hc30 : (255 : Int32) < jj1
   · refine w_icN X23 hx (d9_20 hby) (tlt hc30).2.2.2 (pc' := 23) rfl ?_
     refine w_iload X23 hx (d9_23 hby) rfl (pc' := 25) rfl ?_
     exact w_done X23 hlk (v := some (.int (1 : Int32))) e23 (fun h => by rw [hret] at h; cases h) (fun fs hr => retI X23 hx hret (d9_25 hby) hr) (by decide) (by decide) (Or.inr (⟨(1 : Int32), rfl, N27, K26, (by decide : ¬ ((1 : Int32) < (0 : Int32))), (by decide : (1 : Int32) < (4 : Int32)), (show (255 : Int32) < (gI [jj0, jj1, jj2, jj3] (1 : Int32)) from hc30)⟩))
   · refine w_icY X23 hx (d9_20 hby) (flt hc30).2.2.2 (pc' := 26) (by decide) (by decide) ?_
     refine w_aloadN X23 hx (d9_26 hby) rfl rfl (pc' := 27) rfl ?_
     refine w_iloadN X23 hx (d9_27 hby) rfl (pc' := 28) rfl ?_
     refine w_iload X23 hx (d9_28 hby) rfl (pc' := 30) rfl ?_
     refine w_i2b X23 hx (d9_30 hby) (pc' := 31) rfl ?_
     obtain ⟨clu31, Aru31, qu31, Su31, Nu31, Hu31, Gu31⟩ := id V25
     have hinu31 := inb_of (j := (1 : Int32)) Su31 ⟨by decide, by decide⟩
     refine w_stB X23 hx hZ e23 Aru31 hinu31 (d9_31 hby) (pc' := 32) rfl ?_
     intro T32 h32 X32 e32 W32
     have V33 : Arv Z h32 a2 k_a2 .byte (4 : Int32) [(.int (jj0.toInt8.toInt32)), (.int (nar .byte (jj1.toInt8.toInt32))), (.int (0 : Int32)), (.int (0 : Int32))] (.int (0 : Int32)) := Arv.set Aru31 qu31 Su31 Nu31 Hu31 Gu31 (fits_nar_byte _) W32 1 rfl (Nat.le_of_ble_eq_true rfl)
     have V34 : Arv Z h32 a2 k_a2 .byte (4 : Int32) [(.int (jj0.toInt8.toInt32)), (.int (jj1.toInt8.toInt32)), (.int (0 : Int32)), (.int (0 : Int32))] (.int (0 : Int32)) := by rw [nar_b] at V33; exact V33
     have K35 : Keep h0 h32 [a2] := K26.wr W32 (Or.inl (by simp))
     have N36 := Fr.snoc X32 N27 zz4
     refine w_iinc X32 hx (d9_32 hby) (v := (1 : Int32)) rfl rfl (L' := #[.val (.ref a0), .val (.int ((1 : Int32) + (1 : Int32))), .val (.ref a2), .val (.int (1 : Int32)), .val (.int (4 : Int32)), .val (.int (1 : Int32)), .val (.int jj1)]) rfl (pc' := 35) rfl ?_
     rw [show ((1 : Int32) + (1 : Int32)) = (2 : Int32) from by decide]
     refine w_iinc X32 hx (d9_35 hby) (v := (1 : Int32)) rfl rfl (L' := #[.val (.ref a0), .val (.int (2 : Int32)), .val (.ref a2), .val (.int ((1 : Int32) + (1 : Int32))), .val (.int (4 : Int32)), .val (.int (1 : Int32)), .val (.int jj1)]) rfl (pc' := 38) rfl ?_
     rw [show ((1 : Int32) + (1 : Int32)) = (2 : Int32) from by decide]
     refine w_iinc X32 hx (d9_38 hby) (v := (1 : Int32)) rfl rfl (L' := #[.val (.ref a0), .val (.int (2 : Int32)), .val (.ref a2), .val (.int (2 : Int32)), .val (.int (4 : Int32)), .val (.int ((1 : Int32) + (1 : Int32))), .val (.int jj1)]) rfl (pc' := 41) rfl ?_
     rw [show ((1 : Int32) + (1 : Int32)) = (2 : Int32) from by decide]
     refine w_goto X32 hx (d9_41 hby) (pc' := 3) (by decide) (by decide) ?_
     refine w_iload X32 hx (d9_3 hby) rfl (pc' := 5) rfl ?_
     refine w_iload X32 hx (d9_5 hby) rfl (pc' := 7) rfl ?_
     refine w_icN X32 hx (d9_7 hby) (tlt (by decide : (2 : Int32) < (4 : Int32))).2.1 (pc' := 10) rfl ?_
     refine w_aloadN X32 hx (d9_10 hby) rfl rfl (pc' := 11) rfl ?_
     refine w_iloadN X32 hx (d9_11 hby) rfl (pc' := 12) rfl ?_
     have f37 : Arv Z h32 a0 k_a0 .char (4 : Int32) [(.int jj0), (.int jj1), (.int jj2), (.int jj3)] (.int (0 : Int32)) := (f28.other W32 zz5)
     obtain ⟨clu38, Aru38, qu38, Su38, Nu38, Hu38, Gu38⟩ := id f37
     have hinu38 := inb_of (j := (2 : Int32)) Su38 ⟨by decide, by decide⟩
     refine w_caload X32 hx hZ e32 Aru38 hinu38 (Hu38.at hinu38 rfl) (d9_12 hby) (pc' := 13) rfl ?_
     refine w_istore X32 hx (d9_13 hby) (L' := #[.val (.ref a0), .val (.int (2 : Int32)), .val (.ref a2), .val (.int (2 : Int32)), .val (.int (4 : Int32)), .val (.int (2 : Int32)), .val (.int jj2)]) rfl (pc' := 15) rfl ?_
     refine w_iload X32 hx (d9_15 hby) rfl (pc' := 17) rfl ?_
     refine w_sipush X32 hx (d9_17 hby) (v := (255 : Int32)) rfl (pc' := 20) rfl ?_
     by_cases hc39 : (255 : Int32) < jj2
     · refine w_icN X32 hx (d9_20 hby) (tlt hc39).2.2.2 (pc' := 23) rfl ?_
       refine w_iload X32 hx (d9_23 hby) rfl (pc' := 25) rfl ?_
       exact w_done X32 hlk (v := some (.int (2 : Int32))) e32 (fun h => by rw [hret] at h; cases h) (fun fs hr => retI X32 hx hret (d9_25 hby) hr) (by decide) (by decide) (Or.inr (⟨(2 : Int32), rfl, N36, K35, (by decide : ¬ ((2 : Int32) < (0 : Int32))), (by decide : (2 : Int32) < (4 : Int32)), (show (255 : Int32) < (gI [jj0, jj1, jj2, jj3] (2 : Int32)) from hc39)⟩))
     · refine w_icY X32 hx (d9_20 hby) (flt hc39).2.2.2 (pc' := 26) (by decide) (by decide) ?_
       refine w_aloadN X32 hx (d9_26 hby) rfl rfl (pc' := 27) rfl ?_
       refine w_iloadN X32 hx (d9_27 hby) rfl (pc' := 28) rfl ?_
       refine w_iload X32 hx (d9_28 hby) rfl (pc' := 30) rfl ?_
       refine w_i2b X32 hx (d9_30 hby) (pc' := 31) rfl ?_
       obtain ⟨clu40, Aru40, qu40, Su40, Nu40, Hu40, Gu40⟩ := id V34
       have hinu40 := inb_of (j := (2 : Int32)) Su40 ⟨by decide, by decide⟩
       refine w_stB X32 hx hZ e32 Aru40 hinu40 (d9_31 hby) (pc' := 32) rfl ?_
       intro T41 h41 X41 e41 W41
       have V42 : Arv Z h41 a2 k_a2 .byte (4 : Int32) [(.int (jj0.toInt8.toInt32)), (.int (jj1.toInt8.toInt32)), (.int (nar .byte (jj2.toInt8.toInt32))), (.int (0 : Int32))] (.int (0 : Int32)) := Arv.set Aru40 qu40 Su40 Nu40 Hu40 Gu40 (fits_nar_byte _) W41 2 rfl (Nat.le_of_ble_eq_true rfl)
       have V43 : Arv Z h41 a2 k_a2 .byte (4 : Int32) [(.int (jj0.toInt8.toInt32)), (.int (jj1.toInt8.toInt32)), (.int (jj2.toInt8.toInt32)), (.int (0 : Int32))] (.int (0 : Int32)) := by rw [nar_b] at V42; exact V42
       have K44 : Keep h0 h41 [a2] := K35.wr W41 (Or.inl (by simp))
       have N45 := Fr.snoc X41 N36 zz4
       refine w_iinc X41 hx (d9_32 hby) (v := (1 : Int32)) rfl rfl (L' := #[.val (.ref a0), .val (.int ((2 : Int32) + (1 : Int32))), .val (.ref a2), .val (.int (2 : Int32)), .val (.int (4 : Int32)), .val (.int (2 : Int32)), .val (.int jj2)]) rfl (pc' := 35) rfl ?_
       rw [show ((2 : Int32) + (1 : Int32)) = (3 : Int32) from by decide]
       refine w_iinc X41 hx (d9_35 hby) (v := (1 : Int32)) rfl rfl (L' := #[.val (.ref a0), .val (.int (3 : Int32)), .val (.ref a2), .val (.int ((2 : Int32) + (1 : Int32))), .val (.int (4 : Int32)), .val (.int (2 : Int32)), .val (.int jj2)]) rfl (pc' := 38) rfl ?_
       rw [show ((2 : Int32) + (1 : Int32)) = (3 : Int32) from by decide]
       refine w_iinc X41 hx (d9_38 hby) (v := (1 : Int32)) rfl rfl (L' := #[.val (.ref a0), .val (.int (3 : Int32)), .val (.ref a2), .val (.int (3 : Int32)), .val (.int (4 : Int32)), .val (.int ((2 : Int32) + (1 : Int32))), .val (.int jj2)]) rfl (pc' := 41) rfl ?_
       rw [show ((2 : Int32) + (1 : Int32)) = (3 : Int32) from by decide]
       refine w_goto X41 hx (d9_41 hby) (pc' := 3) (by decide) (by decide) ?_
       refine w_iload X41 hx (d9_3 hby) rfl (pc' := 5) rfl ?_
       refine w_iload X41 hx (d9_5 hby) rfl (pc' := 7) rfl ?_
       refine w_icN X41 hx (d9_7 hby) (tlt (by decide : (3 : Int32) < (4 : Int32))).2.1 (pc' := 10) rfl ?_
       refine w_aloadN X41 hx (d9_10 hby) rfl rfl (pc' := 11) rfl ?_
       refine w_iloadN X41 hx (d9_11 hby) rfl (pc' := 12) rfl ?_
       have f46 : Arv Z h41 a0 k_a0 .char (4 : Int32) [(.int jj0), (.int jj1), (.int jj2), (.int jj3)] (.int (0 : Int32)) := (f37.other W41 zz5)
       obtain ⟨clu47, Aru47, qu47, Su47, Nu47, Hu47, Gu47⟩ := id f46
       have hinu47 := inb_of (j := (3 : Int32)) Su47 ⟨by decide, by decide⟩
       refine w_caload X41 hx hZ e41 Aru47 hinu47 (Hu47.at hinu47 rfl) (d9_12 hby) (pc' := 13) rfl ?_
       refine w_istore X41 hx (d9_13 hby) (L' := #[.val (.ref a0), .val (.int (3 : Int32)), .val (.ref a2), .val (.int (3 : Int32)), .val (.int (4 : Int32)), .val (.int (3 : Int32)), .val (.int jj3)]) rfl (pc' := 15) rfl ?_
       refine w_iload X41 hx (d9_15 hby) rfl (pc' := 17) rfl ?_
       refine w_sipush X41 hx (d9_17 hby) (v := (255 : Int32)) rfl (pc' := 20) rfl ?_
       by_cases hc48 : (255 : Int32) < jj3
       · refine w_icN X41 hx (d9_20 hby) (tlt hc48).2.2.2 (pc' := 23) rfl ?_
         refine w_iload X41 hx (d9_23 hby) rfl (pc' := 25) rfl ?_
         exact w_done X41 hlk (v := some (.int (3 : Int32))) e41 (fun h => by rw [hret] at h; cases h) (fun fs hr => retI X41 hx hret (d9_25 hby) hr) (by decide) (by decide) (Or.inr (⟨(3 : Int32), rfl, N45, K44, (by decide : ¬ ((3 : Int32) < (0 : Int32))), (by decide : (3 : Int32) < (4 : Int32)), (show (255 : Int32) < (gI [jj0, jj1, jj2, jj3] (3 : Int32)) from hc48)⟩))
       · refine w_icY X41 hx (d9_20 hby) (flt hc48).2.2.2 (pc' := 26) (by decide) (by decide) ?_
         refine w_aloadN X41 hx (d9_26 hby) rfl rfl (pc' := 27) rfl ?_
         refine w_iloadN X41 hx (d9_27 hby) rfl (pc' := 28) rfl ?_
         refine w_iload X41 hx (d9_28 hby) rfl (pc' := 30) rfl ?_
         refine w_i2b X41 hx (d9_30 hby) (pc' := 31) rfl ?_
         obtain ⟨clu49, Aru49, qu49, Su49, Nu49, Hu49, Gu49⟩ := id V43
         have hinu49 := inb_of (j := (3 : Int32)) Su49 ⟨by decide, by decide⟩
         refine w_stB X41 hx hZ e41 Aru49 hinu49 (d9_31 hby) (pc' := 32) rfl ?_
         intro T50 h50 X50 e50 W50
         have V51 : Arv Z h50 a2 k_a2 .byte (4 : Int32) [(.int (jj0.toInt8.toInt32)), (.int (jj1.toInt8.toInt32)), (.int (jj2.toInt8.toInt32)), (.int (nar .byte (jj3.toInt8.toInt32)))] (.int (0 : Int32)) := Arv.set Aru49 qu49 Su49 Nu49 Hu49 Gu49 (fits_nar_byte _) W50 3 rfl (Nat.le_of_ble_eq_true rfl)
         have V52 : Arv Z h50 a2 k_a2 .byte (4 : Int32) [(.int (jj0.toInt8.toInt32)), (.int (jj1.toInt8.toInt32)), (.int (jj2.toInt8.toInt32)), (.int (jj3.toInt8.toInt32))] (.int (0 : Int32)) := by rw [nar_b] at V51; exact V51
         have K53 : Keep h0 h50 [a2] := K44.wr W50 (Or.inl (by simp))
         have N54 := Fr.snoc X50 N45 zz4
         refine w_iinc X50 hx (d9_32 hby) (v := (1 : Int32)) rfl rfl (L' := #[.val (.ref a0), .val (.int ((3 : Int32) + (1 : Int32))), .val (.ref a2), .val (.int (3 : Int32)), .val (.int (4 : Int32)), .val (.int (3 : Int32)), .val (.int jj3)]) rfl (pc' := 35) rfl ?_
         rw [show ((3 : Int32) + (1 : Int32)) = (4 : Int32) from by decide]
         refine w_iinc X50 hx (d9_35 hby) (v := (1 : Int32)) rfl rfl (L' := #[.val (.ref a0), .val (.int (4 : Int32)), .val (.ref a2), .val (.int ((3 : Int32) + (1 : Int32))), .val (.int (4 : Int32)), .val (.int (3 : Int32)), .val (.int jj3)]) rfl (pc' := 38) rfl ?_
         rw [show ((3 : Int32) + (1 : Int32)) = (4 : Int32) from by decide]
         refine w_iinc X50 hx (d9_38 hby) (v := (1 : Int32)) rfl rfl (L' := #[.val (.ref a0), .val (.int (4 : Int32)), .val (.ref a2), .val (.int (4 : Int32)), .val (.int (4 : Int32)), .val (.int ((3 : Int32) + (1 : Int32))), .val (.int jj3)]) rfl (pc' := 41) rfl ?_
         rw [show ((3 : Int32) + (1 : Int32)) = (4 : Int32) from by decide]
         refine w_goto X50 hx (d9_41 hby) (pc' := 3) (by decide) (by decide) ?_
         refine w_iload X50 hx (d9_3 hby) rfl (pc' := 5) rfl ?_
         refine w_iload X50 hx (d9_5 hby) rfl (pc' := 7) rfl ?_
         refine w_icY X50 hx (d9_7 hby) (flt (by decide : ¬ ((4 : Int32) < (4 : Int32)))).2.1 (pc' := 44) (by decide) (by decide) ?_
         refine w_iload X50 hx (d9_44 hby) rfl (pc' := 46) rfl ?_
         exact w_done X50 hlk (v := some (.int (4 : Int32))) e50 (fun h => by rw [hret] at h; cases h) (fun fs hr => retI X50 hx hret (d9_46 hby) hr) (by decide) (by decide) (Or.inl ⟨rfl, N54, K53, V52, hc21, hc30, hc39, hc48⟩)
theorem ef_m13_49 (m : MethodId)   : entryFrame m #[(.int (4 : Int32))] 1 = mkF m 0 #[.val (.int (4 : Int32))] [] := by first | (simp [entryFrame, mkF, argsToLocals, Value.category]; done) | rfl
def Q_m13_49 (Z : State)  (h0 : Heap) (n0 : Nat) (v : Option Value) (h : Heap) (L : List Loc) : Prop := v = some (.int (8 : Int32)) ∧ Fr n0 L ∧ h = h0
theorem rm_m13_49 (l : Launch) (Z : State) (aZ : Array Value) (hw : ∀ d ∈ tables_1, d.before aZ Z = true) (ws : List Jvm.Cond)  (h0 : Heap) (n0 : Nat) (Z0 : n0 ≤ h0.size) :
    MetN l Z yn_13 jdk_52_method_3_code 1 (some .int) ws ({ frames := 0, cells := 0, slots := 0, locals := 0 } : Room) #[(.int (4 : Int32))] h0 (Q_m13_49 Z  h0 n0) := by
 refine MetN.of (plainFor_of_name pn_3) ?_
 intro p e s m below meth c s₁ hret hx hby hml hown hnm hlk hZ X0 e0
 have N0 := Fr.nil n0
 rw [ef_m13_49 m ]
 refine w_iloadN X0 hx (d13_0 hby) rfl (pc' := 1) rfl ?_
 refine w_ifY X0 hx (d13_1 hby) (flt (by decide : ¬ ((4 : Int32) < (0 : Int32)))).2.1 (pc' := 12) (by decide) (by decide) ?_
 refine w_iloadN X0 hx (d13_12 hby) rfl (pc' := 13) rfl ?_
 refine w_ldcI X0 hx hZ hown (wd_57 hw) (d13_13 hby) (pc' := 15) rfl ?_
 refine w_icY X0 hx (d13_15 hby) (tlt (by decide : (4 : Int32) < (1073741823 : Int32))).1 (pc' := 55) (by decide) (by decide) ?_
 refine w_iloadN X0 hx (d13_55 hby) rfl (pc' := 56) rfl ?_
 refine w_iconst X0 hx (d13_56 hby) (v := (1 : Int32)) rfl (pc' := 57) rfl ?_
 refine w_ishl X0 hx (d13_57 hby) (pc' := 58) rfl ?_
 rw [show ((4 : Int32) <<< ((1 : Int32) &&& 31)) = (8 : Int32) from by decide]
 exact w_done X0 hlk (v := some (.int (8 : Int32))) e0 (fun h => by rw [hret] at h; cases h) (fun fs hr => retI X0 hx hret (d13_58 hby) hr) (by decide) (by decide) (⟨rfl, N0, rfl⟩)
theorem ef_m12_48 (m : MethodId)   : entryFrame m #[(.int (4 : Int32))] 1 = mkF m 0 #[.val (.int (4 : Int32))] [] := by first | (simp [entryFrame, mkF, argsToLocals, Value.category]; done) | rfl
def Q_m12_48 (Z : State)  (h0 : Heap) (n0 : Nat) (v : Option Value) (h : Heap) (L : List Loc) : Prop := ∃ (r0 : Addr) (c0 : ClassId), v = some (.ref r0) ∧ Fr n0 L ∧ Keep h0 h [] ∧ h0.size ≤ r0 ∧ Arv Z h r0 c0 .byte (8 : Int32) [(.int (0 : Int32)), (.int (0 : Int32)), (.int (0 : Int32)), (.int (0 : Int32)), (.int (0 : Int32)), (.int (0 : Int32)), (.int (0 : Int32)), (.int (0 : Int32))] (.int (0 : Int32))
theorem rm_m12_48 (l : Launch) (Z : State) (aZ : Array Value) (hw : ∀ d ∈ tables_1, d.before aZ Z = true) (ws : List Jvm.Cond)  (h0 : Heap) (n0 : Nat) (Z0 : n0 ≤ h0.size) :
    MetN l Z yn_12 jdk_52_method_2_code 1 (some (.array .byte)) ws ({ frames := 1, cells := 1, slots := 8, locals := 12 } : Room) #[(.int (4 : Int32))] h0 (Q_m12_48 Z  h0 n0) := by
 refine MetN.of (plainFor_of_name pn_3) ?_
 intro p e s m below meth c s₁ hret hx hby hml hown hnm hlk hZ X0 e0
 have N0 := Fr.nil n0
 rw [ef_m12_48 m ]
 refine w_iloadN X0 hx (d12_0 hby) rfl (pc' := 1) rfl ?_
 refine w_static X0 hx (y := yn_13) hown (mvT hZ (wd_54 hw)) (mvT hZ (wd_55 hw)) (mvT hZ (wd_40 hw)) (mvT hZ (wd_56 hw)) (by decide) (backOf (W := 0) (rm_m13_49 l Z aZ hw []  h0 n0 Z0 ) hZ (wd_56 hw) (wd_40 hw) (by decide) (by decide)) (by rw [hml]; rfl) [(.int (4 : Int32))] (lenOf pd_5 rfl) rfl (Nat.le_of_eq rfl) (d12_1 hby) (fun _ _ => ⟨rfl, e0, (by decide : 0 + 0 ≤ _), (by decide : 0 + 0 ≤ _)⟩) (pc' := 4) rfl ?_
 rintro _ _ ⟨T20, L20, k20, n20⟩ X20 ⟨Lc20, hQ20, l20, y20, z20⟩
 dsimp only [Pt.U, Pt.locs, Pt.cells, Pt.slots] at X20 l20 y20 z20 hQ20 ⊢
 rw [l20, y20, z20] at X20
 obtain ⟨rfl, N20q, e20⟩ := hQ20
 have N21 := Fr.app N0 N20q
 show Runs _ _ _ _ (T20.setTop (mkF m 4 #[.val (.int (4 : Int32))] [(.int (8 : Int32))]))
 refine w_newP X20 hx .byte .byte 8 rfl hZ (wd_26 hw) e20 (d12_4 hby) (by decide) (by decide) (by decide) (by decide) (by decide) (pc' := 6) rfl ?_
 intro T22 h22 k22 b22 X22 e22 E22 g22 A22
 have ge23 : n0 ≤ b22 := Nat.le_trans Z0 (Nat.le_of_eq g22.symm)
 have sz24 : h0.size ≤ b22 := Nat.le_trans (Nat.le_refl _) (Nat.le_of_eq g22.symm)
 have K25 : Keep h0 h22 [] := (Keep.refl h0 []).ext E22
 have V26 : Arv Z h22 b22 k22 .byte (8 : Int32) [(.int (0 : Int32)), (.int (0 : Int32)), (.int (0 : Int32)), (.int (0 : Int32)), (.int (0 : Int32)), (.int (0 : Int32)), (.int (0 : Int32)), (.int (0 : Int32))] (.int (0 : Int32)) := (Arv.new A22 (by decide)).pad (pad_rep [] (.int (0 : Int32)) 8)
 exact w_done X22 hlk (v := some (.ref b22)) e22 (fun h => by rw [hret] at h; cases h) (fun fs hr => retOut X22 hx hret rfl (Or.inr (Or.inr (Or.inr (Or.inr ⟨rfl, rfl, rfl⟩)))) (d12_6 hby) hr) (by decide) (by decide) (⟨b22, k22, rfl, N21, K25, sz24, V26⟩)
theorem ef_m14_50 (m : MethodId) (a0 : Addr) (p2 : Int32)  : entryFrame m #[(.ref a0), (.int (0 : Int32)), (.int p2)] 3 = mkF m 0 #[.val (.ref a0), .val (.int (0 : Int32)), .val (.int p2)] [] := by first | (simp [entryFrame, mkF, argsToLocals, Value.category]; done) | rfl
def Q_m14_50 (Z : State) (a0 : Addr) (p2 : Int32) (k_a0 : ClassId) (h0 : Heap) (n0 : Nat) (v : Option Value) (h : Heap) (L : List Loc) : Prop := v = none ∧ Fr n0 L ∧ Keep h0 h [a0] ∧ Arv Z h a0 k_a0 .byte (8 : Int32) [(.int ((p2 >>> ((0 : Int32) &&& 31)).toInt8.toInt32)), (.int ((p2 >>> ((8 : Int32) &&& 31)).toInt8.toInt32)), (.int (0 : Int32)), (.int (0 : Int32)), (.int (0 : Int32)), (.int (0 : Int32)), (.int (0 : Int32)), (.int (0 : Int32))] (.int (0 : Int32))
theorem rm_m14_50 (l : Launch) (Z : State) (aZ : Array Value) (hw : ∀ d ∈ tables_1, d.before aZ Z = true) (ws : List Jvm.Cond) (a0 : Addr) (p2 : Int32) (k_a0 : ClassId) (h0 : Heap) (n0 : Nat) (Z0 : n0 ≤ h0.size) (zz0 : Sta Z Z.heap kc1 "$assertionsDisabled" "Z" (.int (1 : Int32))) (O0 : Old Z n0 h0) (zz1 : Sta Z Z.heap kc1 "HI_BYTE_SHIFT" "I" (.int (0 : Int32))) (V_a0 : Arv Z h0 a0 k_a0 .byte (8 : Int32) [(.int (0 : Int32)), (.int (0 : Int32)), (.int (0 : Int32)), (.int (0 : Int32)), (.int (0 : Int32)), (.int (0 : Int32)), (.int (0 : Int32)), (.int (0 : Int32))] (.int (0 : Int32))) (zz2 : n0 ≤ a0) (zz3 : Sta Z Z.heap kc1 "LO_BYTE_SHIFT" "I" (.int (8 : Int32))) :
    MetN l Z yn_14 jdk_52_method_4_code 3 none ws ({ frames := 0, cells := 0, slots := 0, locals := 0 } : Room) #[(.ref a0), (.int (0 : Int32)), (.int p2)] h0 (Q_m14_50 Z a0 p2 k_a0 h0 n0) := by
 refine MetN.of (plainFor_of_name pn_3) ?_
 intro p e s m below meth c s₁ hret hx hby hml hown hnm hlk hZ X0 e0
 have N0 := Fr.nil n0
 rw [ef_m14_50 m a0 p2]
 refine w_getS X0 hx "" hZ hown (Or.inl (wd_61 hw)) Via.refl e0 (zz0.ext O0.2) (d14_0 hby) (pc' := 3) rfl ?_
 intro T20 X20 e20
 refine w_ifY X20 hx (d14_3 hby) (feq (by decide : ¬ ((1 : Int32) = (0 : Int32)))).2 (pc' := 28) (by decide) (by decide) ?_
 refine w_iloadN X20 hx (d14_28 hby) rfl (pc' := 29) rfl ?_
 refine w_iconst X20 hx (d14_29 hby) (v := (1 : Int32)) rfl (pc' := 30) rfl ?_
 refine w_ishl X20 hx (d14_30 hby) (pc' := 31) rfl ?_
 rw [show ((0 : Int32) <<< ((1 : Int32) &&& 31)) = (0 : Int32) from by decide]
 refine w_istoreN X20 hx (d14_31 hby) (L' := #[.val (.ref a0), .val (.int (0 : Int32)), .val (.int p2)]) rfl (pc' := 32) rfl ?_
 refine w_aloadN X20 hx (d14_32 hby) rfl rfl (pc' := 33) rfl ?_
 refine w_iloadN X20 hx (d14_33 hby) rfl (pc' := 34) rfl ?_
 refine w_iinc X20 hx (d14_34 hby) (v := (1 : Int32)) rfl rfl (L' := #[.val (.ref a0), .val (.int ((0 : Int32) + (1 : Int32))), .val (.int p2)]) rfl (pc' := 37) rfl ?_
 rw [show ((0 : Int32) + (1 : Int32)) = (1 : Int32) from by decide]
 refine w_iloadN X20 hx (d14_37 hby) rfl (pc' := 38) rfl ?_
 refine w_getS X20 hx "" hZ hown (Or.inl (wd_62 hw)) Via.refl e20 (zz1.ext O0.2) (d14_38 hby) (pc' := 41) rfl ?_
 intro T21 X21 e21
 refine w_ishr X21 hx (d14_41 hby) (pc' := 42) rfl ?_
 refine w_i2b X21 hx (d14_42 hby) (pc' := 43) rfl ?_
 obtain ⟨clu22, Aru22, qu22, Su22, Nu22, Hu22, Gu22⟩ := id V_a0
 have hinu22 := inb_of (j := (0 : Int32)) Su22 ⟨by decide, by decide⟩
 refine w_stB X21 hx hZ e21 Aru22 hinu22 (d14_43 hby) (pc' := 44) rfl ?_
 intro T23 h23 X23 e23 W23
 have V24 : Arv Z h23 a0 k_a0 .byte (8 : Int32) [(.int (nar .byte ((p2 >>> ((0 : Int32) &&& 31)).toInt8.toInt32))), (.int (0 : Int32)), (.int (0 : Int32)), (.int (0 : Int32)), (.int (0 : Int32)), (.int (0 : Int32)), (.int (0 : Int32)), (.int (0 : Int32))] (.int (0 : Int32)) := Arv.set Aru22 qu22 Su22 Nu22 Hu22 Gu22 (fits_nar_byte _) W23 0 rfl (Nat.le_of_ble_eq_true rfl)
 have V25 : Arv Z h23 a0 k_a0 .byte (8 : Int32) [(.int ((p2 >>> ((0 : Int32) &&& 31)).toInt8.toInt32)), (.int (0 : Int32)), (.int (0 : Int32)), (.int (0 : Int32)), (.int (0 : Int32)), (.int (0 : Int32)), (.int (0 : Int32)), (.int (0 : Int32))] (.int (0 : Int32)) := by rw [nar_b] at V24; exact V24
 have K26 : Keep h0 h23 [a0] := (Keep.refl h0 [a0]).wr W23 (Or.inl (by simp))
 have N27 := Fr.snoc X23 N0 zz2
 refine w_aloadN X23 hx (d14_44 hby) rfl rfl (pc' := 45) rfl ?_
 refine w_iloadN X23 hx (d14_45 hby) rfl (pc' := 46) rfl ?_
 refine w_iloadN X23 hx (d14_46 hby) rfl (pc' := 47) rfl ?_
 have f28 : Old Z n0 h23 := (O0.wr W23 zz2)
 refine w_getS X23 hx "" hZ hown (Or.inl (wd_63 hw)) Via.refl e23 (zz3.ext f28.2) (d14_47 hby) (pc' := 50) rfl ?_
 intro T29 X29 e29
 refine w_ishr X29 hx (d14_50 hby) (pc' := 51) rfl ?_
 refine w_i2b X29 hx (d14_51 hby) (pc' := 52) rfl ?_
 obtain ⟨clu30, Aru30, qu30, Su30, Nu30, Hu30, Gu30⟩ := id V25
 have hinu30 := inb_of (j := (1 : Int32)) Su30 ⟨by decide, by decide⟩
 refine w_stB X29 hx hZ e29 Aru30 hinu30 (d14_52 hby) (pc' := 53) rfl ?_
 intro T31 h31 X31 e31 W31
 have V32 : Arv Z h31 a0 k_a0 .byte (8 : Int32) [(.int ((p2 >>> ((0 : Int32) &&& 31)).toInt8.toInt32)), (.int (nar .byte ((p2 >>> ((8 : Int32) &&& 31)).toInt8.toInt32))), (.int (0 : Int32)), (.int (0 : Int32)), (.int (0 : Int32)), (.int (0 : Int32)), (.int (0 : Int32)), (.int (0 : Int32))] (.int (0 : Int32)) := Arv.set Aru30 qu30 Su30 Nu30 Hu30 Gu30 (fits_nar_byte _) W31 1 rfl (Nat.le_of_ble_eq_true rfl)
 have V33 : Arv Z h31 a0 k_a0 .byte (8 : Int32) [(.int ((p2 >>> ((0 : Int32) &&& 31)).toInt8.toInt32)), (.int ((p2 >>> ((8 : Int32) &&& 31)).toInt8.toInt32)), (.int (0 : Int32)), (.int (0 : Int32)), (.int (0 : Int32)), (.int (0 : Int32)), (.int (0 : Int32)), (.int (0 : Int32))] (.int (0 : Int32)) := by rw [nar_b] at V32; exact V32
 have K34 : Keep h0 h31 [a0] := K26.wr W31 (Or.inl (by simp))
 have N35 := Fr.snoc X31 N27 zz2
 exact w_done X31 hlk (v := none) e31 (fun _ => rfl) (fun fs hr => X31.returnOut hx hret (d14_53 hby) hr) (by decide) (by decide) (⟨rfl, N35, K34, V33⟩)
theorem ef_m14_51 (m : MethodId) (a0 : Addr) (p2 : Int32)  : entryFrame m #[(.ref a0), (.int (1 : Int32)), (.int p2)] 3 = mkF m 0 #[.val (.ref a0), .val (.int (1 : Int32)), .val (.int p2)] [] := by first | (simp [entryFrame, mkF, argsToLocals, Value.category]; done) | rfl
def Q_m14_51 (Z : State) (a0 : Addr) (p2 : Int32) (k_a0 : ClassId) (jj0 : Int32) (jj1 : Int32) (h0 : Heap) (n0 : Nat) (v : Option Value) (h : Heap) (L : List Loc) : Prop := v = none ∧ Fr n0 L ∧ Keep h0 h [a0] ∧ Arv Z h a0 k_a0 .byte (8 : Int32) [(.int jj0), (.int jj1), (.int ((p2 >>> ((0 : Int32) &&& 31)).toInt8.toInt32)), (.int ((p2 >>> ((8 : Int32) &&& 31)).toInt8.toInt32)), (.int (0 : Int32)), (.int (0 : Int32)), (.int (0 : Int32)), (.int (0 : Int32))] (.int (0 : Int32))
theorem rm_m14_51 (l : Launch) (Z : State) (aZ : Array Value) (hw : ∀ d ∈ tables_1, d.before aZ Z = true) (ws : List Jvm.Cond) (a0 : Addr) (p2 : Int32) (k_a0 : ClassId) (jj0 : Int32) (jj1 : Int32) (h0 : Heap) (n0 : Nat) (Z0 : n0 ≤ h0.size) (zz2 : Sta Z Z.heap kc1 "$assertionsDisabled" "Z" (.int (1 : Int32))) (O0 : Old Z n0 h0) (zz3 : Sta Z Z.heap kc1 "HI_BYTE_SHIFT" "I" (.int (0 : Int32))) (V_a0 : Arv Z h0 a0 k_a0 .byte (8 : Int32) [(.int jj0), (.int jj1), (.int (0 : Int32)), (.int (0 : Int32)), (.int (0 : Int32)), (.int (0 : Int32)), (.int (0 : Int32)), (.int (0 : Int32))] (.int (0 : Int32))) (zz4 : n0 ≤ a0) (zz5 : Sta Z Z.heap kc1 "LO_BYTE_SHIFT" "I" (.int (8 : Int32))) :
    MetN l Z yn_14 jdk_52_method_4_code 3 none ws ({ frames := 0, cells := 0, slots := 0, locals := 0 } : Room) #[(.ref a0), (.int (1 : Int32)), (.int p2)] h0 (Q_m14_51 Z a0 p2 k_a0 jj0 jj1 h0 n0) := by
 refine MetN.of (plainFor_of_name pn_3) ?_
 intro p e s m below meth c s₁ hret hx hby hml hown hnm hlk hZ X0 e0
 have N0 := Fr.nil n0
 rw [ef_m14_51 m a0 p2]
 refine w_getS X0 hx "" hZ hown (Or.inl (wd_61 hw)) Via.refl e0 (zz2.ext O0.2) (d14_0 hby) (pc' := 3) rfl ?_
 intro T20 X20 e20
 refine w_ifY X20 hx (d14_3 hby) (feq (by decide : ¬ ((1 : Int32) = (0 : Int32)))).2 (pc' := 28) (by decide) (by decide) ?_
 refine w_iloadN X20 hx (d14_28 hby) rfl (pc' := 29) rfl ?_
 refine w_iconst X20 hx (d14_29 hby) (v := (1 : Int32)) rfl (pc' := 30) rfl ?_
 refine w_ishl X20 hx (d14_30 hby) (pc' := 31) rfl ?_
 rw [show ((1 : Int32) <<< ((1 : Int32) &&& 31)) = (2 : Int32) from by decide]
 refine w_istoreN X20 hx (d14_31 hby) (L' := #[.val (.ref a0), .val (.int (2 : Int32)), .val (.int p2)]) rfl (pc' := 32) rfl ?_
 refine w_aloadN X20 hx (d14_32 hby) rfl rfl (pc' := 33) rfl ?_
 refine w_iloadN X20 hx (d14_33 hby) rfl (pc' := 34) rfl ?_
 refine w_iinc X20 hx (d14_34 hby) (v := (1 : Int32)) rfl rfl (L' := #[.val (.ref a0), .val (.int ((2 : Int32) + (1 : Int32))), .val (.int p2)]) rfl (pc' := 37) rfl ?_
 rw [show ((2 : Int32) + (1 : Int32)) = (3 : Int32) from by decide]
 refine w_iloadN X20 hx (d14_37 hby) rfl (pc' := 38) rfl ?_
 refine w_getS X20 hx "" hZ hown (Or.inl (wd_62 hw)) Via.refl e20 (zz3.ext O0.2) (d14_38 hby) (pc' := 41) rfl ?_
 intro T21 X21 e21
 refine w_ishr X21 hx (d14_41 hby) (pc' := 42) rfl ?_
 refine w_i2b X21 hx (d14_42 hby) (pc' := 43) rfl ?_
 obtain ⟨clu22, Aru22, qu22, Su22, Nu22, Hu22, Gu22⟩ := id V_a0
 have hinu22 := inb_of (j := (2 : Int32)) Su22 ⟨by decide, by decide⟩
 refine w_stB X21 hx hZ e21 Aru22 hinu22 (d14_43 hby) (pc' := 44) rfl ?_
 intro T23 h23 X23 e23 W23
 have V24 : Arv Z h23 a0 k_a0 .byte (8 : Int32) [(.int jj0), (.int jj1), (.int (nar .byte ((p2 >>> ((0 : Int32) &&& 31)).toInt8.toInt32))), (.int (0 : Int32)), (.int (0 : Int32)), (.int (0 : Int32)), (.int (0 : Int32)), (.int (0 : Int32))] (.int (0 : Int32)) := Arv.set Aru22 qu22 Su22 Nu22 Hu22 Gu22 (fits_nar_byte _) W23 2 rfl (Nat.le_of_ble_eq_true rfl)
 have V25 : Arv Z h23 a0 k_a0 .byte (8 : Int32) [(.int jj0), (.int jj1), (.int ((p2 >>> ((0 : Int32) &&& 31)).toInt8.toInt32)), (.int (0 : Int32)), (.int (0 : Int32)), (.int (0 : Int32)), (.int (0 : Int32)), (.int (0 : Int32))] (.int (0 : Int32)) := by rw [nar_b] at V24; exact V24
 have K26 : Keep h0 h23 [a0] := (Keep.refl h0 [a0]).wr W23 (Or.inl (by simp))
 have N27 := Fr.snoc X23 N0 zz4
 refine w_aloadN X23 hx (d14_44 hby) rfl rfl (pc' := 45) rfl ?_
 refine w_iloadN X23 hx (d14_45 hby) rfl (pc' := 46) rfl ?_
 refine w_iloadN X23 hx (d14_46 hby) rfl (pc' := 47) rfl ?_
 have f28 : Old Z n0 h23 := (O0.wr W23 zz4)
 refine w_getS X23 hx "" hZ hown (Or.inl (wd_63 hw)) Via.refl e23 (zz5.ext f28.2) (d14_47 hby) (pc' := 50) rfl ?_
 intro T29 X29 e29
 refine w_ishr X29 hx (d14_50 hby) (pc' := 51) rfl ?_
 refine w_i2b X29 hx (d14_51 hby) (pc' := 52) rfl ?_
 obtain ⟨clu30, Aru30, qu30, Su30, Nu30, Hu30, Gu30⟩ := id V25
 have hinu30 := inb_of (j := (3 : Int32)) Su30 ⟨by decide, by decide⟩
 refine w_stB X29 hx hZ e29 Aru30 hinu30 (d14_52 hby) (pc' := 53) rfl ?_
 intro T31 h31 X31 e31 W31
 have V32 : Arv Z h31 a0 k_a0 .byte (8 : Int32) [(.int jj0), (.int jj1), (.int ((p2 >>> ((0 : Int32) &&& 31)).toInt8.toInt32)), (.int (nar .byte ((p2 >>> ((8 : Int32) &&& 31)).toInt8.toInt32))), (.int (0 : Int32)), (.int (0 : Int32)), (.int (0 : Int32)), (.int (0 : Int32))] (.int (0 : Int32)) := Arv.set Aru30 qu30 Su30 Nu30 Hu30 Gu30 (fits_nar_byte _) W31 3 rfl (Nat.le_of_ble_eq_true rfl)
 have V33 : Arv Z h31 a0 k_a0 .byte (8 : Int32) [(.int jj0), (.int jj1), (.int ((p2 >>> ((0 : Int32) &&& 31)).toInt8.toInt32)), (.int ((p2 >>> ((8 : Int32) &&& 31)).toInt8.toInt32)), (.int (0 : Int32)), (.int (0 : Int32)), (.int (0 : Int32)), (.int (0 : Int32))] (.int (0 : Int32)) := by rw [nar_b] at V32; exact V32
 have K34 : Keep h0 h31 [a0] := K26.wr W31 (Or.inl (by simp))
 have N35 := Fr.snoc X31 N27 zz4
 exact w_done X31 hlk (v := none) e31 (fun _ => rfl) (fun fs hr => X31.returnOut hx hret (d14_53 hby) hr) (by decide) (by decide) (⟨rfl, N35, K34, V33⟩)
theorem ef_m14_52 (m : MethodId) (a0 : Addr) (p2 : Int32)  : entryFrame m #[(.ref a0), (.int (2 : Int32)), (.int p2)] 3 = mkF m 0 #[.val (.ref a0), .val (.int (2 : Int32)), .val (.int p2)] [] := by first | (simp [entryFrame, mkF, argsToLocals, Value.category]; done) | rfl
def Q_m14_52 (Z : State) (a0 : Addr) (p2 : Int32) (k_a0 : ClassId) (jj0 : Int32) (jj1 : Int32) (jj2 : Int32) (jj3 : Int32) (h0 : Heap) (n0 : Nat) (v : Option Value) (h : Heap) (L : List Loc) : Prop := v = none ∧ Fr n0 L ∧ Keep h0 h [a0] ∧ Arv Z h a0 k_a0 .byte (8 : Int32) [(.int jj0), (.int jj1), (.int jj2), (.int jj3), (.int ((p2 >>> ((0 : Int32) &&& 31)).toInt8.toInt32)), (.int ((p2 >>> ((8 : Int32) &&& 31)).toInt8.toInt32)), (.int (0 : Int32)), (.int (0 : Int32))] (.int (0 : Int32))
theorem rm_m14_52 (l : Launch) (Z : State) (aZ : Array Value) (hw : ∀ d ∈ tables_1, d.before aZ Z = true) (ws : List Jvm.Cond) (a0 : Addr) (p2 : Int32) (k_a0 : ClassId) (jj0 : Int32) (jj1 : Int32) (jj2 : Int32) (jj3 : Int32) (h0 : Heap) (n0 : Nat) (Z0 : n0 ≤ h0.size) (zz4 : Sta Z Z.heap kc1 "$assertionsDisabled" "Z" (.int (1 : Int32))) (O0 : Old Z n0 h0) (zz5 : Sta Z Z.heap kc1 "HI_BYTE_SHIFT" "I" (.int (0 : Int32))) (V_a0 : Arv Z h0 a0 k_a0 .byte (8 : Int32) [(.int jj0), (.int jj1), (.int jj2), (.int jj3), (.int (0 : Int32)), (.int (0 : Int32)), (.int (0 : Int32)), (.int (0 : Int32))] (.int (0 : Int32))) (zz6 : n0 ≤ a0) (zz7 : Sta Z Z.heap kc1 "LO_BYTE_SHIFT" "I" (.int (8 : Int32))) :
    MetN l Z yn_14 jdk_52_method_4_code 3 none ws ({ frames := 0, cells := 0, slots := 0, locals := 0 } : Room) #[(.ref a0), (.int (2 : Int32)), (.int p2)] h0 (Q_m14_52 Z a0 p2 k_a0 jj0 jj1 jj2 jj3 h0 n0) := by
 refine MetN.of (plainFor_of_name pn_3) ?_
 intro p e s m below meth c s₁ hret hx hby hml hown hnm hlk hZ X0 e0
 have N0 := Fr.nil n0
 rw [ef_m14_52 m a0 p2]
 refine w_getS X0 hx "" hZ hown (Or.inl (wd_61 hw)) Via.refl e0 (zz4.ext O0.2) (d14_0 hby) (pc' := 3) rfl ?_
 intro T20 X20 e20
 refine w_ifY X20 hx (d14_3 hby) (feq (by decide : ¬ ((1 : Int32) = (0 : Int32)))).2 (pc' := 28) (by decide) (by decide) ?_
 refine w_iloadN X20 hx (d14_28 hby) rfl (pc' := 29) rfl ?_
 refine w_iconst X20 hx (d14_29 hby) (v := (1 : Int32)) rfl (pc' := 30) rfl ?_
 refine w_ishl X20 hx (d14_30 hby) (pc' := 31) rfl ?_
 rw [show ((2 : Int32) <<< ((1 : Int32) &&& 31)) = (4 : Int32) from by decide]
 refine w_istoreN X20 hx (d14_31 hby) (L' := #[.val (.ref a0), .val (.int (4 : Int32)), .val (.int p2)]) rfl (pc' := 32) rfl ?_
 refine w_aloadN X20 hx (d14_32 hby) rfl rfl (pc' := 33) rfl ?_
 refine w_iloadN X20 hx (d14_33 hby) rfl (pc' := 34) rfl ?_
 refine w_iinc X20 hx (d14_34 hby) (v := (1 : Int32)) rfl rfl (L' := #[.val (.ref a0), .val (.int ((4 : Int32) + (1 : Int32))), .val (.int p2)]) rfl (pc' := 37) rfl ?_
 rw [show ((4 : Int32) + (1 : Int32)) = (5 : Int32) from by decide]
 refine w_iloadN X20 hx (d14_37 hby) rfl (pc' := 38) rfl ?_
 refine w_getS X20 hx "" hZ hown (Or.inl (wd_62 hw)) Via.refl e20 (zz5.ext O0.2) (d14_38 hby) (pc' := 41) rfl ?_
 intro T21 X21 e21
 refine w_ishr X21 hx (d14_41 hby) (pc' := 42) rfl ?_
 refine w_i2b X21 hx (d14_42 hby) (pc' := 43) rfl ?_
 obtain ⟨clu22, Aru22, qu22, Su22, Nu22, Hu22, Gu22⟩ := id V_a0
 have hinu22 := inb_of (j := (4 : Int32)) Su22 ⟨by decide, by decide⟩
 refine w_stB X21 hx hZ e21 Aru22 hinu22 (d14_43 hby) (pc' := 44) rfl ?_
 intro T23 h23 X23 e23 W23
 have V24 : Arv Z h23 a0 k_a0 .byte (8 : Int32) [(.int jj0), (.int jj1), (.int jj2), (.int jj3), (.int (nar .byte ((p2 >>> ((0 : Int32) &&& 31)).toInt8.toInt32))), (.int (0 : Int32)), (.int (0 : Int32)), (.int (0 : Int32))] (.int (0 : Int32)) := Arv.set Aru22 qu22 Su22 Nu22 Hu22 Gu22 (fits_nar_byte _) W23 4 rfl (Nat.le_of_ble_eq_true rfl)
 have V25 : Arv Z h23 a0 k_a0 .byte (8 : Int32) [(.int jj0), (.int jj1), (.int jj2), (.int jj3), (.int ((p2 >>> ((0 : Int32) &&& 31)).toInt8.toInt32)), (.int (0 : Int32)), (.int (0 : Int32)), (.int (0 : Int32))] (.int (0 : Int32)) := by rw [nar_b] at V24; exact V24
 have K26 : Keep h0 h23 [a0] := (Keep.refl h0 [a0]).wr W23 (Or.inl (by simp))
 have N27 := Fr.snoc X23 N0 zz6
 refine w_aloadN X23 hx (d14_44 hby) rfl rfl (pc' := 45) rfl ?_
 refine w_iloadN X23 hx (d14_45 hby) rfl (pc' := 46) rfl ?_
 refine w_iloadN X23 hx (d14_46 hby) rfl (pc' := 47) rfl ?_
 have f28 : Old Z n0 h23 := (O0.wr W23 zz6)
 refine w_getS X23 hx "" hZ hown (Or.inl (wd_63 hw)) Via.refl e23 (zz7.ext f28.2) (d14_47 hby) (pc' := 50) rfl ?_
 intro T29 X29 e29
 refine w_ishr X29 hx (d14_50 hby) (pc' := 51) rfl ?_
 refine w_i2b X29 hx (d14_51 hby) (pc' := 52) rfl ?_
 obtain ⟨clu30, Aru30, qu30, Su30, Nu30, Hu30, Gu30⟩ := id V25
 have hinu30 := inb_of (j := (5 : Int32)) Su30 ⟨by decide, by decide⟩
 refine w_stB X29 hx hZ e29 Aru30 hinu30 (d14_52 hby) (pc' := 53) rfl ?_
 intro T31 h31 X31 e31 W31
 have V32 : Arv Z h31 a0 k_a0 .byte (8 : Int32) [(.int jj0), (.int jj1), (.int jj2), (.int jj3), (.int ((p2 >>> ((0 : Int32) &&& 31)).toInt8.toInt32)), (.int (nar .byte ((p2 >>> ((8 : Int32) &&& 31)).toInt8.toInt32))), (.int (0 : Int32)), (.int (0 : Int32))] (.int (0 : Int32)) := Arv.set Aru30 qu30 Su30 Nu30 Hu30 Gu30 (fits_nar_byte _) W31 5 rfl (Nat.le_of_ble_eq_true rfl)
 have V33 : Arv Z h31 a0 k_a0 .byte (8 : Int32) [(.int jj0), (.int jj1), (.int jj2), (.int jj3), (.int ((p2 >>> ((0 : Int32) &&& 31)).toInt8.toInt32)), (.int ((p2 >>> ((8 : Int32) &&& 31)).toInt8.toInt32)), (.int (0 : Int32)), (.int (0 : Int32))] (.int (0 : Int32)) := by rw [nar_b] at V32; exact V32
 have K34 : Keep h0 h31 [a0] := K26.wr W31 (Or.inl (by simp))
 have N35 := Fr.snoc X31 N27 zz6
 exact w_done X31 hlk (v := none) e31 (fun _ => rfl) (fun fs hr => X31.returnOut hx hret (d14_53 hby) hr) (by decide) (by decide) (⟨rfl, N35, K34, V33⟩)
theorem ef_m14_53 (m : MethodId) (a0 : Addr) (p2 : Int32)  : entryFrame m #[(.ref a0), (.int (3 : Int32)), (.int p2)] 3 = mkF m 0 #[.val (.ref a0), .val (.int (3 : Int32)), .val (.int p2)] [] := by first | (simp [entryFrame, mkF, argsToLocals, Value.category]; done) | rfl
def Q_m14_53 (Z : State) (a0 : Addr) (p2 : Int32) (k_a0 : ClassId) (jj0 : Int32) (jj1 : Int32) (jj2 : Int32) (jj3 : Int32) (jj4 : Int32) (jj5 : Int32) (h0 : Heap) (n0 : Nat) (v : Option Value) (h : Heap) (L : List Loc) : Prop := v = none ∧ Fr n0 L ∧ Keep h0 h [a0] ∧ Arv Z h a0 k_a0 .byte (8 : Int32) [(.int jj0), (.int jj1), (.int jj2), (.int jj3), (.int jj4), (.int jj5), (.int ((p2 >>> ((0 : Int32) &&& 31)).toInt8.toInt32)), (.int ((p2 >>> ((8 : Int32) &&& 31)).toInt8.toInt32))] (.int (0 : Int32))
theorem rm_m14_53 (l : Launch) (Z : State) (aZ : Array Value) (hw : ∀ d ∈ tables_1, d.before aZ Z = true) (ws : List Jvm.Cond) (a0 : Addr) (p2 : Int32) (k_a0 : ClassId) (jj0 : Int32) (jj1 : Int32) (jj2 : Int32) (jj3 : Int32) (jj4 : Int32) (jj5 : Int32) (h0 : Heap) (n0 : Nat) (Z0 : n0 ≤ h0.size) (zz6 : Sta Z Z.heap kc1 "$assertionsDisabled" "Z" (.int (1 : Int32))) (O0 : Old Z n0 h0) (zz7 : Sta Z Z.heap kc1 "HI_BYTE_SHIFT" "I" (.int (0 : Int32))) (V_a0 : Arv Z h0 a0 k_a0 .byte (8 : Int32) [(.int jj0), (.int jj1), (.int jj2), (.int jj3), (.int jj4), (.int jj5), (.int (0 : Int32)), (.int (0 : Int32))] (.int (0 : Int32))) (zz8 : n0 ≤ a0) (zz9 : Sta Z Z.heap kc1 "LO_BYTE_SHIFT" "I" (.int (8 : Int32))) :
    MetN l Z yn_14 jdk_52_method_4_code 3 none ws ({ frames := 0, cells := 0, slots := 0, locals := 0 } : Room) #[(.ref a0), (.int (3 : Int32)), (.int p2)] h0 (Q_m14_53 Z a0 p2 k_a0 jj0 jj1 jj2 jj3 jj4 jj5 h0 n0) := by
 refine MetN.of (plainFor_of_name pn_3) ?_
 intro p e s m below meth c s₁ hret hx hby hml hown hnm hlk hZ X0 e0
 have N0 := Fr.nil n0
 rw [ef_m14_53 m a0 p2]
 refine w_getS X0 hx "" hZ hown (Or.inl (wd_61 hw)) Via.refl e0 (zz6.ext O0.2) (d14_0 hby) (pc' := 3) rfl ?_
 intro T20 X20 e20
 refine w_ifY X20 hx (d14_3 hby) (feq (by decide : ¬ ((1 : Int32) = (0 : Int32)))).2 (pc' := 28) (by decide) (by decide) ?_
 refine w_iloadN X20 hx (d14_28 hby) rfl (pc' := 29) rfl ?_
 refine w_iconst X20 hx (d14_29 hby) (v := (1 : Int32)) rfl (pc' := 30) rfl ?_
 refine w_ishl X20 hx (d14_30 hby) (pc' := 31) rfl ?_
 rw [show ((3 : Int32) <<< ((1 : Int32) &&& 31)) = (6 : Int32) from by decide]
 refine w_istoreN X20 hx (d14_31 hby) (L' := #[.val (.ref a0), .val (.int (6 : Int32)), .val (.int p2)]) rfl (pc' := 32) rfl ?_
 refine w_aloadN X20 hx (d14_32 hby) rfl rfl (pc' := 33) rfl ?_
 refine w_iloadN X20 hx (d14_33 hby) rfl (pc' := 34) rfl ?_
 refine w_iinc X20 hx (d14_34 hby) (v := (1 : Int32)) rfl rfl (L' := #[.val (.ref a0), .val (.int ((6 : Int32) + (1 : Int32))), .val (.int p2)]) rfl (pc' := 37) rfl ?_
 rw [show ((6 : Int32) + (1 : Int32)) = (7 : Int32) from by decide]
 refine w_iloadN X20 hx (d14_37 hby) rfl (pc' := 38) rfl ?_
 refine w_getS X20 hx "" hZ hown (Or.inl (wd_62 hw)) Via.refl e20 (zz7.ext O0.2) (d14_38 hby) (pc' := 41) rfl ?_
 intro T21 X21 e21
 refine w_ishr X21 hx (d14_41 hby) (pc' := 42) rfl ?_
 refine w_i2b X21 hx (d14_42 hby) (pc' := 43) rfl ?_
 obtain ⟨clu22, Aru22, qu22, Su22, Nu22, Hu22, Gu22⟩ := id V_a0
 have hinu22 := inb_of (j := (6 : Int32)) Su22 ⟨by decide, by decide⟩
 refine w_stB X21 hx hZ e21 Aru22 hinu22 (d14_43 hby) (pc' := 44) rfl ?_
 intro T23 h23 X23 e23 W23
 have V24 : Arv Z h23 a0 k_a0 .byte (8 : Int32) [(.int jj0), (.int jj1), (.int jj2), (.int jj3), (.int jj4), (.int jj5), (.int (nar .byte ((p2 >>> ((0 : Int32) &&& 31)).toInt8.toInt32))), (.int (0 : Int32))] (.int (0 : Int32)) := Arv.set Aru22 qu22 Su22 Nu22 Hu22 Gu22 (fits_nar_byte _) W23 6 rfl (Nat.le_of_ble_eq_true rfl)
 have V25 : Arv Z h23 a0 k_a0 .byte (8 : Int32) [(.int jj0), (.int jj1), (.int jj2), (.int jj3), (.int jj4), (.int jj5), (.int ((p2 >>> ((0 : Int32) &&& 31)).toInt8.toInt32)), (.int (0 : Int32))] (.int (0 : Int32)) := by rw [nar_b] at V24; exact V24
 have K26 : Keep h0 h23 [a0] := (Keep.refl h0 [a0]).wr W23 (Or.inl (by simp))
 have N27 := Fr.snoc X23 N0 zz8
 refine w_aloadN X23 hx (d14_44 hby) rfl rfl (pc' := 45) rfl ?_
 refine w_iloadN X23 hx (d14_45 hby) rfl (pc' := 46) rfl ?_
 refine w_iloadN X23 hx (d14_46 hby) rfl (pc' := 47) rfl ?_
 have f28 : Old Z n0 h23 := (O0.wr W23 zz8)
 refine w_getS X23 hx "" hZ hown (Or.inl (wd_63 hw)) Via.refl e23 (zz9.ext f28.2) (d14_47 hby) (pc' := 50) rfl ?_
 intro T29 X29 e29
 refine w_ishr X29 hx (d14_50 hby) (pc' := 51) rfl ?_
 refine w_i2b X29 hx (d14_51 hby) (pc' := 52) rfl ?_
 obtain ⟨clu30, Aru30, qu30, Su30, Nu30, Hu30, Gu30⟩ := id V25
 have hinu30 := inb_of (j := (7 : Int32)) Su30 ⟨by decide, by decide⟩
 refine w_stB X29 hx hZ e29 Aru30 hinu30 (d14_52 hby) (pc' := 53) rfl ?_
 intro T31 h31 X31 e31 W31
 have V32 : Arv Z h31 a0 k_a0 .byte (8 : Int32) [(.int jj0), (.int jj1), (.int jj2), (.int jj3), (.int jj4), (.int jj5), (.int ((p2 >>> ((0 : Int32) &&& 31)).toInt8.toInt32)), (.int (nar .byte ((p2 >>> ((8 : Int32) &&& 31)).toInt8.toInt32)))] (.int (0 : Int32)) := Arv.set Aru30 qu30 Su30 Nu30 Hu30 Gu30 (fits_nar_byte _) W31 7 rfl (Nat.le_of_ble_eq_true rfl)
 have V33 : Arv Z h31 a0 k_a0 .byte (8 : Int32) [(.int jj0), (.int jj1), (.int jj2), (.int jj3), (.int jj4), (.int jj5), (.int ((p2 >>> ((0 : Int32) &&& 31)).toInt8.toInt32)), (.int ((p2 >>> ((8 : Int32) &&& 31)).toInt8.toInt32))] (.int (0 : Int32)) := by rw [nar_b] at V32; exact V32
 have K34 : Keep h0 h31 [a0] := K26.wr W31 (Or.inl (by simp))
 have N35 := Fr.snoc X31 N27 zz8
 exact w_done X31 hlk (v := none) e31 (fun _ => rfl) (fun fs hr => X31.returnOut hx hret (d14_53 hby) hr) (by decide) (by decide) (⟨rfl, N35, K34, V33⟩)
theorem ef_m11_47 (m : MethodId) (a0 : Addr)  : entryFrame m #[(.ref a0), (.int (0 : Int32)), (.int (4 : Int32))] 5 = mkF m 0 #[.val (.ref a0), .val (.int (0 : Int32)), .val (.int (4 : Int32)), .unset, .unset] [] := by first | (simp [entryFrame, mkF, argsToLocals, Value.category]; done) | rfl
def Q_m11_47 (Z : State) (a0 : Addr) (k_a0 : ClassId) (jj0 : Int32) (jj1 : Int32) (jj2 : Int32) (jj3 : Int32) (h0 : Heap) (n0 : Nat) (v : Option Value) (h : Heap) (L : List Loc) : Prop := ∃ (r0 : Addr) (c0 : ClassId), v = some (.ref r0) ∧ Fr n0 L ∧ Keep h0 h [] ∧ h0.size ≤ r0 ∧ Arv Z h r0 c0 .byte (8 : Int32) [(.int ((jj0 >>> ((0 : Int32) &&& 31)).toInt8.toInt32)), (.int ((jj0 >>> ((8 : Int32) &&& 31)).toInt8.toInt32)), (.int ((jj1 >>> ((0 : Int32) &&& 31)).toInt8.toInt32)), (.int ((jj1 >>> ((8 : Int32) &&& 31)).toInt8.toInt32)), (.int ((jj2 >>> ((0 : Int32) &&& 31)).toInt8.toInt32)), (.int ((jj2 >>> ((8 : Int32) &&& 31)).toInt8.toInt32)), (.int ((jj3 >>> ((0 : Int32) &&& 31)).toInt8.toInt32)), (.int ((jj3 >>> ((8 : Int32) &&& 31)).toInt8.toInt32))] (.int (0 : Int32))
theorem rm_m11_47 (l : Launch) (Z : State) (aZ : Array Value) (hw : ∀ d ∈ tables_1, d.before aZ Z = true) (ws : List Jvm.Cond) (a0 : Addr) (k_a0 : ClassId) (jj0 : Int32) (jj1 : Int32) (jj2 : Int32) (jj3 : Int32) (h0 : Heap) (n0 : Nat) (Z0 : n0 ≤ h0.size) (V_a0 : Arv Z h0 a0 k_a0 .char (4 : Int32) [(.int jj0), (.int jj1), (.int jj2), (.int jj3)] (.int (0 : Int32))) (zz4 : Sta Z Z.heap kc1 "$assertionsDisabled" "Z" (.int (1 : Int32))) (O0 : Old Z n0 h0) (zz5 : Sta Z Z.heap kc1 "HI_BYTE_SHIFT" "I" (.int (0 : Int32))) (zz6 : Sta Z Z.heap kc1 "LO_BYTE_SHIFT" "I" (.int (8 : Int32))) :
    MetN l Z yn_11 jdk_52_method_14_code 5 (some (.array .byte)) ws ({ frames := 2, cells := 1, slots := 8, locals := 24 } : Room) #[(.ref a0), (.int (0 : Int32)), (.int (4 : Int32))] h0 (Q_m11_47 Z a0 k_a0 jj0 jj1 jj2 jj3 h0 n0) := by
 refine MetN.of (plainFor_of_name pn_3) ?_
 intro p e s m below meth c s₁ hret hx hby hml hown hnm hlk hZ X0 e0
 have N0 := Fr.nil n0
 rw [ef_m11_47 m a0]
 refine w_iloadN X0 hx (d11_0 hby) rfl (pc' := 1) rfl ?_
 refine w_static X0 hx (y := yn_12) hown (mvT hZ (wd_51 hw)) (mvT hZ (wd_52 hw)) (mvT hZ (wd_40 hw)) (mvT hZ (wd_53 hw)) (by decide) (backOf (W := 0) (rm_m12_48 l Z aZ hw []  h0 n0 Z0 ) hZ (wd_53 hw) (wd_40 hw) (by decide) (by decide)) (by rw [hml]; rfl) [(.int (4 : Int32))] (lenOf pd_6 rfl) rfl (Nat.le_of_eq rfl) (d11_1 hby) (fun _ _ => ⟨rfl, e0, (by decide : 0 + 1 ≤ _), (by decide : 0 + 8 ≤ _)⟩) (pc' := 4) rfl ?_
 rintro _ _ ⟨T20, L20, k20, n20⟩ X20 ⟨Lc20, hQ20, l20, y20, z20⟩
 dsimp only [Pt.U, Pt.locs, Pt.cells, Pt.slots] at X20 l20 y20 z20 hQ20 ⊢
 rw [l20, y20, z20] at X20
 obtain ⟨r0_20, c0_20, rfl, N20q, K20, g20_0, g20_1⟩ := hQ20
 have N21 := Fr.app N0 N20q
 have K22 : Keep h0 T20.heap [] := (Keep.refl h0 []).trans K20 (all0 (P := fun x => x ∈ [] ∨ h0.size ≤ x))
 have ge23 : n0 ≤ r0_20 := Nat.le_trans Z0 g20_0
 have sz24 : h0.size ≤ r0_20 := Nat.le_trans (Nat.le_refl _) g20_0
 show Runs _ _ _ _ (T20.setTop (mkF m 4 #[.val (.ref a0), .val (.int (0 : Int32)), .val (.int (4 : Int32)), .unset, .unset] [(.ref r0_20)]))
 refine w_astoreN X20 hx (d11_4 hby) rfl (L' := #[.val (.ref a0), .val (.int (0 : Int32)), .val (.int (4 : Int32)), .val (.ref r0_20), .unset]) rfl (pc' := 5) rfl ?_
 refine w_iconst X20 hx (d11_5 hby) (v := (0 : Int32)) rfl (pc' := 6) rfl ?_
 refine w_istore X20 hx (d11_6 hby) (L' := #[.val (.ref a0), .val (.int (0 : Int32)), .val (.int (4 : Int32)), .val (.ref r0_20), .val (.int (0 : Int32))]) rfl (pc' := 8) rfl ?_
 refine w_iload X20 hx (d11_8 hby) rfl (pc' := 10) rfl ?_
 refine w_iloadN X20 hx (d11_10 hby) rfl (pc' := 11) rfl ?_
 refine w_icN X20 hx (d11_11 hby) (tlt (by decide : (0 : Int32) < (4 : Int32))).2.1 (pc' := 14) rfl ?_
 refine w_aloadN X20 hx (d11_14 hby) rfl rfl (pc' := 15) rfl ?_
 refine w_iload X20 hx (d11_15 hby) rfl (pc' := 17) rfl ?_
 refine w_aloadN X20 hx (d11_17 hby) rfl rfl (pc' := 18) rfl ?_
 refine w_iloadN X20 hx (d11_18 hby) rfl (pc' := 19) rfl ?_
 have f25 : Arv Z T20.heap a0 k_a0 .char (4 : Int32) [(.int jj0), (.int jj1), (.int jj2), (.int jj3)] (.int (0 : Int32)) := (V_a0.keep K20 nin0)
 obtain ⟨clu26, Aru26, qu26, Su26, Nu26, Hu26, Gu26⟩ := id f25
 have hinu26 := inb_of (j := (0 : Int32)) Su26 ⟨by decide, by decide⟩
 refine w_caload X20 hx hZ rfl Aru26 hinu26 (Hu26.at hinu26 rfl) (d11_19 hby) (pc' := 20) rfl ?_
 have f30 : Old Z n0 T20.heap := (O0.keep K20 all0)
 refine w_static X20 hx (y := yn_14) hown (mvT hZ (wd_58 hw)) (mvT hZ (wd_59 hw)) (mvT hZ (wd_40 hw)) (mvT hZ (wd_60 hw)) (by decide) (backOf (W := 0) (rm_m14_50 l Z aZ hw [] r0_20 jj0 c0_20 T20.heap n0 (Nat.le_trans Z0 K20.1) zz4 f30 zz5 g20_1 ge23 zz6) hZ (wd_60 hw) (wd_40 hw) (by decide) (by decide)) (by rw [hml]; rfl) [(.ref r0_20), (.int (0 : Int32)), (.int jj0)] (lenOf pd_7 rfl) rfl (Nat.le_of_eq rfl) (d11_20 hby) (fun _ _ => ⟨rfl, rfl, (by decide : 1 + 0 ≤ _), (by decide : 8 + 0 ≤ _)⟩) (pc' := 23) rfl ?_
 rintro _ _ ⟨T31, L31, k31, n31⟩ X31 ⟨Lc31, hQ31, l31, y31, z31⟩
 dsimp only [Pt.U, Pt.locs, Pt.cells, Pt.slots] at X31 l31 y31 z31 hQ31 ⊢
 rw [l31, y31, z31] at X31
 obtain ⟨rfl, N31q, K31, g31_0⟩ := hQ31
 have N32 := Fr.app N21 N31q
 have K33 : Keep h0 T31.heap [] := K22.trans K31 (allS (Or.inr sz24) (all0 (P := fun x => x ∈ [] ∨ h0.size ≤ x)))
 show Runs _ _ _ _ (T31.setTop (mkF m 23 #[.val (.ref a0), .val (.int (0 : Int32)), .val (.int (4 : Int32)), .val (.ref r0_20), .val (.int (0 : Int32))] []))
 refine w_iinc X31 hx (d11_23 hby) (v := (1 : Int32)) rfl rfl (L' := #[.val (.ref a0), .val (.int ((0 : Int32) + (1 : Int32))), .val (.int (4 : Int32)), .val (.ref r0_20), .val (.int (0 : Int32))]) rfl (pc' := 26) rfl ?_
 rw [show ((0 : Int32) + (1 : Int32)) = (1 : Int32) from by decide]
 refine w_iinc X31 hx (d11_26 hby) (v := (1 : Int32)) rfl rfl (L' := #[.val (.ref a0), .val (.int (1 : Int32)), .val (.int (4 : Int32)), .val (.ref r0_20), .val (.int ((0 : Int32) + (1 : Int32)))]) rfl (pc' := 29) rfl ?_
 rw [show ((0 : Int32) + (1 : Int32)) = (1 : Int32) from by decide]
 refine w_goto X31 hx (d11_29 hby) (pc' := 8) (by decide) (by decide) ?_
 refine w_iload X31 hx (d11_8 hby) rfl (pc' := 10) rfl ?_
 refine w_iloadN X31 hx (d11_10 hby) rfl (pc' := 11) rfl ?_
 refine w_icN X31 hx (d11_11 hby) (tlt (by decide : (1 : Int32) < (4 : Int32))).2.1 (pc' := 14) rfl ?_
 refine w_aloadN X31 hx (d11_14 hby) rfl rfl (pc' := 15) rfl ?_
 refine w_iload X31 hx (d11_15 hby) rfl (pc' := 17) rfl ?_
 refine w_aloadN X31 hx (d11_17 hby) rfl rfl (pc' := 18) rfl ?_
 refine w_iloadN X31 hx (d11_18 hby) rfl (pc' := 19) rfl ?_
 have ne34 : a0 ≠ r0_20 := (Nat.ne_of_lt (Nat.lt_of_lt_of_le V_a0.lt (Nat.le_trans (Nat.le_refl _) g20_0)))
 have f35 : Arv Z T31.heap a0 k_a0 .char (4 : Int32) [(.int jj0), (.int jj1), (.int jj2), (.int jj3)] (.int (0 : Int32)) := (f25.keep K31 (ninS ne34 nin0))
 obtain ⟨clu36, Aru36, qu36, Su36, Nu36, Hu36, Gu36⟩ := id f35
 have hinu36 := inb_of (j := (1 : Int32)) Su36 ⟨by decide, by decide⟩
 refine w_caload X31 hx hZ rfl Aru36 hinu36 (Hu36.at hinu36 rfl) (d11_19 hby) (pc' := 20) rfl ?_
 have f39 : Old Z n0 T31.heap := (f30.keep K31 (allS ge23 all0))
 have le40 : h0.size ≤ T31.heap.size := (Nat.le_trans K20.1 K31.1)
 refine w_static X31 hx (y := yn_14) hown (mvT hZ (wd_58 hw)) (mvT hZ (wd_59 hw)) (mvT hZ (wd_40 hw)) (mvT hZ (wd_60 hw)) (by decide) (backOf (W := 0) (rm_m14_51 l Z aZ hw [] r0_20 jj1 c0_20 ((jj0 >>> ((0 : Int32) &&& 31)).toInt8.toInt32) ((jj0 >>> ((8 : Int32) &&& 31)).toInt8.toInt32) T31.heap n0 (Nat.le_trans Z0 le40) zz4 f39 zz5 g31_0 ge23 zz6) hZ (wd_60 hw) (wd_40 hw) (by decide) (by decide)) (by rw [hml]; rfl) [(.ref r0_20), (.int (1 : Int32)), (.int jj1)] (lenOf pd_7 rfl) rfl (Nat.le_of_eq rfl) (d11_20 hby) (fun _ _ => ⟨rfl, rfl, (by decide : 1 + 0 ≤ _), (by decide : 8 + 0 ≤ _)⟩) (pc' := 23) rfl ?_
 rintro _ _ ⟨T41, L41, k41, n41⟩ X41 ⟨Lc41, hQ41, l41, y41, z41⟩
 dsimp only [Pt.U, Pt.locs, Pt.cells, Pt.slots] at X41 l41 y41 z41 hQ41 ⊢
 rw [l41, y41, z41] at X41
 obtain ⟨rfl, N41q, K41, g41_0⟩ := hQ41
 have N42 := Fr.app N32 N41q
 have K43 : Keep h0 T41.heap [] := K33.trans K41 (allS (Or.inr sz24) (all0 (P := fun x => x ∈ [] ∨ h0.size ≤ x)))
 show Runs _ _ _ _ (T41.setTop (mkF m 23 #[.val (.ref a0), .val (.int (1 : Int32)), .val (.int (4 : Int32)), .val (.ref r0_20), .val (.int (1 : Int32))] []))
 refine w_iinc X41 hx (d11_23 hby) (v := (1 : Int32)) rfl rfl (L' := #[.val (.ref a0), .val (.int ((1 : Int32) + (1 : Int32))), .val (.int (4 : Int32)), .val (.ref r0_20), .val (.int (1 : Int32))]) rfl (pc' := 26) rfl ?_
 rw [show ((1 : Int32) + (1 : Int32)) = (2 : Int32) from by decide]
 refine w_iinc X41 hx (d11_26 hby) (v := (1 : Int32)) rfl rfl (L' := #[.val (.ref a0), .val (.int (2 : Int32)), .val (.int (4 : Int32)), .val (.ref r0_20), .val (.int ((1 : Int32) + (1 : Int32)))]) rfl (pc' := 29) rfl ?_
 rw [show ((1 : Int32) + (1 : Int32)) = (2 : Int32) from by decide]
 refine w_goto X41 hx (d11_29 hby) (pc' := 8) (by decide) (by decide) ?_
 refine w_iload X41 hx (d11_8 hby) rfl (pc' := 10) rfl ?_
 refine w_iloadN X41 hx (d11_10 hby) rfl (pc' := 11) rfl ?_
 refine w_icN X41 hx (d11_11 hby) (tlt (by decide : (2 : Int32) < (4 : Int32))).2.1 (pc' := 14) rfl ?_
 refine w_aloadN X41 hx (d11_14 hby) rfl rfl (pc' := 15) rfl ?_
 refine w_iload X41 hx (d11_15 hby) rfl (pc' := 17) rfl ?_
 refine w_aloadN X41 hx (d11_17 hby) rfl rfl (pc' := 18) rfl ?_
 refine w_iloadN X41 hx (d11_18 hby) rfl (pc' := 19) rfl ?_
 have f44 : Arv Z T41.heap a0 k_a0 .char (4 : Int32) [(.int jj0), (.int jj1), (.int jj2), (.int jj3)] (.int (0 : Int32)) := (f35.keep K41 (ninS ne34 nin0))
 obtain ⟨clu45, Aru45, qu45, Su45, Nu45, Hu45, Gu45⟩ := id f44
 have hinu45 := inb_of (j := (2 : Int32)) Su45 ⟨by decide, by decide⟩
 refine w_caload X41 hx hZ rfl Aru45 hinu45 (Hu45.at hinu45 rfl) (d11_19 hby) (pc' := 20) rfl ?_
 have f47 : Old Z n0 T41.heap := (f39.keep K41 (allS ge23 all0))
 have le48 : h0.size ≤ T41.heap.size := (Nat.le_trans le40 K41.1)
 refine w_static X41 hx (y := yn_14) hown (mvT hZ (wd_58 hw)) (mvT hZ (wd_59 hw)) (mvT hZ (wd_40 hw)) (mvT hZ (wd_60 hw)) (by decide) (backOf (W := 0) (rm_m14_52 l Z aZ hw [] r0_20 jj2 c0_20 ((jj0 >>> ((0 : Int32) &&& 31)).toInt8.toInt32) ((jj0 >>> ((8 : Int32) &&& 31)).toInt8.toInt32) ((jj1 >>> ((0 : Int32) &&& 31)).toInt8.toInt32) ((jj1 >>> ((8 : Int32) &&& 31)).toInt8.toInt32) T41.heap n0 (Nat.le_trans Z0 le48) zz4 f47 zz5 g41_0 ge23 zz6) hZ (wd_60 hw) (wd_40 hw) (by decide) (by decide)) (by rw [hml]; rfl) [(.ref r0_20), (.int (2 : Int32)), (.int jj2)] (lenOf pd_7 rfl) rfl (Nat.le_of_eq rfl) (d11_20 hby) (fun _ _ => ⟨rfl, rfl, (by decide : 1 + 0 ≤ _), (by decide : 8 + 0 ≤ _)⟩) (pc' := 23) rfl ?_
 rintro _ _ ⟨T49, L49, k49, n49⟩ X49 ⟨Lc49, hQ49, l49, y49, z49⟩
 dsimp only [Pt.U, Pt.locs, Pt.cells, Pt.slots] at X49 l49 y49 z49 hQ49 ⊢
 rw [l49, y49, z49] at X49
 obtain ⟨rfl, N49q, K49, g49_0⟩ := hQ49
 have N50 := Fr.app N42 N49q
 have K51 : Keep h0 T49.heap [] := K43.trans K49 (allS (Or.inr sz24) (all0 (P := fun x => x ∈ [] ∨ h0.size ≤ x)))
 show Runs _ _ _ _ (T49.setTop (mkF m 23 #[.val (.ref a0), .val (.int (2 : Int32)), .val (.int (4 : Int32)), .val (.ref r0_20), .val (.int (2 : Int32))] []))
 refine w_iinc X49 hx (d11_23 hby) (v := (1 : Int32)) rfl rfl (L' := #[.val (.ref a0), .val (.int ((2 : Int32) + (1 : Int32))), .val (.int (4 : Int32)), .val (.ref r0_20), .val (.int (2 : Int32))]) rfl (pc' := 26) rfl ?_
 rw [show ((2 : Int32) + (1 : Int32)) = (3 : Int32) from by decide]
 refine w_iinc X49 hx (d11_26 hby) (v := (1 : Int32)) rfl rfl (L' := #[.val (.ref a0), .val (.int (3 : Int32)), .val (.int (4 : Int32)), .val (.ref r0_20), .val (.int ((2 : Int32) + (1 : Int32)))]) rfl (pc' := 29) rfl ?_
 rw [show ((2 : Int32) + (1 : Int32)) = (3 : Int32) from by decide]
 refine w_goto X49 hx (d11_29 hby) (pc' := 8) (by decide) (by decide) ?_
 refine w_iload X49 hx (d11_8 hby) rfl (pc' := 10) rfl ?_
 refine w_iloadN X49 hx (d11_10 hby) rfl (pc' := 11) rfl ?_
 refine w_icN X49 hx (d11_11 hby) (tlt (by decide : (3 : Int32) < (4 : Int32))).2.1 (pc' := 14) rfl ?_
 refine w_aloadN X49 hx (d11_14 hby) rfl rfl (pc' := 15) rfl ?_
 refine w_iload X49 hx (d11_15 hby) rfl (pc' := 17) rfl ?_
 refine w_aloadN X49 hx (d11_17 hby) rfl rfl (pc' := 18) rfl ?_
 refine w_iloadN X49 hx (d11_18 hby) rfl (pc' := 19) rfl ?_
 have f52 : Arv Z T49.heap a0 k_a0 .char (4 : Int32) [(.int jj0), (.int jj1), (.int jj2), (.int jj3)] (.int (0 : Int32)) := (f44.keep K49 (ninS ne34 nin0))
 obtain ⟨clu53, Aru53, qu53, Su53, Nu53, Hu53, Gu53⟩ := id f52
 have hinu53 := inb_of (j := (3 : Int32)) Su53 ⟨by decide, by decide⟩
 refine w_caload X49 hx hZ rfl Aru53 hinu53 (Hu53.at hinu53 rfl) (d11_19 hby) (pc' := 20) rfl ?_
 have f54 : Old Z n0 T49.heap := (f47.keep K49 (allS ge23 all0))
 have le55 : h0.size ≤ T49.heap.size := (Nat.le_trans le48 K49.1)
 refine w_static X49 hx (y := yn_14) hown (mvT hZ (wd_58 hw)) (mvT hZ (wd_59 hw)) (mvT hZ (wd_40 hw)) (mvT hZ (wd_60 hw)) (by decide) (backOf (W := 0) (rm_m14_53 l Z aZ hw [] r0_20 jj3 c0_20 ((jj0 >>> ((0 : Int32) &&& 31)).toInt8.toInt32) ((jj0 >>> ((8 : Int32) &&& 31)).toInt8.toInt32) ((jj1 >>> ((0 : Int32) &&& 31)).toInt8.toInt32) ((jj1 >>> ((8 : Int32) &&& 31)).toInt8.toInt32) ((jj2 >>> ((0 : Int32) &&& 31)).toInt8.toInt32) ((jj2 >>> ((8 : Int32) &&& 31)).toInt8.toInt32) T49.heap n0 (Nat.le_trans Z0 le55) zz4 f54 zz5 g49_0 ge23 zz6) hZ (wd_60 hw) (wd_40 hw) (by decide) (by decide)) (by rw [hml]; rfl) [(.ref r0_20), (.int (3 : Int32)), (.int jj3)] (lenOf pd_7 rfl) rfl (Nat.le_of_eq rfl) (d11_20 hby) (fun _ _ => ⟨rfl, rfl, (by decide : 1 + 0 ≤ _), (by decide : 8 + 0 ≤ _)⟩) (pc' := 23) rfl ?_
 rintro _ _ ⟨T56, L56, k56, n56⟩ X56 ⟨Lc56, hQ56, l56, y56, z56⟩
 dsimp only [Pt.U, Pt.locs, Pt.cells, Pt.slots] at X56 l56 y56 z56 hQ56 ⊢
 rw [l56, y56, z56] at X56
 obtain ⟨rfl, N56q, K56, g56_0⟩ := hQ56
 have N57 := Fr.app N50 N56q
 have K58 : Keep h0 T56.heap [] := K51.trans K56 (allS (Or.inr sz24) (all0 (P := fun x => x ∈ [] ∨ h0.size ≤ x)))
 show Runs _ _ _ _ (T56.setTop (mkF m 23 #[.val (.ref a0), .val (.int (3 : Int32)), .val (.int (4 : Int32)), .val (.ref r0_20), .val (.int (3 : Int32))] []))
 refine w_iinc X56 hx (d11_23 hby) (v := (1 : Int32)) rfl rfl (L' := #[.val (.ref a0), .val (.int ((3 : Int32) + (1 : Int32))), .val (.int (4 : Int32)), .val (.ref r0_20), .val (.int (3 : Int32))]) rfl (pc' := 26) rfl ?_
 rw [show ((3 : Int32) + (1 : Int32)) = (4 : Int32) from by decide]
 refine w_iinc X56 hx (d11_26 hby) (v := (1 : Int32)) rfl rfl (L' := #[.val (.ref a0), .val (.int (4 : Int32)), .val (.int (4 : Int32)), .val (.ref r0_20), .val (.int ((3 : Int32) + (1 : Int32)))]) rfl (pc' := 29) rfl ?_
 rw [show ((3 : Int32) + (1 : Int32)) = (4 : Int32) from by decide]
 refine w_goto X56 hx (d11_29 hby) (pc' := 8) (by decide) (by decide) ?_
 refine w_iload X56 hx (d11_8 hby) rfl (pc' := 10) rfl ?_
 refine w_iloadN X56 hx (d11_10 hby) rfl (pc' := 11) rfl ?_
 refine w_icY X56 hx (d11_11 hby) (flt (by decide : ¬ ((4 : Int32) < (4 : Int32)))).2.1 (pc' := 32) (by decide) (by decide) ?_
 refine w_aloadN X56 hx (d11_32 hby) rfl rfl (pc' := 33) rfl ?_
 exact w_done X56 hlk (v := some (.ref r0_20)) rfl (fun h => by rw [hret] at h; cases h) (fun fs hr => retOut X56 hx hret rfl (Or.inr (Or.inr (Or.inr (Or.inr ⟨rfl, rfl, rfl⟩)))) (d11_33 hby) hr) (by decide) (by decide) (⟨r0_20, c0_20, rfl, N57, K58, sz24, g56_0⟩)
theorem ef_m15_54 (m : MethodId) (a0 : Addr) (p1 : Int32)  : entryFrame m #[(.ref a0), (.int p1)] 2 = mkF m 0 #[.val (.ref a0), .val (.int p1)] [] := by first | (simp [entryFrame, mkF, argsToLocals, Value.category]; done) | rfl
def Q_m15_54 (Z : State) (a0 : Addr) (p1 : Int32) (k_a0 : ClassId) (jj0 : Int32) (jj1 : Int32) (jj2 : Int32) (jj3 : Int32) (jj4 : Int32) (jj5 : Int32) (jj6 : Int32) (jj7 : Int32) (h0 : Heap) (n0 : Nat) (v : Option Value) (h : Heap) (L : List Loc) : Prop := v = some (.int (((((gI [jj0, jj1, jj2, jj3, jj4, jj5, jj6, jj7] (p1 <<< ((1 : Int32) &&& 31))) &&& (255 : Int32)) <<< ((0 : Int32) &&& 31)) ||| (((gI [jj0, jj1, jj2, jj3, jj4, jj5, jj6, jj7] ((p1 <<< ((1 : Int32) &&& 31)) + (1 : Int32))) &&& (255 : Int32)) <<< ((8 : Int32) &&& 31))).toUInt32.toUInt16.toUInt32.toInt32)) ∧ Fr n0 L ∧ h = h0
theorem rm_m15_54 (l : Launch) (Z : State) (aZ : Array Value) (hw : ∀ d ∈ tables_1, d.before aZ Z = true) (ws : List Jvm.Cond) (a0 : Addr) (p1 : Int32) (k_a0 : ClassId) (jj0 : Int32) (jj1 : Int32) (jj2 : Int32) (jj3 : Int32) (jj4 : Int32) (jj5 : Int32) (jj6 : Int32) (jj7 : Int32) (h0 : Heap) (n0 : Nat) (Z0 : n0 ≤ h0.size) (zz8 : Sta Z Z.heap kc1 "$assertionsDisabled" "Z" (.int (1 : Int32))) (O0 : Old Z n0 h0) (V_a0 : Arv Z h0 a0 k_a0 .byte (8 : Int32) [(.int jj0), (.int jj1), (.int jj2), (.int jj3), (.int jj4), (.int jj5), (.int jj6), (.int jj7)] (.int (0 : Int32))) (hP_3 : ¬ (p1 < (0 : Int32))) (hP_4 : p1 < (4 : Int32)) (zz9 : Sta Z Z.heap kc1 "HI_BYTE_SHIFT" "I" (.int (0 : Int32))) (zz10 : Sta Z Z.heap kc1 "LO_BYTE_SHIFT" "I" (.int (8 : Int32))) :
    MetN l Z yn_15 jdk_52_method_5_code 2 (some .char) ws ({ frames := 0, cells := 0, slots := 0, locals := 0 } : Room) #[(.ref a0), (.int p1)] h0 (Q_m15_54 Z a0 p1 k_a0 jj0 jj1 jj2 jj3 jj4 jj5 jj6 jj7 h0 n0) := by
 refine MetN.of (plainFor_of_name pn_3) ?_
 intro p e s m below meth c s₁ hret hx hby hml hown hnm hlk hZ X0 e0
 have N0 := Fr.nil n0
 rw [ef_m15_54 m a0 p1]
 refine w_getS X0 hx "" hZ hown (Or.inl (wd_61 hw)) Via.refl e0 (zz8.ext O0.2) (d15_0 hby) (pc' := 3) rfl ?_
 intro T20 X20 e20
 refine w_ifY X20 hx (d15_3 hby) (feq (by decide : ¬ ((1 : Int32) = (0 : Int32)))).2 (pc' := 28) (by decide) (by decide) ?_
 refine w_iloadN X20 hx (d15_28 hby) rfl (pc' := 29) rfl ?_
 refine w_iconst X20 hx (d15_29 hby) (v := (1 : Int32)) rfl (pc' := 30) rfl ?_
 refine w_ishl X20 hx (d15_30 hby) (pc' := 31) rfl ?_
 refine w_istoreN X20 hx (d15_31 hby) (L' := #[.val (.ref a0), .val (.int (p1 <<< ((1 : Int32) &&& 31)))]) rfl (pc' := 32) rfl ?_
 refine w_aloadN X20 hx (d15_32 hby) rfl rfl (pc' := 33) rfl ?_
 refine w_iloadN X20 hx (d15_33 hby) rfl (pc' := 34) rfl ?_
 refine w_iinc X20 hx (d15_34 hby) (v := (1 : Int32)) rfl rfl (L' := #[.val (.ref a0), .val (.int ((p1 <<< ((1 : Int32) &&& 31)) + (1 : Int32)))]) rfl (pc' := 37) rfl ?_
 obtain ⟨clu21, Aru21, qu21, Su21, Nu21, Hu21, Gu21⟩ := id V_a0
 have hinu21 := inb_of (j := (p1 <<< ((1 : Int32) &&& 31))) Su21 ⟨(own_shl_in (n := 4) (by decide) (by decide) hP_3 hP_4).1.1, (Eq.mp (congrArg (fun z => (p1 <<< ((1 : Int32) &&& 31)) < z) (by decide : (4 : Int32) <<< ((1 : Int32) &&& 31) = 8)) (own_shl_in (n := 4) (by decide) (by decide) hP_3 hP_4).1.2)⟩
 refine w_baload X20 hx hZ e20 Aru21 hinu21 (Hu21.at hinu21 (own_gI [jj0, jj1, jj2, jj3, jj4, jj5, jj6, jj7] (p1 <<< ((1 : Int32) &&& 31)))) (d15_37 hby) (pc' := 38) rfl ?_
 refine w_sipush X20 hx (d15_38 hby) (v := (255 : Int32)) rfl (pc' := 41) rfl ?_
 refine w_iand X20 hx (d15_41 hby) (pc' := 42) rfl ?_
 refine w_getS X20 hx "" hZ hown (Or.inl (wd_62 hw)) Via.refl e20 (zz9.ext O0.2) (d15_42 hby) (pc' := 45) rfl ?_
 intro T22 X22 e22
 refine w_ishl X22 hx (d15_45 hby) (pc' := 46) rfl ?_
 refine w_aloadN X22 hx (d15_46 hby) rfl rfl (pc' := 47) rfl ?_
 refine w_iloadN X22 hx (d15_47 hby) rfl (pc' := 48) rfl ?_
 obtain ⟨clu23, Aru23, qu23, Su23, Nu23, Hu23, Gu23⟩ := id V_a0
 have hinu23 := inb_of (j := ((p1 <<< ((1 : Int32) &&& 31)) + (1 : Int32))) Su23 ⟨(own_shl_in (n := 4) (by decide) (by decide) hP_3 hP_4).2.1, (Eq.mp (congrArg (fun z => ((p1 <<< ((1 : Int32) &&& 31)) + (1 : Int32)) < z) (by decide : (4 : Int32) <<< ((1 : Int32) &&& 31) = 8)) (own_shl_in (n := 4) (by decide) (by decide) hP_3 hP_4).2.2)⟩
 refine w_baload X22 hx hZ e22 Aru23 hinu23 (Hu23.at hinu23 (own_gI [jj0, jj1, jj2, jj3, jj4, jj5, jj6, jj7] ((p1 <<< ((1 : Int32) &&& 31)) + (1 : Int32)))) (d15_48 hby) (pc' := 49) rfl ?_
 refine w_sipush X22 hx (d15_49 hby) (v := (255 : Int32)) rfl (pc' := 52) rfl ?_
 refine w_iand X22 hx (d15_52 hby) (pc' := 53) rfl ?_
 refine w_getS X22 hx "" hZ hown (Or.inl (wd_63 hw)) Via.refl e22 (zz10.ext O0.2) (d15_53 hby) (pc' := 56) rfl ?_
 intro T24 X24 e24
 refine w_ishl X24 hx (d15_56 hby) (pc' := 57) rfl ?_
 refine w_ior X24 hx (d15_57 hby) (pc' := 58) rfl ?_
 refine w_i2c X24 hx (d15_58 hby) (pc' := 59) rfl ?_
 exact w_done X24 hlk (v := some (.int (((((gI [jj0, jj1, jj2, jj3, jj4, jj5, jj6, jj7] (p1 <<< ((1 : Int32) &&& 31))) &&& (255 : Int32)) <<< ((0 : Int32) &&& 31)) ||| (((gI [jj0, jj1, jj2, jj3, jj4, jj5, jj6, jj7] ((p1 <<< ((1 : Int32) &&& 31)) + (1 : Int32))) &&& (255 : Int32)) <<< ((8 : Int32) &&& 31))).toUInt32.toUInt16.toUInt32.toInt32))) e24 (fun h => by rw [hret] at h; cases h) (fun fs hr => retOut X24 hx hret (t := .char) (XT.narrow_c _) (Or.inl ⟨rfl, by simp, _, rfl⟩) (d15_59 hby) hr) (by decide) (by decide) (⟨rfl, N0, rfl⟩)
theorem ef_m8_45 (m : MethodId) (a0 : Addr)  : entryFrame m #[(.ref a0), (.int (0 : Int32)), (.int (4 : Int32))] 6 = mkF m 0 #[.val (.ref a0), .val (.int (0 : Int32)), .val (.int (4 : Int32)), .unset, .unset, .unset] [] := by first | (simp [entryFrame, mkF, argsToLocals, Value.category]; done) | rfl
def Q_m8_45 (Z : State) (a0 : Addr) (k_a0 : ClassId) (jj0 : Int32) (jj1 : Int32) (jj2 : Int32) (jj3 : Int32) (h0 : Heap) (n0 : Nat) (v : Option Value) (h : Heap) (L : List Loc) : Prop := (∃ (t : Addr) (kb : ClassId), v = some (.ref t) ∧ Fr n0 L ∧ Keep h0 h [] ∧ h0.size ≤ t ∧ Arv Z h t kb .byte (4 : Int32) [(.int (jj0.toInt8.toInt32)), (.int (jj1.toInt8.toInt32)), (.int (jj2.toInt8.toInt32)), (.int (jj3.toInt8.toInt32))] (.int (0 : Int32)) ∧ ¬ ((255 : Int32) < jj0) ∧ ¬ ((255 : Int32) < jj1) ∧ ¬ ((255 : Int32) < jj2) ∧ ¬ ((255 : Int32) < jj3)) ∨ (∃ (t : Addr) (kb : ClassId), v = some (.ref t) ∧ Fr n0 L ∧ Keep h0 h [] ∧ h0.size ≤ t ∧ Arv Z h t kb .byte (8 : Int32) [(.int ((jj0 >>> ((0 : Int32) &&& 31)).toInt8.toInt32)), (.int ((jj0 >>> ((8 : Int32) &&& 31)).toInt8.toInt32)), (.int ((jj1 >>> ((0 : Int32) &&& 31)).toInt8.toInt32)), (.int ((jj1 >>> ((8 : Int32) &&& 31)).toInt8.toInt32)), (.int ((jj2 >>> ((0 : Int32) &&& 31)).toInt8.toInt32)), (.int ((jj2 >>> ((8 : Int32) &&& 31)).toInt8.toInt32)), (.int ((jj3 >>> ((0 : Int32) &&& 31)).toInt8.toInt32)), (.int ((jj3 >>> ((8 : Int32) &&& 31)).toInt8.toInt32))] (.int (0 : Int32)) ∧ ((255 : Int32) < jj0 ∨ (255 : Int32) < jj1 ∨ (255 : Int32) < jj2 ∨ (255 : Int32) < jj3))
theorem rm_m8_45 (l : Launch) (Z : State) (aZ : Array Value) (hw : ∀ d ∈ tables_1, d.before aZ Z = true) (ws : List Jvm.Cond) (a0 : Addr) (k_a0 : ClassId) (jj0 : Int32) (jj1 : Int32) (jj2 : Int32) (jj3 : Int32) (h0 : Heap) (n0 : Nat) (Z0 : n0 ≤ h0.size) (V_a0 : Arv Z h0 a0 k_a0 .char (4 : Int32) [(.int jj0), (.int jj1), (.int jj2), (.int jj3)] (.int (0 : Int32))) (zz4 : Sta Z Z.heap kc1 "$assertionsDisabled" "Z" (.int (1 : Int32))) (O0 : Old Z n0 h0) (zz5 : Sta Z Z.heap kc1 "HI_BYTE_SHIFT" "I" (.int (0 : Int32))) (zz6 : Sta Z Z.heap kc1 "LO_BYTE_SHIFT" "I" (.int (8 : Int32))) (zz7 : nar .char jj0 = jj0) (zz8 : nar .char jj1 = jj1) (zz9 : nar .char jj2 = jj2) (zz10 : nar .char jj3 = jj3) :
    MetN l Z yn_8 jdk_52_method_16_code 6 (some (.array .byte)) ws ({ frames := 3, cells := 2, slots := 12, locals := 40 } : Room) #[(.ref a0), (.int (0 : Int32)), (.int (4 : Int32))] h0 (Q_m8_45 Z a0 k_a0 jj0 jj1 jj2 jj3 h0 n0) := by
 refine MetN.of (plainFor_of_name pn_3) ?_
 intro p e s m below meth c s₁ hret hx hby hml hown hnm hlk hZ X0 e0
 have N0 := Fr.nil n0
 rw [ef_m8_45 m a0]
 refine w_iloadN X0 hx (d8_0 hby) rfl (pc' := 1) rfl ?_
 refine w_newP X0 hx .byte .byte 4 rfl hZ (wd_26 hw) e0 (d8_1 hby) (by decide) (by decide) (by decide) (by decide) (by decide) (pc' := 3) rfl ?_
 intro T20 h20 k20 b20 X20 e20 E20 g20 A20
 have ge21 : n0 ≤ b20 := Nat.le_trans Z0 (Nat.le_of_eq g20.symm)
 have sz22 : h0.size ≤ b20 := Nat.le_trans (Nat.le_refl _) (Nat.le_of_eq g20.symm)
 have K23 : Keep h0 h20 [] := (Keep.refl h0 []).ext E20
 have V24 : Arv Z h20 b20 k20 .byte (4 : Int32) [(.int (0 : Int32)), (.int (0 : Int32)), (.int (0 : Int32)), (.int (0 : Int32))] (.int (0 : Int32)) := (Arv.new A20 (by decide)).pad (pad_rep [] (.int (0 : Int32)) 4)
 refine w_astoreN X20 hx (d8_3 hby) rfl (L' := #[.val (.ref a0), .val (.int (0 : Int32)), .val (.int (4 : Int32)), .val (.ref b20), .unset, .unset]) rfl (pc' := 4) rfl ?_
 refine w_aloadN X20 hx (d8_4 hby) rfl rfl (pc' := 5) rfl ?_
 refine w_iloadN X20 hx (d8_5 hby) rfl (pc' := 6) rfl ?_
 refine w_aloadN X20 hx (d8_6 hby) rfl rfl (pc' := 7) rfl ?_
 refine w_iconst X20 hx (d8_7 hby) (v := (0 : Int32)) rfl (pc' := 8) rfl ?_
 refine w_iloadN X20 hx (d8_8 hby) rfl (pc' := 9) rfl ?_
 have f25 : Arv Z h20 a0 k_a0 .char (4 : Int32) [(.int jj0), (.int jj1), (.int jj2), (.int jj3)] (.int (0 : Int32)) := (V_a0.ext E20)
 have ne26 : a0 ≠ b20 := (Nat.ne_of_lt (Nat.lt_of_lt_of_le V_a0.lt (Nat.le_trans (Nat.le_refl _) (Nat.le_of_eq g20.symm))))
 refine w_static X20 hx (y := yn_9) hown (mvT hZ (wd_42 hw)) (mvT hZ (wd_43 hw)) (mvT hZ (wd_40 hw)) (mvT hZ (wd_44 hw)) (by decide) (backOf (W := 0) (rm_m9_46 l Z aZ hw [] a0 b20 k_a0 jj0 jj1 jj2 jj3 k20 h20 n0 (Nat.le_trans Z0 E20.1) f25 V24 ge21 ne26) hZ (wd_44 hw) (wd_40 hw) (by decide) (by decide)) (by rw [hml]; rfl) [(.ref a0), (.int (0 : Int32)), (.ref b20), (.int (0 : Int32)), (.int (4 : Int32))] (lenOf pd_4 rfl) rfl (Nat.le_of_eq rfl) (d8_9 hby) (fun _ _ => ⟨rfl, e20, (by decide : 1 + 0 ≤ _), (by decide : 4 + 0 ≤ _)⟩) (pc' := 12) rfl ?_
 rintro _ _ ⟨T27, L27, k27, n27⟩ X27 ⟨Lc27, hQ27, l27, y27, z27⟩
 dsimp only [Pt.U, Pt.locs, Pt.cells, Pt.slots] at X27 l27 y27 z27 hQ27 ⊢
 rw [l27, y27, z27] at X27
 rcases hQ27 with ⟨rfl, N27q, K27, g27_0, g27_1, g27_2, g27_3, g27_4⟩ | ⟨j_27, rfl, N27q, K27, g27_0, g27_1, g27_2⟩
 · have N28 := Fr.app N0 N27q
   have K29 : Keep h0 T27.heap [] := K23.trans K27 (allS (Or.inr sz22) (all0 (P := fun x => x ∈ [] ∨ h0.size ≤ x)))
   show Runs _ _ _ _ (T27.setTop (mkF m 12 #[.val (.ref a0), .val (.int (0 : Int32)), .val (.int (4 : Int32)), .val (.ref b20), .unset, .unset] [(.int (4 : Int32))]))
   refine w_istore X27 hx (d8_12 hby) (L' := #[.val (.ref a0), .val (.int (0 : Int32)), .val (.int (4 : Int32)), .val (.ref b20), .val (.int (4 : Int32)), .unset]) rfl (pc' := 14) rfl ?_
   refine w_iload X27 hx (d8_14 hby) rfl (pc' := 16) rfl ?_
   refine w_iloadN X27 hx (d8_16 hby) rfl (pc' := 17) rfl ?_
   refine w_icY X27 hx (d8_17 hby) (teq (by decide : (4 : Int32) = (4 : Int32))).1 (pc' := 57) (by decide) (by decide) ?_
   refine w_aloadN X27 hx (d8_57 hby) rfl rfl (pc' := 58) rfl ?_
   exact w_done X27 hlk (v := some (.ref b20)) rfl (fun h => by rw [hret] at h; cases h) (fun fs hr => retOut X27 hx hret rfl (Or.inr (Or.inr (Or.inr (Or.inr ⟨rfl, rfl, rfl⟩)))) (d8_58 hby) hr) (by decide) (by decide) (Or.inl ⟨b20, k20, rfl, N28, K29, sz22, g27_0, g27_1, g27_2, g27_3, g27_4⟩)
 · have N30 := Fr.app N0 N27q
   have K31 : Keep h0 T27.heap [] := K23.trans K27 (allS (Or.inr sz22) (all0 (P := fun x => x ∈ [] ∨ h0.size ≤ x)))
   show Runs _ _ _ _ (T27.setTop (mkF m 12 #[.val (.ref a0), .val (.int (0 : Int32)), .val (.int (4 : Int32)), .val (.ref b20), .unset, .unset] [(.int j_27)]))
   refine w_istore X27 hx (d8_12 hby) (L' := #[.val (.ref a0), .val (.int (0 : Int32)), .val (.int (4 : Int32)), .val (.ref b20), .val (.int j_27), .unset]) rfl (pc' := 14) rfl ?_
   refine w_iload X27 hx (d8_14 hby) rfl (pc' := 16) rfl ?_
   refine w_iloadN X27 hx (d8_16 hby) rfl (pc' := 17) rfl ?_
   refine w_icN X27 hx (d8_17 hby) (feq (fun q => by have h9 := g27_1; rw [q] at h9; exact absurd h9 (by decide))).1 (pc' := 20) rfl ?_
   refine w_aloadN X27 hx (d8_20 hby) rfl rfl (pc' := 21) rfl ?_
   refine w_iloadN X27 hx (d8_21 hby) rfl (pc' := 22) rfl ?_
   refine w_iloadN X27 hx (d8_22 hby) rfl (pc' := 23) rfl ?_
   have f32 : Arv Z T27.heap a0 k_a0 .char (4 : Int32) [(.int jj0), (.int jj1), (.int jj2), (.int jj3)] (.int (0 : Int32)) := (f25.keep K27 (ninS ne26 nin0))
   have f33 : Old Z n0 T27.heap := ((O0.ext E20).keep K27 (allS ge21 all0))
   have le34 : h0.size ≤ T27.heap.size := (Nat.le_trans E20.1 K27.1)
   refine w_static X27 hx (y := yn_11) hown (mvT hZ (wd_48 hw)) (mvT hZ (wd_49 hw)) (mvT hZ (wd_40 hw)) (mvT hZ (wd_50 hw)) (by decide) (backOf (W := 0) (rm_m11_47 l Z aZ hw [] a0 k_a0 jj0 jj1 jj2 jj3 T27.heap n0 (Nat.le_trans Z0 le34) f32 zz4 f33 zz5 zz6) hZ (wd_50 hw) (wd_40 hw) (by decide) (by decide)) (by rw [hml]; rfl) [(.ref a0), (.int (0 : Int32)), (.int (4 : Int32))] (lenOf pd_8 rfl) rfl (Nat.le_of_eq rfl) (d8_23 hby) (fun _ _ => ⟨rfl, rfl, (by decide : 1 + 1 ≤ _), (by decide : 4 + 8 ≤ _)⟩) (pc' := 26) rfl ?_
   rintro _ _ ⟨T35, L35, k35, n35⟩ X35 ⟨Lc35, hQ35, l35, y35, z35⟩
   dsimp only [Pt.U, Pt.locs, Pt.cells, Pt.slots] at X35 l35 y35 z35 hQ35 ⊢
   rw [l35, y35, z35] at X35
   obtain ⟨r0_35, c0_35, rfl, N35q, K35, g35_0, g35_1⟩ := hQ35
   have N36 := Fr.app N30 N35q
   have K37 : Keep h0 T35.heap [] := K31.trans K35 (all0 (P := fun x => x ∈ [] ∨ h0.size ≤ x))
   have ge38 : n0 ≤ r0_35 := Nat.le_trans (Nat.le_trans Z0 le34) g35_0
   have sz39 : h0.size ≤ r0_35 := Nat.le_trans le34 g35_0
   show Runs _ _ _ _ (T35.setTop (mkF m 26 #[.val (.ref a0), .val (.int (0 : Int32)), .val (.int (4 : Int32)), .val (.ref b20), .val (.int j_27), .unset] [(.ref r0_35)]))
   refine w_astore X35 hx (d8_26 hby) rfl (L' := #[.val (.ref a0), .val (.int (0 : Int32)), .val (.int (4 : Int32)), .val (.ref b20), .val (.int j_27), .val (.ref r0_35)]) rfl (pc' := 28) rfl ?_
   refine w_aload X35 hx (d8_28 hby) rfl rfl (pc' := 30) rfl ?_
   refine w_iload X35 hx (d8_30 hby) rfl (pc' := 32) rfl ?_
   have f43 : Old Z n0 T35.heap := (f33.keep K35 all0)
   have le44 : h0.size ≤ T35.heap.size := (Nat.le_trans le34 K35.1)
   refine w_static X35 hx (y := yn_15) hown (mvT hZ (wd_64 hw)) (mvT hZ (wd_65 hw)) (mvT hZ (wd_40 hw)) (mvT hZ (wd_66 hw)) (by decide) (backOf (W := 0) (rm_m15_54 l Z aZ hw [] r0_35 j_27 c0_35 ((jj0 >>> ((0 : Int32) &&& 31)).toInt8.toInt32) ((jj0 >>> ((8 : Int32) &&& 31)).toInt8.toInt32) ((jj1 >>> ((0 : Int32) &&& 31)).toInt8.toInt32) ((jj1 >>> ((8 : Int32) &&& 31)).toInt8.toInt32) ((jj2 >>> ((0 : Int32) &&& 31)).toInt8.toInt32) ((jj2 >>> ((8 : Int32) &&& 31)).toInt8.toInt32) ((jj3 >>> ((0 : Int32) &&& 31)).toInt8.toInt32) ((jj3 >>> ((8 : Int32) &&& 31)).toInt8.toInt32) T35.heap n0 (Nat.le_trans Z0 le44) zz4 f43 g35_1 g27_0 g27_1 zz5 zz6) hZ (wd_66 hw) (wd_40 hw) (by decide) (by decide)) (by rw [hml]; rfl) [(.ref r0_35), (.int j_27)] (lenOf pd_9 rfl) rfl (Nat.le_of_eq rfl) (d8_32 hby) (fun _ _ => ⟨rfl, rfl, (by decide : 2 + 0 ≤ _), (by decide : 12 + 0 ≤ _)⟩) (pc' := 35) rfl ?_
   rintro _ _ ⟨T45, L45, k45, n45⟩ X45 ⟨Lc45, hQ45, l45, y45, z45⟩
   dsimp only [Pt.U, Pt.locs, Pt.cells, Pt.slots] at X45 l45 y45 z45 hQ45 ⊢
   rw [l45, y45, z45] at X45
   obtain ⟨rfl, N45q, e45⟩ := hQ45
   have N46 := Fr.app N36 N45q
   show Runs _ _ _ _ (T45.setTop (mkF m 35 #[.val (.ref a0), .val (.int (0 : Int32)), .val (.int (4 : Int32)), .val (.ref b20), .val (.int j_27), .val (.ref r0_35)] [(.int (((((gI [((jj0 >>> ((0 : Int32) &&& 31)).toInt8.toInt32), ((jj0 >>> ((8 : Int32) &&& 31)).toInt8.toInt32), ((jj1 >>> ((0 : Int32) &&& 31)).toInt8.toInt32), ((jj1 >>> ((8 : Int32) &&& 31)).toInt8.toInt32), ((jj2 >>> ((0 : Int32) &&& 31)).toInt8.toInt32), ((jj2 >>> ((8 : Int32) &&& 31)).toInt8.toInt32), ((jj3 >>> ((0 : Int32) &&& 31)).toInt8.toInt32), ((jj3 >>> ((8 : Int32) &&& 31)).toInt8.toInt32)] (j_27 <<< ((1 : Int32) &&& 31))) &&& (255 : Int32)) <<< ((0 : Int32) &&& 31)) ||| (((gI [((jj0 >>> ((0 : Int32) &&& 31)).toInt8.toInt32), ((jj0 >>> ((8 : Int32) &&& 31)).toInt8.toInt32), ((jj1 >>> ((0 : Int32) &&& 31)).toInt8.toInt32), ((jj1 >>> ((8 : Int32) &&& 31)).toInt8.toInt32), ((jj2 >>> ((0 : Int32) &&& 31)).toInt8.toInt32), ((jj2 >>> ((8 : Int32) &&& 31)).toInt8.toInt32), ((jj3 >>> ((0 : Int32) &&& 31)).toInt8.toInt32), ((jj3 >>> ((8 : Int32) &&& 31)).toInt8.toInt32)] ((j_27 <<< ((1 : Int32) &&& 31)) + (1 : Int32))) &&& (255 : Int32)) <<< ((8 : Int32) &&& 31))).toUInt32.toUInt16.toUInt32.toInt32))]))
   refine w_sipush X45 hx (d8_35 hby) (v := (255 : Int32)) rfl (pc' := 38) rfl ?_
   refine w_icY X45 hx (d8_38 hby) (tlt (show (255 : Int32) < (((((gI [((jj0 >>> ((0 : Int32) &&& 31)).toInt8.toInt32), ((jj0 >>> ((8 : Int32) &&& 31)).toInt8.toInt32), ((jj1 >>> ((0 : Int32) &&& 31)).toInt8.toInt32), ((jj1 >>> ((8 : Int32) &&& 31)).toInt8.toInt32), ((jj2 >>> ((0 : Int32) &&& 31)).toInt8.toInt32), ((jj2 >>> ((8 : Int32) &&& 31)).toInt8.toInt32), ((jj3 >>> ((0 : Int32) &&& 31)).toInt8.toInt32), ((jj3 >>> ((8 : Int32) &&& 31)).toInt8.toInt32)] (j_27 <<< ((1 : Int32) &&& 31))) &&& (255 : Int32)) <<< ((0 : Int32) &&& 31)) ||| (((gI [((jj0 >>> ((0 : Int32) &&& 31)).toInt8.toInt32), ((jj0 >>> ((8 : Int32) &&& 31)).toInt8.toInt32), ((jj1 >>> ((0 : Int32) &&& 31)).toInt8.toInt32), ((jj1 >>> ((8 : Int32) &&& 31)).toInt8.toInt32), ((jj2 >>> ((0 : Int32) &&& 31)).toInt8.toInt32), ((jj2 >>> ((8 : Int32) &&& 31)).toInt8.toInt32), ((jj3 >>> ((0 : Int32) &&& 31)).toInt8.toInt32), ((jj3 >>> ((8 : Int32) &&& 31)).toInt8.toInt32)] ((j_27 <<< ((1 : Int32) &&& 31)) + (1 : Int32))) &&& (255 : Int32)) <<< ((8 : Int32) &&& 31))).toUInt32.toUInt16.toUInt32.toInt32) from by rw [own_uj4 g27_0 g27_1 zz7 zz8 zz9 zz10]; exact g27_2)).2.2.1 (pc' := 54) (by decide) (by decide) ?_
   refine w_aload X45 hx (d8_54 hby) rfl rfl (pc' := 56) rfl ?_
   exact w_done X45 hlk (v := some (.ref r0_35)) e45 (fun h => by rw [hret] at h; cases h) (fun fs hr => retOut X45 hx hret rfl (Or.inr (Or.inr (Or.inr (Or.inr ⟨rfl, rfl, rfl⟩)))) (d8_56 hby) hr) (by decide) (by decide) (Or.inr (⟨r0_35, c0_35, rfl, N46, K37, sz39, g35_1, (own_or4 g27_0 g27_1 g27_2)⟩))
theorem ef_m10_55 (m : MethodId) (a0 : Addr)  : entryFrame m #[(.ref a0), (.int (4 : Int32))] 2 = mkF m 0 #[.val (.ref a0), .val (.int (4 : Int32))] [] := by first | (simp [entryFrame, mkF, argsToLocals, Value.category]; done) | rfl
def Q_m10_55 (Z : State) (a0 : Addr) (k_a0 : ClassId) (jj0 : Int32) (jj1 : Int32) (jj2 : Int32) (jj3 : Int32) (h0 : Heap) (n0 : Nat) (v : Option Value) (h : Heap) (L : List Loc) : Prop := v = some (.int (0 : Int32)) ∧ Fr n0 L ∧ h = h0
theorem rm_m10_55 (l : Launch) (Z : State) (aZ : Array Value) (hw : ∀ d ∈ tables_1, d.before aZ Z = true) (ws : List Jvm.Cond) (a0 : Addr) (k_a0 : ClassId) (jj0 : Int32) (jj1 : Int32) (jj2 : Int32) (jj3 : Int32) (h0 : Heap) (n0 : Nat) (Z0 : n0 ≤ h0.size) (V_a0 : Arv Z h0 a0 k_a0 .byte (4 : Int32) [(.int jj0), (.int jj1), (.int jj2), (.int jj3)] (.int (0 : Int32))) :
    MetN l Z yn_10 jdk_52_method_15_code 2 (some .byte) ws ({ frames := 0, cells := 0, slots := 0, locals := 0 } : Room) #[(.ref a0), (.int (4 : Int32))] h0 (Q_m10_55 Z a0 k_a0 jj0 jj1 jj2 jj3 h0 n0) := by
 refine MetN.of (plainFor_of_name pn_3) ?_
 intro p e s m below meth c s₁ hret hx hby hml hown hnm hlk hZ X0 e0
 have N0 := Fr.nil n0
 rw [ef_m10_55 m a0]
 refine w_iloadN X0 hx (d10_0 hby) rfl (pc' := 1) rfl ?_
 refine w_aloadN X0 hx (d10_1 hby) rfl rfl (pc' := 2) rfl ?_
 refine w_alen X0 hx hZ e0 V_a0 (d10_2 hby) (pc' := 3) rfl ?_
 refine w_isub X0 hx (d10_3 hby) (pc' := 4) rfl ?_
 rw [show ((4 : Int32) - (4 : Int32)) = (0 : Int32) from by decide]
 refine w_bipush X0 hx (d10_4 hby) (v := (31 : Int32)) rfl (pc' := 6) rfl ?_
 refine w_iushr X0 hx (d10_6 hby) (pc' := 7) rfl ?_
 rw [show (((0 : Int32).toUInt32 >>> ((31 : Int32) &&& 31).toUInt32).toInt32) = (0 : Int32) from by decide]
 refine w_i2b X0 hx (d10_7 hby) (pc' := 8) rfl ?_
 rw [show ((0 : Int32).toInt8.toInt32) = (0 : Int32) from by decide]
 exact w_done X0 hlk (v := some (.int (0 : Int32))) e0 (fun h => by rw [hret] at h; cases h) (fun fs hr => retN X0 hx (t := .byte) hret (by simp) (d10_8 hby) hr) (by decide) (by decide) (⟨rfl, N0, rfl⟩)
theorem ef_m10_56 (m : MethodId) (a0 : Addr)  : entryFrame m #[(.ref a0), (.int (4 : Int32))] 2 = mkF m 0 #[.val (.ref a0), .val (.int (4 : Int32))] [] := by first | (simp [entryFrame, mkF, argsToLocals, Value.category]; done) | rfl
def Q_m10_56 (Z : State) (a0 : Addr) (k_a0 : ClassId) (jj0 : Int32) (jj1 : Int32) (jj2 : Int32) (jj3 : Int32) (jj4 : Int32) (jj5 : Int32) (jj6 : Int32) (jj7 : Int32) (h0 : Heap) (n0 : Nat) (v : Option Value) (h : Heap) (L : List Loc) : Prop := v = some (.int (1 : Int32)) ∧ Fr n0 L ∧ h = h0
theorem rm_m10_56 (l : Launch) (Z : State) (aZ : Array Value) (hw : ∀ d ∈ tables_1, d.before aZ Z = true) (ws : List Jvm.Cond) (a0 : Addr) (k_a0 : ClassId) (jj0 : Int32) (jj1 : Int32) (jj2 : Int32) (jj3 : Int32) (jj4 : Int32) (jj5 : Int32) (jj6 : Int32) (jj7 : Int32) (h0 : Heap) (n0 : Nat) (Z0 : n0 ≤ h0.size) (V_a0 : Arv Z h0 a0 k_a0 .byte (8 : Int32) [(.int jj0), (.int jj1), (.int jj2), (.int jj3), (.int jj4), (.int jj5), (.int jj6), (.int jj7)] (.int (0 : Int32))) :
    MetN l Z yn_10 jdk_52_method_15_code 2 (some .byte) ws ({ frames := 0, cells := 0, slots := 0, locals := 0 } : Room) #[(.ref a0), (.int (4 : Int32))] h0 (Q_m10_56 Z a0 k_a0 jj0 jj1 jj2 jj3 jj4 jj5 jj6 jj7 h0 n0) := by
 refine MetN.of (plainFor_of_name pn_3) ?_
 intro p e s m below meth c s₁ hret hx hby hml hown hnm hlk hZ X0 e0
 have N0 := Fr.nil n0
 rw [ef_m10_56 m a0]
 refine w_iloadN X0 hx (d10_0 hby) rfl (pc' := 1) rfl ?_
 refine w_aloadN X0 hx (d10_1 hby) rfl rfl (pc' := 2) rfl ?_
 refine w_alen X0 hx hZ e0 V_a0 (d10_2 hby) (pc' := 3) rfl ?_
 refine w_isub X0 hx (d10_3 hby) (pc' := 4) rfl ?_
 rw [show ((4 : Int32) - (8 : Int32)) = (-4 : Int32) from by decide]
 refine w_bipush X0 hx (d10_4 hby) (v := (31 : Int32)) rfl (pc' := 6) rfl ?_
 refine w_iushr X0 hx (d10_6 hby) (pc' := 7) rfl ?_
 rw [show (((-4 : Int32).toUInt32 >>> ((31 : Int32) &&& 31).toUInt32).toInt32) = (1 : Int32) from by decide]
 refine w_i2b X0 hx (d10_7 hby) (pc' := 8) rfl ?_
 rw [show ((1 : Int32).toInt8.toInt32) = (1 : Int32) from by decide]
 exact w_done X0 hlk (v := some (.int (1 : Int32))) e0 (fun h => by rw [hret] at h; cases h) (fun fs hr => retN X0 hx (t := .byte) hret (by simp) (d10_8 hby) hr) (by decide) (by decide) (⟨rfl, N0, rfl⟩)
theorem ef_m5_44 (m : MethodId) (a0 : Addr) (a1 : Addr)  : entryFrame m #[(.ref a0), (.ref a1), (.int (0 : Int32)), (.int (4 : Int32)), .null] 6 = mkF m 0 #[.val (.ref a0), .val (.ref a1), .val (.int (0 : Int32)), .val (.int (4 : Int32)), .val .null, .unset] [] := by first | (simp [entryFrame, mkF, argsToLocals, Value.category]; done) | rfl
def Q_m5_44 (Z : State) (a0 : Addr) (a1 : Addr) (jj0 : Int32) (k_a1 : ClassId) (jj1 : Int32) (jj2 : Int32) (jj3 : Int32) (jj4 : Int32) (h0 : Heap) (n0 : Nat) (v : Option Value) (h : Heap) (L : List Loc) : Prop := (∃ (t : Addr) (kb : ClassId), v = none ∧ Fr n0 L ∧ Keep h0 h [a0] ∧ Exa Z h a0 kc0 ∧ Fld Z h a0 kc0 "coder" "B" (.int (0 : Int32)) ∧ Fld Z h a0 kc0 "value" "[B" (.ref t) ∧ h0.size ≤ t ∧ Arv Z h t kb .byte (4 : Int32) [(.int (jj1.toInt8.toInt32)), (.int (jj2.toInt8.toInt32)), (.int (jj3.toInt8.toInt32)), (.int (jj4.toInt8.toInt32))] (.int (0 : Int32)) ∧ ¬ ((255 : Int32) < jj1) ∧ ¬ ((255 : Int32) < jj2) ∧ ¬ ((255 : Int32) < jj3) ∧ ¬ ((255 : Int32) < jj4)) ∨ (∃ (t : Addr) (kb : ClassId), v = none ∧ Fr n0 L ∧ Keep h0 h [a0] ∧ Exa Z h a0 kc0 ∧ Fld Z h a0 kc0 "coder" "B" (.int (1 : Int32)) ∧ Fld Z h a0 kc0 "value" "[B" (.ref t) ∧ h0.size ≤ t ∧ Arv Z h t kb .byte (8 : Int32) [(.int ((jj1 >>> ((0 : Int32) &&& 31)).toInt8.toInt32)), (.int ((jj1 >>> ((8 : Int32) &&& 31)).toInt8.toInt32)), (.int ((jj2 >>> ((0 : Int32) &&& 31)).toInt8.toInt32)), (.int ((jj2 >>> ((8 : Int32) &&& 31)).toInt8.toInt32)), (.int ((jj3 >>> ((0 : Int32) &&& 31)).toInt8.toInt32)), (.int ((jj3 >>> ((8 : Int32) &&& 31)).toInt8.toInt32)), (.int ((jj4 >>> ((0 : Int32) &&& 31)).toInt8.toInt32)), (.int ((jj4 >>> ((8 : Int32) &&& 31)).toInt8.toInt32))] (.int (0 : Int32)) ∧ ((255 : Int32) < jj1 ∨ (255 : Int32) < jj2 ∨ (255 : Int32) < jj3 ∨ (255 : Int32) < jj4))
theorem rm_m5_44 (l : Launch) (Z : State) (aZ : Array Value) (hw : ∀ d ∈ tables_1, d.before aZ Z = true) (ws : List Jvm.Cond) (a0 : Addr) (a1 : Addr) (jj0 : Int32) (k_a1 : ClassId) (jj1 : Int32) (jj2 : Int32) (jj3 : Int32) (jj4 : Int32) (h0 : Heap) (n0 : Nat) (Z0 : n0 ≤ h0.size) (zz5 : Sta Z Z.heap kc0 "COMPACT_STRINGS" "Z" (.int jj0)) (O0 : Old Z n0 h0) (hP_2 : ¬ (jj0 = (0 : Int32))) (V_a1 : Arv Z h0 a1 k_a1 .char (4 : Int32) [(.int jj1), (.int jj2), (.int jj3), (.int jj4)] (.int (0 : Int32))) (zz6 : nar .char jj1 = jj1) (zz7 : nar .char jj2 = jj2) (zz8 : nar .char jj3 = jj3) (zz9 : nar .char jj4 = jj4) (zz10 : Sta Z Z.heap kc1 "$assertionsDisabled" "Z" (.int (1 : Int32))) (zz11 : Sta Z Z.heap kc1 "HI_BYTE_SHIFT" "I" (.int (0 : Int32))) (zz12 : Sta Z Z.heap kc1 "LO_BYTE_SHIFT" "I" (.int (8 : Int32))) (E_a0 : Exa Z h0 a0 kc0) (zz13 : Fld Z h0 a0 kc0 "coder" "B" (.int (0 : Int32))) (zz14 : n0 ≤ a0) (zz15 : Fld Z h0 a0 kc0 "value" "[B" .null) :
    MetN l Z yn_5 jdk_42_method_149_code 6 none ws ({ frames := 4, cells := 2, slots := 12, locals := 57 } : Room) #[(.ref a0), (.ref a1), (.int (0 : Int32)), (.int (4 : Int32)), .null] h0 (Q_m5_44 Z a0 a1 jj0 k_a1 jj1 jj2 jj3 jj4 h0 n0) := by
 refine MetN.of (plainFor_of_name pn_2) ?_
 intro p e s m below meth c s₁ hret hx hby hml hown hnm hlk hZ X0 e0
 have N0 := Fr.nil n0
 rw [ef_m5_44 m a0 a1]
 refine w_aloadN X0 hx (d5_0 hby) rfl rfl (pc' := 1) rfl ?_
 refine w_initO X0 hx 0 hZ hown (wd_22 hw) (wd_23 hw) (wd_24 hw) e0 (by rw [hml]; rfl) (d5_1 hby) (by decide) (Nat.le_of_eq rfl) (by decide) (pc' := 4) rfl ?_
 intro T20 X20 e20
 refine w_iloadN X20 hx (d5_4 hby) rfl (pc' := 5) rfl ?_
 refine w_ifY X20 hx (d5_5 hby) (feq (by decide : ¬ ((4 : Int32) = (0 : Int32)))).2 (pc' := 27) (by decide) (by decide) ?_
 refine w_getS X20 hx "" hZ hown (Or.inl (wd_37 hw)) Via.refl e20 (zz5.ext O0.2) (d5_27 hby) (pc' := 30) rfl ?_
 intro T21 X21 e21
 refine w_ifN X21 hx (d5_30 hby) (feq hP_2).1 (pc' := 33) rfl ?_
 refine w_aloadN X21 hx (d5_33 hby) rfl rfl (pc' := 34) rfl ?_
 refine w_iloadN X21 hx (d5_34 hby) rfl (pc' := 35) rfl ?_
 refine w_iloadN X21 hx (d5_35 hby) rfl (pc' := 36) rfl ?_
 refine w_static X21 hx (y := yn_8) hown (mvT hZ (wd_38 hw)) (mvT hZ (wd_39 hw)) (mvT hZ (wd_40 hw)) (mvT hZ (wd_41 hw)) (by decide) (backOf (W := 0) (rm_m8_45 l Z aZ hw [] a1 k_a1 jj1 jj2 jj3 jj4 h0 n0 Z0 V_a1 zz10 O0 zz11 zz12 zz6 zz7 zz8 zz9) hZ (wd_41 hw) (wd_40 hw) (by decide) (by decide)) (by rw [hml]; rfl) [(.ref a1), (.int (0 : Int32)), (.int (4 : Int32))] (lenOf pd_8 rfl) rfl (Nat.le_of_eq rfl) (d5_36 hby) (fun _ _ => ⟨rfl, e21, (by decide : 0 + 2 ≤ _), (by decide : 0 + 12 ≤ _)⟩) (pc' := 39) rfl ?_
 rintro _ _ ⟨T22, L22, k22, n22⟩ X22 ⟨Lc22, hQ22, l22, y22, z22⟩
 dsimp only [Pt.U, Pt.locs, Pt.cells, Pt.slots] at X22 l22 y22 z22 hQ22 ⊢
 rw [l22, y22, z22] at X22
 rcases hQ22 with ⟨t_22, kb_22, rfl, N22q, K22, g22_0, g22_1, g22_2, g22_3, g22_4, g22_5⟩ | ⟨t_22, kb_22, rfl, N22q, K22, g22_0, g22_1, g22_2⟩
 · have N23 := Fr.app N0 N22q
   have K24 : Keep h0 T22.heap [a0] := (Keep.refl h0 [a0]).trans K22 (all0 (P := fun x => x ∈ [a0] ∨ h0.size ≤ x))
   have ge25 : n0 ≤ t_22 := Nat.le_trans Z0 g22_0
   have sz26 : h0.size ≤ t_22 := Nat.le_trans (Nat.le_refl _) g22_0
   show Runs _ _ _ _ (T22.setTop (mkF m 39 #[.val (.ref a0), .val (.ref a1), .val (.int (0 : Int32)), .val (.int (4 : Int32)), .val .null, .unset] [(.ref t_22)]))
   refine w_astore X22 hx (d5_39 hby) rfl (L' := #[.val (.ref a0), .val (.ref a1), .val (.int (0 : Int32)), .val (.int (4 : Int32)), .val .null, .val (.ref t_22)]) rfl (pc' := 41) rfl ?_
   refine w_aloadN X22 hx (d5_41 hby) rfl rfl (pc' := 42) rfl ?_
   refine w_aload X22 hx (d5_42 hby) rfl rfl (pc' := 44) rfl ?_
   refine w_iloadN X22 hx (d5_44 hby) rfl (pc' := 45) rfl ?_
   refine w_static X22 hx (y := yn_10) hown (mvT hZ (wd_45 hw)) (mvT hZ (wd_46 hw)) (mvT hZ (wd_40 hw)) (mvT hZ (wd_47 hw)) (by decide) (backOf (W := 1) (rm_m10_55 l Z aZ hw [] t_22 kb_22 (jj1.toInt8.toInt32) (jj2.toInt8.toInt32) (jj3.toInt8.toInt32) (jj4.toInt8.toInt32) T22.heap n0 (Nat.le_trans Z0 K22.1) g22_1) hZ (wd_47 hw) (wd_40 hw) (by decide) (by decide)) (by rw [hml]; rfl) [(.ref t_22), (.int (4 : Int32))] (lenOf pd_10 rfl) rfl (Nat.le_of_eq rfl) (d5_45 hby) (fun _ _ => ⟨rfl, rfl, (by decide : 2 + 0 ≤ _), (by decide : 12 + 0 ≤ _)⟩) (pc' := 48) rfl ?_
   rintro _ _ ⟨T27, L27, k27, n27⟩ X27 ⟨Lc27, hQ27, l27, y27, z27⟩
   dsimp only [Pt.U, Pt.locs, Pt.cells, Pt.slots] at X27 l27 y27 z27 hQ27 ⊢
   rw [l27, y27, z27] at X27
   obtain ⟨rfl, N27q, e27⟩ := hQ27
   have N28 := Fr.app N23 N27q
   show Runs _ _ _ _ (T27.setTop (mkF m 48 #[.val (.ref a0), .val (.ref a1), .val (.int (0 : Int32)), .val (.int (4 : Int32)), .val .null, .val (.ref t_22)] [(.int (0 : Int32)), (.ref a0)]))
   have f29 : Exa Z T22.heap a0 kc0 := (E_a0.keep K22)
   have f30 : Fld Z T22.heap a0 kc0 "coder" "B" (.int (0 : Int32)) := (zz13.keep K22 nin0)
   refine w_putF X27 hx "" hZ hown (Or.inl (wd_32 hw)) Via.refl e27 f30 f29 (Or.inr ⟨(wd_28 hw), rfl, hnm⟩) (wd_13 hw) (ty := .byte) (by decide) rfl rfl (d5_48 hby) (pc' := 51) rfl ?_
   intro T31 h31 X31 e31 W31
   have f32 : Fld Z h31 a0 kc0 "coder" "B" (.int (0 : Int32)) := f30.same W31
   have K33 : Keep h0 h31 [a0] := K24.wr W31 (Or.inl (by simp))
   have N34 := Fr.snoc X31 N28 zz14
   refine w_aloadN X31 hx (d5_51 hby) rfl rfl (pc' := 52) rfl ?_
   refine w_aload X31 hx (d5_52 hby) rfl rfl (pc' := 54) rfl ?_
   have f35 : Exa Z h31 a0 kc0 := (f29.wr W31)
   have f36 : Fld Z h31 a0 kc0 "value" "[B" .null := ((zz15.keep K22 nin0).other W31 (Or.inr (slot_ne (Or.inr (wd_27 hw)) (Or.inr (wd_28 hw)) (by decide) (t := (.array .byte)) (t' := .byte) (by decide) (by decide))))
   refine w_putF X31 hx "" hZ hown (Or.inl (wd_31 hw)) Via.refl e31 f36 f35 (Or.inr ⟨(wd_27 hw), rfl, hnm⟩) (wd_13 hw) (ty := (.array .byte)) (by decide) rfl rfl (d5_54 hby) (pc' := 57) rfl ?_
   intro T37 h37 X37 e37 W37
   have f38 : Fld Z h37 a0 kc0 "value" "[B" (.ref t_22) := f36.same W37
   have K39 : Keep h0 h37 [a0] := K33.wr W37 (Or.inl (by simp))
   have N40 := Fr.snoc X37 N34 zz14
   have f41 : Exa Z h37 a0 kc0 := (f35.wr W37)
   have f42 : Fld Z h37 a0 kc0 "coder" "B" (.int (0 : Int32)) := (f32.other W37 (Or.inr (slot_ne (Or.inr (wd_28 hw)) (Or.inr (wd_27 hw)) (by decide) (t := .byte) (t' := (.array .byte)) (by decide) (by decide))))
   have ne43 : a0 ≠ t_22 := (Nat.ne_of_lt (Nat.lt_of_lt_of_le E_a0.lt (Nat.le_trans (Nat.le_refl _) g22_0)))
   have f44 : Arv Z h37 t_22 kb_22 .byte (4 : Int32) [(.int (jj1.toInt8.toInt32)), (.int (jj2.toInt8.toInt32)), (.int (jj3.toInt8.toInt32)), (.int (jj4.toInt8.toInt32))] (.int (0 : Int32)) := ((g22_1.other W31 (Ne.symm ne43)).other W37 (Ne.symm ne43))
   exact w_done X37 hlk (v := none) e37 (fun _ => rfl) (fun fs hr => X37.returnOut hx hret (d5_57 hby) hr) (by decide) (by decide) (Or.inl ⟨t_22, kb_22, rfl, N40, K39, f41, f42, f38, sz26, f44, g22_2, g22_3, g22_4, g22_5⟩)
 · have N45 := Fr.app N0 N22q
   have K46 : Keep h0 T22.heap [a0] := (Keep.refl h0 [a0]).trans K22 (all0 (P := fun x => x ∈ [a0] ∨ h0.size ≤ x))
   have ge47 : n0 ≤ t_22 := Nat.le_trans Z0 g22_0
   have sz48 : h0.size ≤ t_22 := Nat.le_trans (Nat.le_refl _) g22_0
   show Runs _ _ _ _ (T22.setTop (mkF m 39 #[.val (.ref a0), .val (.ref a1), .val (.int (0 : Int32)), .val (.int (4 : Int32)), .val .null, .unset] [(.ref t_22)]))
   refine w_astore X22 hx (d5_39 hby) rfl (L' := #[.val (.ref a0), .val (.ref a1), .val (.int (0 : Int32)), .val (.int (4 : Int32)), .val .null, .val (.ref t_22)]) rfl (pc' := 41) rfl ?_
   refine w_aloadN X22 hx (d5_41 hby) rfl rfl (pc' := 42) rfl ?_
   refine w_aload X22 hx (d5_42 hby) rfl rfl (pc' := 44) rfl ?_
   refine w_iloadN X22 hx (d5_44 hby) rfl (pc' := 45) rfl ?_
   refine w_static X22 hx (y := yn_10) hown (mvT hZ (wd_45 hw)) (mvT hZ (wd_46 hw)) (mvT hZ (wd_40 hw)) (mvT hZ (wd_47 hw)) (by decide) (backOf (W := 1) (rm_m10_56 l Z aZ hw [] t_22 kb_22 ((jj1 >>> ((0 : Int32) &&& 31)).toInt8.toInt32) ((jj1 >>> ((8 : Int32) &&& 31)).toInt8.toInt32) ((jj2 >>> ((0 : Int32) &&& 31)).toInt8.toInt32) ((jj2 >>> ((8 : Int32) &&& 31)).toInt8.toInt32) ((jj3 >>> ((0 : Int32) &&& 31)).toInt8.toInt32) ((jj3 >>> ((8 : Int32) &&& 31)).toInt8.toInt32) ((jj4 >>> ((0 : Int32) &&& 31)).toInt8.toInt32) ((jj4 >>> ((8 : Int32) &&& 31)).toInt8.toInt32) T22.heap n0 (Nat.le_trans Z0 K22.1) g22_1) hZ (wd_47 hw) (wd_40 hw) (by decide) (by decide)) (by rw [hml]; rfl) [(.ref t_22), (.int (4 : Int32))] (lenOf pd_10 rfl) rfl (Nat.le_of_eq rfl) (d5_45 hby) (fun _ _ => ⟨rfl, rfl, (by decide : 2 + 0 ≤ _), (by decide : 12 + 0 ≤ _)⟩) (pc' := 48) rfl ?_
   rintro _ _ ⟨T49, L49, k49, n49⟩ X49 ⟨Lc49, hQ49, l49, y49, z49⟩
   dsimp only [Pt.U, Pt.locs, Pt.cells, Pt.slots] at X49 l49 y49 z49 hQ49 ⊢
   rw [l49, y49, z49] at X49
   obtain ⟨rfl, N49q, e49⟩ := hQ49
   have N50 := Fr.app N45 N49q
   show Runs _ _ _ _ (T49.setTop (mkF m 48 #[.val (.ref a0), .val (.ref a1), .val (.int (0 : Int32)), .val (.int (4 : Int32)), .val .null, .val (.ref t_22)] [(.int (1 : Int32)), (.ref a0)]))
   have f51 : Exa Z T22.heap a0 kc0 := (E_a0.keep K22)
   have f52 : Fld Z T22.heap a0 kc0 "coder" "B" (.int (0 : Int32)) := (zz13.keep K22 nin0)
   refine w_putF X49 hx "" hZ hown (Or.inl (wd_32 hw)) Via.refl e49 f52 f51 (Or.inr ⟨(wd_28 hw), rfl, hnm⟩) (wd_13 hw) (ty := .byte) (by decide) rfl rfl (d5_48 hby) (pc' := 51) rfl ?_
   intro T53 h53 X53 e53 W53
   have f54 : Fld Z h53 a0 kc0 "coder" "B" (.int (1 : Int32)) := f52.same W53
   have K55 : Keep h0 h53 [a0] := K46.wr W53 (Or.inl (by simp))
   have N56 := Fr.snoc X53 N50 zz14
   refine w_aloadN X53 hx (d5_51 hby) rfl rfl (pc' := 52) rfl ?_
   refine w_aload X53 hx (d5_52 hby) rfl rfl (pc' := 54) rfl ?_
   have f57 : Exa Z h53 a0 kc0 := (f51.wr W53)
   have f58 : Fld Z h53 a0 kc0 "value" "[B" .null := ((zz15.keep K22 nin0).other W53 (Or.inr (slot_ne (Or.inr (wd_27 hw)) (Or.inr (wd_28 hw)) (by decide) (t := (.array .byte)) (t' := .byte) (by decide) (by decide))))
   refine w_putF X53 hx "" hZ hown (Or.inl (wd_31 hw)) Via.refl e53 f58 f57 (Or.inr ⟨(wd_27 hw), rfl, hnm⟩) (wd_13 hw) (ty := (.array .byte)) (by decide) rfl rfl (d5_54 hby) (pc' := 57) rfl ?_
   intro T59 h59 X59 e59 W59
   have f60 : Fld Z h59 a0 kc0 "value" "[B" (.ref t_22) := f58.same W59
   have K61 : Keep h0 h59 [a0] := K55.wr W59 (Or.inl (by simp))
   have N62 := Fr.snoc X59 N56 zz14
   have f64 : Exa Z h59 a0 kc0 := (f57.wr W59)
   have f65 : Fld Z h59 a0 kc0 "coder" "B" (.int (1 : Int32)) := (f54.other W59 (Or.inr (slot_ne (Or.inr (wd_28 hw)) (Or.inr (wd_27 hw)) (by decide) (t := .byte) (t' := (.array .byte)) (by decide) (by decide))))
   have ne66 : a0 ≠ t_22 := (Nat.ne_of_lt (Nat.lt_of_lt_of_le E_a0.lt (Nat.le_trans (Nat.le_refl _) g22_0)))
   have f67 : Arv Z h59 t_22 kb_22 .byte (8 : Int32) [(.int ((jj1 >>> ((0 : Int32) &&& 31)).toInt8.toInt32)), (.int ((jj1 >>> ((8 : Int32) &&& 31)).toInt8.toInt32)), (.int ((jj2 >>> ((0 : Int32) &&& 31)).toInt8.toInt32)), (.int ((jj2 >>> ((8 : Int32) &&& 31)).toInt8.toInt32)), (.int ((jj3 >>> ((0 : Int32) &&& 31)).toInt8.toInt32)), (.int ((jj3 >>> ((8 : Int32) &&& 31)).toInt8.toInt32)), (.int ((jj4 >>> ((0 : Int32) &&& 31)).toInt8.toInt32)), (.int ((jj4 >>> ((8 : Int32) &&& 31)).toInt8.toInt32))] (.int (0 : Int32)) := ((g22_1.other W53 (Ne.symm ne66)).other W59 (Ne.symm ne66))
   exact w_done X59 hlk (v := none) e59 (fun _ => rfl) (fun fs hr => X59.returnOut hx hret (d5_57 hby) hr) (by decide) (by decide) (Or.inr (⟨t_22, kb_22, rfl, N62, K61, f64, f65, f60, sz48, f67, g22_2⟩))
theorem ef_m4_43 (m : MethodId) (a0 : Addr) (a1 : Addr)  : entryFrame m #[(.ref a0), (.ref a1)] 2 = mkF m 0 #[.val (.ref a0), .val (.ref a1)] [] := by first | (simp [entryFrame, mkF, argsToLocals, Value.category]; done) | rfl
def Q_m4_43 (Z : State) (a0 : Addr) (a1 : Addr) (k_a1 : ClassId) (jj0 : Int32) (jj1 : Int32) (jj2 : Int32) (jj3 : Int32) (jj4 : Int32) (h0 : Heap) (n0 : Nat) (v : Option Value) (h : Heap) (L : List Loc) : Prop := (∃ (t : Addr) (kb : ClassId), v = none ∧ Fr n0 L ∧ Keep h0 h [a0] ∧ Exa Z h a0 kc0 ∧ Fld Z h a0 kc0 "coder" "B" (.int (0 : Int32)) ∧ Fld Z h a0 kc0 "value" "[B" (.ref t) ∧ h0.size ≤ t ∧ Arv Z h t kb .byte (4 : Int32) [(.int (jj0.toInt8.toInt32)), (.int (jj1.toInt8.toInt32)), (.int (jj2.toInt8.toInt32)), (.int (jj3.toInt8.toInt32))] (.int (0 : Int32)) ∧ ¬ ((255 : Int32) < jj0) ∧ ¬ ((255 : Int32) < jj1) ∧ ¬ ((255 : Int32) < jj2) ∧ ¬ ((255 : Int32) < jj3)) ∨ (∃ (t : Addr) (kb : ClassId), v = none ∧ Fr n0 L ∧ Keep h0 h [a0] ∧ Exa Z h a0 kc0 ∧ Fld Z h a0 kc0 "coder" "B" (.int (1 : Int32)) ∧ Fld Z h a0 kc0 "value" "[B" (.ref t) ∧ h0.size ≤ t ∧ Arv Z h t kb .byte (8 : Int32) [(.int ((jj0 >>> ((0 : Int32) &&& 31)).toInt8.toInt32)), (.int ((jj0 >>> ((8 : Int32) &&& 31)).toInt8.toInt32)), (.int ((jj1 >>> ((0 : Int32) &&& 31)).toInt8.toInt32)), (.int ((jj1 >>> ((8 : Int32) &&& 31)).toInt8.toInt32)), (.int ((jj2 >>> ((0 : Int32) &&& 31)).toInt8.toInt32)), (.int ((jj2 >>> ((8 : Int32) &&& 31)).toInt8.toInt32)), (.int ((jj3 >>> ((0 : Int32) &&& 31)).toInt8.toInt32)), (.int ((jj3 >>> ((8 : Int32) &&& 31)).toInt8.toInt32))] (.int (0 : Int32)) ∧ ((255 : Int32) < jj0 ∨ (255 : Int32) < jj1 ∨ (255 : Int32) < jj2 ∨ (255 : Int32) < jj3))
theorem rm_m4_43 (l : Launch) (Z : State) (aZ : Array Value) (hw : ∀ d ∈ tables_1, d.before aZ Z = true) (ws : List Jvm.Cond) (a0 : Addr) (a1 : Addr) (k_a1 : ClassId) (jj0 : Int32) (jj1 : Int32) (jj2 : Int32) (jj3 : Int32) (jj4 : Int32) (h0 : Heap) (n0 : Nat) (Z0 : n0 ≤ h0.size) (V_a1 : Arv Z h0 a1 k_a1 .char (4 : Int32) [(.int jj0), (.int jj1), (.int jj2), (.int jj3)] (.int (0 : Int32))) (hP_1 : ¬ (jj4 = (0 : Int32))) (zz5 : nar .char jj0 = jj0) (zz6 : nar .char jj1 = jj1) (zz7 : nar .char jj2 = jj2) (zz8 : nar .char jj3 = jj3) (E_a0 : Exa Z h0 a0 kc0) (zz9 : Fld Z h0 a0 kc0 "coder" "B" (.int (0 : Int32))) (zz10 : Fld Z h0 a0 kc0 "value" "[B" .null) (zz11 : Sta Z Z.heap kc0 "COMPACT_STRINGS" "Z" (.int jj4)) (O0 : Old Z n0 h0) (zz12 : Sta Z Z.heap kc1 "$assertionsDisabled" "Z" (.int (1 : Int32))) (zz13 : Sta Z Z.heap kc1 "HI_BYTE_SHIFT" "I" (.int (0 : Int32))) (zz14 : Sta Z Z.heap kc1 "LO_BYTE_SHIFT" "I" (.int (8 : Int32))) (zz15 : n0 ≤ a0) :
    MetN l Z yn_4 jdk_42_method_3_code 2 none ws ({ frames := 5, cells := 2, slots := 12, locals := 74 } : Room) #[(.ref a0), (.ref a1)] h0 (Q_m4_43 Z a0 a1 k_a1 jj0 jj1 jj2 jj3 jj4 h0 n0) := by
 refine MetN.of (plainFor_of_name pn_2) ?_
 intro p e s m below meth c s₁ hret hx hby hml hown hnm hlk hZ X0 e0
 have N0 := Fr.nil n0
 rw [ef_m4_43 m a0 a1]
 refine w_aloadN X0 hx (d4_0 hby) rfl rfl (pc' := 1) rfl ?_
 refine w_aloadN X0 hx (d4_1 hby) rfl rfl (pc' := 2) rfl ?_
 refine w_iconst X0 hx (d4_2 hby) (v := (0 : Int32)) rfl (pc' := 3) rfl ?_
 refine w_aloadN X0 hx (d4_3 hby) rfl rfl (pc' := 4) rfl ?_
 refine w_alen X0 hx hZ e0 V_a1 (d4_4 hby) (pc' := 5) rfl ?_
 refine w_null X0 hx (d4_5 hby) (pc' := 6) rfl ?_
 refine w_special X0 hx (y := yn_5) rfl hown (mvT hZ (wd_18 hw)) (mvT hZ (wd_19 hw)) (mvT hZ (wd_21 hw)) (by decide) (backOf (W := 0) (rm_m5_44 l Z aZ hw [] a0 a1 jj4 k_a1 jj0 jj1 jj2 jj3 h0 n0 Z0 zz11 O0 hP_1 V_a1 zz5 zz6 zz7 zz8 zz12 zz13 zz14 E_a0 zz9 zz15 zz10) hZ (wd_21 hw) (wd_14 hw) (by decide) (by decide)) (by rw [hml]; rfl) [(.ref a1), (.int (0 : Int32)), (.int (4 : Int32)), .null] (lenOf pd_2 rfl) rfl (Nat.le_of_eq rfl) (d4_6 hby) (fun _ _ => ⟨rfl, e0, (by decide : 0 + 2 ≤ _), (by decide : 0 + 12 ≤ _)⟩) (pc' := 9) rfl ?_
 rintro _ _ ⟨T20, L20, k20, n20⟩ X20 ⟨Lc20, hQ20, l20, y20, z20⟩
 dsimp only [Pt.U, Pt.locs, Pt.cells, Pt.slots] at X20 l20 y20 z20 hQ20 ⊢
 rw [l20, y20, z20] at X20
 rcases hQ20 with ⟨t_20, kb_20, rfl, N20q, K20, g20_0, g20_1, g20_2, g20_3, g20_4, g20_5, g20_6, g20_7, g20_8⟩ | ⟨t_20, kb_20, rfl, N20q, K20, g20_0, g20_1, g20_2, g20_3, g20_4, g20_5⟩
 · have N21 := Fr.app N0 N20q
   have K22 : Keep h0 T20.heap [a0] := (Keep.refl h0 [a0]).trans K20 (allS (Or.inl (by simp)) (all0 (P := fun x => x ∈ [a0] ∨ h0.size ≤ x)))
   have ge23 : n0 ≤ t_20 := Nat.le_trans Z0 g20_3
   have sz24 : h0.size ≤ t_20 := Nat.le_trans (Nat.le_refl _) g20_3
   show Runs _ _ _ _ (T20.setTop (mkF m 9 #[.val (.ref a0), .val (.ref a1)] []))
   exact w_done X20 hlk (v := none) rfl (fun _ => rfl) (fun fs hr => X20.returnOut hx hret (d4_9 hby) hr) (by decide) (by decide) (Or.inl ⟨t_20, kb_20, rfl, N21, K22, g20_0, g20_1, g20_2, sz24, g20_4, g20_5, g20_6, g20_7, g20_8⟩)
 · have N25 := Fr.app N0 N20q
   have K26 : Keep h0 T20.heap [a0] := (Keep.refl h0 [a0]).trans K20 (allS (Or.inl (by simp)) (all0 (P := fun x => x ∈ [a0] ∨ h0.size ≤ x)))
   have ge27 : n0 ≤ t_20 := Nat.le_trans Z0 g20_3
   have sz28 : h0.size ≤ t_20 := Nat.le_trans (Nat.le_refl _) g20_3
   show Runs _ _ _ _ (T20.setTop (mkF m 9 #[.val (.ref a0), .val (.ref a1)] []))
   exact w_done X20 hlk (v := none) rfl (fun _ => rfl) (fun fs hr => X20.returnOut hx hret (d4_9 hby) hr) (by decide) (by decide) (Or.inr (⟨t_20, kb_20, rfl, N25, K26, g20_0, g20_1, g20_2, sz28, g20_4, g20_5⟩))
theorem ef_m3_3 (m : MethodId) (a0 : Addr) (p1 : Int32)  : entryFrame m #[(.ref a0), (.int p1)] 2 = mkF m 0 #[.val (.ref a0), .val (.int p1)] [] := by first | (simp [entryFrame, mkF, argsToLocals, Value.category]; done) | rfl
def Q_m3_3 (Z : State) (a0 : Addr) (p1 : Int32) (k_a0 : ClassId) (jj0 : Int32) (jj1 : Int32) (jj2 : Int32) (jj3 : Int32) (jj4 : Int32) (h0 : Heap) (n0 : Nat) (v : Option Value) (h : Heap) (L : List Loc) (S : Addr → Prop) : Prop := ∃ (r : Addr) (t : Addr) (kb : ClassId) (cd : Int32), v = some (.ref r) ∧ Fr n0 L ∧ Keep h0 h [] ∧ h0.size ≤ r ∧ S r ∧ Exa Z h r kc0 ∧ Fld Z h r kc0 "coder" "B" (.int cd) ∧ Fld Z h r kc0 "value" "[B" (.ref t) ∧ Arv Z h t kb .byte (p1 <<< (cd &&& 31)) (mI (encL cd (cl4 p1 jj0 jj1 jj2 jj3))) (.int (0 : Int32)) ∧ ((cd = (0 : Int32) ∧ ∀ x ∈ (cl4 p1 jj0 jj1 jj2 jj3), ¬ (255 : Int32) < x) ∨ cd = (1 : Int32))
theorem rm_m3_3 (l : Launch) (Z : State) (aZ : Array Value) (hw : ∀ d ∈ tables_1, d.before aZ Z = true) (ws : List Jvm.Cond) (a0 : Addr) (p1 : Int32) (k_a0 : ClassId) (jj0 : Int32) (jj1 : Int32) (jj2 : Int32) (jj3 : Int32) (jj4 : Int32) (h0 : Heap) (n0 : Nat) (Z0 : n0 ≤ h0.size) (V_a0 : Arv Z h0 a0 k_a0 .char (4 : Int32) [(.int jj0), (.int jj1), (.int jj2), (.int jj3)] (.int (0 : Int32))) (zz5 : nar .char jj0 = jj0) (zz6 : Sta Z Z.heap kc0 "COMPACT_STRINGS" "Z" (.int jj4)) (O0 : Old Z n0 h0) (zz7 : Sta Z Z.heap kc1 "$assertionsDisabled" "Z" (.int (1 : Int32))) (zz8 : Sta Z Z.heap kc1 "HI_BYTE_SHIFT" "I" (.int (0 : Int32))) (zz9 : Sta Z Z.heap kc1 "LO_BYTE_SHIFT" "I" (.int (8 : Int32))) (hP_7 : ¬ (jj4 = (0 : Int32))) (zz10 : nar .char jj1 = jj1) (zz11 : nar .char jj2 = jj2) (zz12 : nar .char jj3 = jj3) (zz13 : p1 < (5 : Int32)) (zz14 : ¬ (p1 < (0 : Int32))) :
    MetH l Z EL yn_3 method_5_code 2 (some (.object kc0)) ws ({ frames := 6, cells := 6, slots := 20, locals := 88 } : Room) #[(.ref a0), (.int p1)] h0 (Q_m3_3 Z a0 p1 k_a0 jj0 jj1 jj2 jj3 jj4 h0 n0) [] := by
 refine MetH.of (plainFor_of_name pn_0) ?_
 intro p e s m below meth c s₁ hret hx hby hml hown hnm hlk hZ X0 e0 hh hH hsf hS0 C0
 have N0 := Fr.nil n0
 rw [ef_m3_3 m a0 p1]
 refine w_iloadN X0 hx (d3_0 hby) rfl (pc' := 1) rfl ?_
 by_cases hc20 : p1 = (0 : Int32)
 · refine w_ifN X0 hx (d3_1 hby) (teq hc20).2 (pc' := 4) rfl ?_
   refine w_new X0 hx hZ hown (wd_12 hw) (wd_13 hw) (wd_14 hw) e0 (d3_4 hby) (by decide) (by decide) (pc' := 7) rfl ?_
   intro T21 h21 b21 X21 e21 E21 g21 A21 D21
   have ge22 : n0 ≤ b21 := Nat.le_trans Z0 (Nat.le_of_eq g21.symm)
   have sz23 : h0.size ≤ b21 := Nat.le_trans (Nat.le_refl _) (Nat.le_of_eq g21.symm)
   have C24 : CHr Z EL s.vm h0 s.vm h21 := C0.trans (CHr.ext E21 C0.1)
   have K25 : Keep h0 h21 [] := (Keep.refl h0 []).ext E21
   have f26 : Fld Z h21 b21 kc0 "value" "[B" .null := D21 (Or.inr (wd_27 hw)) (ty := (.array .byte)) (by decide)
   have f27 : Fld Z h21 b21 kc0 "coder" "B" (.int (0 : Int32)) := D21 (Or.inr (wd_28 hw)) (ty := .byte) (by decide)
   refine w_dup X21 hx (d3_7 hby) rfl (pc' := 8) rfl ?_
   refine w_iconst X21 hx (d3_8 hby) (v := (0 : Int32)) rfl (pc' := 9) rfl ?_
   refine w_newP X21 hx .char .char 0 rfl hZ (wd_0 hw) e21 (d3_9 hby) (by decide) (by decide) (by decide) (by decide) (by decide) (pc' := 11) rfl ?_
   intro T28 h28 k28 b28 X28 e28 E28 g28 A28
   have ge29 : n0 ≤ b28 := Nat.le_trans (Nat.le_trans Z0 E21.1) (Nat.le_of_eq g28.symm)
   have sz30 : h0.size ≤ b28 := Nat.le_trans E21.1 (Nat.le_of_eq g28.symm)
   have C31 : CHr Z EL s.vm h0 s.vm h28 := C24.trans (CHr.ext E28 C24.1)
   have K32 : Keep h0 h28 [] := K25.ext E28
   have V33 : Arv Z h28 b28 k28 .char (0 : Int32) [] (.int (0 : Int32)) := (Arv.new A28 (by decide)).pad (pad_rep [] (.int (0 : Int32)) 0)
   have f34 : Exa Z h28 b21 kc0 := (A21.ext E28)
   have f35 : Fld Z h28 b21 kc0 "value" "[B" .null := (f26.ext E28)
   have f36 : Fld Z h28 b21 kc0 "coder" "B" (.int (0 : Int32)) := (f27.ext E28)
   have le37 : h0.size ≤ h28.size := (Nat.le_trans E21.1 E28.1)
   have y39 : Safe Z EL s.vm h28 b21 := (Safe.ext E28 C24.1 (Safe.ext E21 C0.1 (Safe.new (Nat.le_of_eq g21.symm))))
   refine w_specialS X28 hx (y := yn_4) rfl hown (mvT hZ (wd_15 hw)) (mvT hZ (wd_16 hw)) (mvT hZ (wd_17 hw)) (by decide) (backOfY (W := 1) (rm_m4_5 l Z aZ hw [] b21 b28 k28 h28 n0 (Nat.le_trans Z0 le37) V33 f34 f35 f36 ge22) hZ (wd_17 hw) (wd_14 hw) (by decide) (by decide) (own_EW hw) C31.1 (sfS y39 sf0) (allS (Nat.lt_of_lt_of_le A21.lt E28.1) all0)) (by rw [hml]; rfl) [(.ref b28)] (lenOf pd_3 rfl) rfl (Nat.le_of_eq rfl) (d3_11 hby) (fun _ _ => ⟨rfl, e28, (by decide : 2 + 4 ≤ _), (by decide : 4 + 8 ≤ _)⟩) (pc' := 14) rfl ?_
   rintro _ _ ⟨T38, L38, k38, n38⟩ XX38 hSS38 hg38 ⟨Lc38, hQ38, l38, y38, z38, A38⟩
   dsimp only [Pt.U, Pt.locs, Pt.cells, Pt.slots] at XX38 l38 y38 z38 hQ38 hSS38 hg38 A38 ⊢
   rw [l38, y38, z38] at XX38
   obtain ⟨X38, hS38, hZ38, hown38⟩ := rebS hS0 (Nat.le_trans (Nat.le_refl _) le37) XX38 hSS38 (e28 ▸ hg38) hZ hown
   obtain ⟨r0_38, c0_38, rfl, N38q, K38, g38_0, g38_1, g38_2, g38_3⟩ := hQ38
   have N40 := Fr.app N0 N38q
   have C41 : CHr Z EL s.vm h0 T38.vm T38.heap := C31.trans A38
   have K42 : Keep h0 T38.heap [] := K32.trans K38 (allS (Or.inr sz23) (all0 (P := fun x => x ∈ [] ∨ h0.size ≤ x)))
   show Runs _ _ _ _ (T38.setTop (mkF m 14 #[.val (.ref a0), .val (.int p1)] [(.ref b21)]))
   have y43 : Safe Z EL T38.vm T38.heap b21 := (CHr.safe A38 (Nat.lt_of_lt_of_le A21.lt E28.1) y39)
   have le44 : h21.size ≤ T38.heap.size := (Nat.le_trans E28.1 K38.1)
   exact w_doneH X38 hlk (v := some (.ref b21)) rfl hh hZ38 (own_EW hw) hS38 (Nat.le_refl _) C41 (fun h => by rw [hret] at h; cases h) (fun fs hr => retOut X38 hx hret rfl (Or.inr (Or.inr (Or.inr (Or.inr ⟨rfl, rfl, rfl⟩)))) (d3_14 hby) hr) (by decide) (by decide) (fun hsy => ⟨b21, r0_38, c0_38, (0 : Int32), rfl, N40, K42, sz23, (hsy _ (Nat.lt_of_lt_of_le A21.lt le44) y43), g38_1, g38_3, g38_2, (by rw [hc20, own_cl4_0, own_enc0, show ((0 : Int32) <<< ((0 : Int32) &&& 31)) = 0 from by decide]; exact g38_0), (Or.inl ⟨rfl, (by rw [hc20, own_cl4_0]; exact (fun _ h => nomatch h))⟩)⟩)
 · refine w_ifY X0 hx (d3_1 hby) (feq hc20).2 (pc' := 15) (by decide) (by decide) ?_
   refine w_iloadN X0 hx (d3_15 hby) rfl (pc' := 16) rfl ?_
   refine w_iconst X0 hx (d3_16 hby) (v := (1 : Int32)) rfl (pc' := 17) rfl ?_
   by_cases hc45 : p1 = (1 : Int32)
   · refine w_icN X0 hx (d3_17 hby) (teq hc45).2 (pc' := 20) rfl ?_
     refine w_new X0 hx hZ hown (wd_12 hw) (wd_13 hw) (wd_14 hw) e0 (d3_20 hby) (by decide) (by decide) (pc' := 23) rfl ?_
     intro T46 h46 b46 X46 e46 E46 g46 A46 D46
     have ge47 : n0 ≤ b46 := Nat.le_trans Z0 (Nat.le_of_eq g46.symm)
     have sz48 : h0.size ≤ b46 := Nat.le_trans (Nat.le_refl _) (Nat.le_of_eq g46.symm)
     have C49 : CHr Z EL s.vm h0 s.vm h46 := C0.trans (CHr.ext E46 C0.1)
     have K50 : Keep h0 h46 [] := (Keep.refl h0 []).ext E46
     have f51 : Fld Z h46 b46 kc0 "value" "[B" .null := D46 (Or.inr (wd_27 hw)) (ty := (.array .byte)) (by decide)
     have f52 : Fld Z h46 b46 kc0 "coder" "B" (.int (0 : Int32)) := D46 (Or.inr (wd_28 hw)) (ty := .byte) (by decide)
     refine w_dup X46 hx (d3_23 hby) rfl (pc' := 24) rfl ?_
     refine w_iconst X46 hx (d3_24 hby) (v := (1 : Int32)) rfl (pc' := 25) rfl ?_
     refine w_newP X46 hx .char .char 1 rfl hZ (wd_0 hw) e46 (d3_25 hby) (by decide) (by decide) (by decide) (by decide) (by decide) (pc' := 27) rfl ?_
     intro T53 h53 k53 b53 X53 e53 E53 g53 A53
     have ge54 : n0 ≤ b53 := Nat.le_trans (Nat.le_trans Z0 E46.1) (Nat.le_of_eq g53.symm)
     have sz55 : h0.size ≤ b53 := Nat.le_trans E46.1 (Nat.le_of_eq g53.symm)
     have C56 : CHr Z EL s.vm h0 s.vm h53 := C49.trans (CHr.ext E53 C49.1)
     have K57 : Keep h0 h53 [] := K50.ext E53
     have V58 : Arv Z h53 b53 k53 .char (1 : Int32) [(.int (0 : Int32))] (.int (0 : Int32)) := (Arv.new A53 (by decide)).pad (pad_rep [] (.int (0 : Int32)) 1)
     refine w_dup X53 hx (d3_27 hby) rfl (pc' := 28) rfl ?_
     refine w_iconst X53 hx (d3_28 hby) (v := (0 : Int32)) rfl (pc' := 29) rfl ?_
     refine w_aloadN X53 hx (d3_29 hby) rfl rfl (pc' := 30) rfl ?_
     refine w_iconst X53 hx (d3_30 hby) (v := (0 : Int32)) rfl (pc' := 31) rfl ?_
     have f59 : Arv Z h53 a0 k_a0 .char (4 : Int32) [(.int jj0), (.int jj1), (.int jj2), (.int jj3)] (.int (0 : Int32)) := ((V_a0.ext E46).ext E53)
     obtain ⟨clu60, Aru60, qu60, Su60, Nu60, Hu60, Gu60⟩ := id f59
     have hinu60 := inb_of (j := (0 : Int32)) Su60 ⟨by decide, by decide⟩
     refine w_caload X53 hx hZ e53 Aru60 hinu60 (Hu60.at hinu60 rfl) (d3_31 hby) (pc' := 32) rfl ?_
     obtain ⟨clu61, Aru61, qu61, Su61, Nu61, Hu61, Gu61⟩ := id V58
     have hinu61 := inb_of (j := (0 : Int32)) Su61 ⟨by decide, by decide⟩
     refine w_stC X53 hx hZ e53 Aru61 hinu61 (d3_32 hby) (pc' := 33) rfl ?_
     intro T62 h62 X62 e62 W62
     have C63 : CHr Z EL s.vm h0 s.vm h62 := C56.trans (CHr.wr W62 (Safe.arv hZ.alike V58 (by decide)) C56.1)
     have V64 : Arv Z h62 b53 k53 .char (1 : Int32) [(.int (nar .char jj0))] (.int (0 : Int32)) := Arv.set Aru61 qu61 Su61 Nu61 Hu61 Gu61 (fits_nar_char _) W62 0 rfl (Nat.le_of_ble_eq_true rfl)
     have V65 : Arv Z h62 b53 k53 .char (1 : Int32) [(.int jj0)] (.int (0 : Int32)) := by rw [zz5] at V64; exact V64
     have K66 : Keep h0 h62 [] := K57.wr W62 (Or.inr sz55)
     have N67 := Fr.snoc X62 N0 ge54
     have f68 : Exa Z h62 b46 kc0 := ((A46.ext E53).wr W62)
     have ne69 : b46 ≠ b53 := (Nat.ne_of_lt (Nat.lt_of_lt_of_le A46.lt (Nat.le_trans (Nat.le_refl _) (Nat.le_of_eq g53.symm))))
     have f70 : Fld Z h62 b46 kc0 "coder" "B" (.int (0 : Int32)) := ((f52.ext E53).other W62 (Or.inl ne69))
     have f71 : Fld Z h62 b46 kc0 "value" "[B" .null := ((f51.ext E53).other W62 (Or.inl ne69))
     have f72 : Old Z n0 h62 := (((O0.ext E46).ext E53).wr W62 ge54)
     have le73 : h0.size ≤ h53.size := (Nat.le_trans E46.1 E53.1)
     have le74 : h0.size ≤ h62.size := (Nat.le_trans le73 (Keep.of_wr W62).1)
     refine w_special X62 hx (y := yn_4) rfl hown (mvT hZ (wd_15 hw)) (mvT hZ (wd_16 hw)) (mvT hZ (wd_17 hw)) (by decide) (backOf (W := 1) (rm_m4_7 l Z aZ hw [] b46 b53 k53 jj0 jj4 h62 n0 (Nat.le_trans Z0 le74) V65 hP_7 zz5 f68 f70 f71 zz6 f72 zz7 zz8 zz9 ge47) hZ (wd_17 hw) (wd_14 hw) (by decide) (by decide)) (by rw [hml]; rfl) [(.ref b53)] (lenOf pd_3 rfl) rfl (Nat.le_of_eq rfl) (d3_33 hby) (fun _ _ => ⟨rfl, e62, (by decide : 2 + 2 ≤ _), (by decide : 5 + 3 ≤ _)⟩) (pc' := 36) rfl ?_
     rintro _ _ ⟨T75, L75, k75, n75⟩ X75 ⟨Lc75, hQ75, l75, y75, z75⟩
     dsimp only [Pt.U, Pt.locs, Pt.cells, Pt.slots] at X75 l75 y75 z75 hQ75 ⊢
     rw [l75, y75, z75] at X75
     rcases hQ75 with ⟨t_75, kb_75, rfl, N75q, K75, g75_0, g75_1, g75_2, g75_3, g75_4, g75_5⟩ | ⟨t_75, kb_75, rfl, N75q, K75, g75_0, g75_1, g75_2, g75_3, g75_4, g75_5⟩
     · have N76 := Fr.app N67 N75q
       have y77 : Safe Z EL s.vm h62 b46 := (Safe.wr W62 (Safe.arv hZ.alike V58 (by decide)) C56.1 (Safe.ext E53 C49.1 (Safe.ext E46 C0.1 (Safe.new (Nat.le_of_eq g46.symm)))))
       have C78 : CHr Z EL s.vm h0 s.vm T75.heap := C63.trans (CHr.keep K75 (sfS y77 sf0) C63.1)
       have K79 : Keep h0 T75.heap [] := K66.trans K75 (allS (Or.inr sz48) (all0 (P := fun x => x ∈ [] ∨ h0.size ≤ x)))
       have ge80 : n0 ≤ t_75 := Nat.le_trans (Nat.le_trans Z0 le74) g75_3
       have sz81 : h0.size ≤ t_75 := Nat.le_trans le74 g75_3
       show Runs _ _ _ _ (T75.setTop (mkF m 36 #[.val (.ref a0), .val (.int p1)] [(.ref b46)]))
       have y82 : Safe Z EL s.vm T75.heap b46 := (Safe.keep K75 (sfS y77 sf0) C63.1 y77)
       have le83 : h46.size ≤ h62.size := (Nat.le_trans E53.1 (Keep.of_wr W62).1)
       have le84 : h46.size ≤ T75.heap.size := (Nat.le_trans le83 K75.1)
       have le85 : h0.size ≤ T75.heap.size := (Nat.le_trans le74 K75.1)
       exact w_doneH X75 hlk (v := some (.ref b46)) rfl hh hZ (own_EW hw) hS0 (Nat.le_trans (Nat.le_refl _) le85) C78 (fun h => by rw [hret] at h; cases h) (fun fs hr => retOut X75 hx hret rfl (Or.inr (Or.inr (Or.inr (Or.inr ⟨rfl, rfl, rfl⟩)))) (d3_36 hby) hr) (by decide) (by decide) (fun hsy => ⟨b46, t_75, kb_75, (0 : Int32), rfl, N76, K79, sz48, (hsy _ (Nat.lt_of_lt_of_le A46.lt le84) y82), g75_0, g75_1, g75_2, (by rw [hc45, own_cl4_1, own_enc0, show ((1 : Int32) <<< ((0 : Int32) &&& 31)) = 1 from by decide]; exact g75_4), (Or.inl ⟨rfl, (by rw [hc45, own_cl4_1]; exact (List.forall_mem_cons.2 ⟨g75_5, (fun _ h => nomatch h)⟩))⟩)⟩)
     · have N86 := Fr.app N67 N75q
       have y87 : Safe Z EL s.vm h62 b46 := (Safe.wr W62 (Safe.arv hZ.alike V58 (by decide)) C56.1 (Safe.ext E53 C49.1 (Safe.ext E46 C0.1 (Safe.new (Nat.le_of_eq g46.symm)))))
       have C88 : CHr Z EL s.vm h0 s.vm T75.heap := C63.trans (CHr.keep K75 (sfS y87 sf0) C63.1)
       have K89 : Keep h0 T75.heap [] := K66.trans K75 (allS (Or.inr sz48) (all0 (P := fun x => x ∈ [] ∨ h0.size ≤ x)))
       have ge90 : n0 ≤ t_75 := Nat.le_trans (Nat.le_trans Z0 le74) g75_3
       have sz91 : h0.size ≤ t_75 := Nat.le_trans le74 g75_3
       show Runs _ _ _ _ (T75.setTop (mkF m 36 #[.val (.ref a0), .val (.int p1)] [(.ref b46)]))
       have y92 : Safe Z EL s.vm T75.heap b46 := (Safe.keep K75 (sfS y87 sf0) C63.1 y87)
       have le93 : h46.size ≤ h62.size := (Nat.le_trans E53.1 (Keep.of_wr W62).1)
       have le94 : h46.size ≤ T75.heap.size := (Nat.le_trans le93 K75.1)
       have le95 : h0.size ≤ T75.heap.size := (Nat.le_trans le74 K75.1)
       exact w_doneH X75 hlk (v := some (.ref b46)) rfl hh hZ (own_EW hw) hS0 (Nat.le_trans (Nat.le_refl _) le95) C88 (fun h => by rw [hret] at h; cases h) (fun fs hr => retOut X75 hx hret rfl (Or.inr (Or.inr (Or.inr (Or.inr ⟨rfl, rfl, rfl⟩)))) (d3_36 hby) hr) (by decide) (by decide) (fun hsy => ⟨b46, t_75, kb_75, (1 : Int32), rfl, N86, K89, sz48, (hsy _ (Nat.lt_of_lt_of_le A46.lt le94) y92), g75_0, g75_1, g75_2, (by rw [hc45, own_cl4_1, own_enc1, show ((1 : Int32) <<< ((1 : Int32) &&& 31)) = 2 from by decide]; exact g75_4), (Or.inr rfl)⟩)
   · refine w_icY X0 hx (d3_17 hby) (feq hc45).2 (pc' := 37) (by decide) (by decide) ?_
     refine w_iloadN X0 hx (d3_37 hby) rfl (pc' := 38) rfl ?_
     refine w_iconst X0 hx (d3_38 hby) (v := (2 : Int32)) rfl (pc' := 39) rfl ?_
     by_cases hc96 : p1 = (2 : Int32)
     · refine w_icN X0 hx (d3_39 hby) (teq hc96).2 (pc' := 42) rfl ?_
       refine w_new X0 hx hZ hown (wd_12 hw) (wd_13 hw) (wd_14 hw) e0 (d3_42 hby) (by decide) (by decide) (pc' := 45) rfl ?_
       intro T97 h97 b97 X97 e97 E97 g97 A97 D97
       have ge98 : n0 ≤ b97 := Nat.le_trans Z0 (Nat.le_of_eq g97.symm)
       have sz99 : h0.size ≤ b97 := Nat.le_trans (Nat.le_refl _) (Nat.le_of_eq g97.symm)
       have C100 : CHr Z EL s.vm h0 s.vm h97 := C0.trans (CHr.ext E97 C0.1)
       have K101 : Keep h0 h97 [] := (Keep.refl h0 []).ext E97
       have f102 : Fld Z h97 b97 kc0 "value" "[B" .null := D97 (Or.inr (wd_27 hw)) (ty := (.array .byte)) (by decide)
       have f103 : Fld Z h97 b97 kc0 "coder" "B" (.int (0 : Int32)) := D97 (Or.inr (wd_28 hw)) (ty := .byte) (by decide)
       refine w_dup X97 hx (d3_45 hby) rfl (pc' := 46) rfl ?_
       refine w_iconst X97 hx (d3_46 hby) (v := (2 : Int32)) rfl (pc' := 47) rfl ?_
       refine w_newP X97 hx .char .char 2 rfl hZ (wd_0 hw) e97 (d3_47 hby) (by decide) (by decide) (by decide) (by decide) (by decide) (pc' := 49) rfl ?_
       intro T104 h104 k104 b104 X104 e104 E104 g104 A104
       have ge105 : n0 ≤ b104 := Nat.le_trans (Nat.le_trans Z0 E97.1) (Nat.le_of_eq g104.symm)
       have sz106 : h0.size ≤ b104 := Nat.le_trans E97.1 (Nat.le_of_eq g104.symm)
       have C107 : CHr Z EL s.vm h0 s.vm h104 := C100.trans (CHr.ext E104 C100.1)
       have K108 : Keep h0 h104 [] := K101.ext E104
       have V109 : Arv Z h104 b104 k104 .char (2 : Int32) [(.int (0 : Int32)), (.int (0 : Int32))] (.int (0 : Int32)) := (Arv.new A104 (by decide)).pad (pad_rep [] (.int (0 : Int32)) 2)
       refine w_dup X104 hx (d3_49 hby) rfl (pc' := 50) rfl ?_
       refine w_iconst X104 hx (d3_50 hby) (v := (0 : Int32)) rfl (pc' := 51) rfl ?_
       refine w_aloadN X104 hx (d3_51 hby) rfl rfl (pc' := 52) rfl ?_
       refine w_iconst X104 hx (d3_52 hby) (v := (0 : Int32)) rfl (pc' := 53) rfl ?_
       have f110 : Arv Z h104 a0 k_a0 .char (4 : Int32) [(.int jj0), (.int jj1), (.int jj2), (.int jj3)] (.int (0 : Int32)) := ((V_a0.ext E97).ext E104)
       obtain ⟨clu111, Aru111, qu111, Su111, Nu111, Hu111, Gu111⟩ := id f110
       have hinu111 := inb_of (j := (0 : Int32)) Su111 ⟨by decide, by decide⟩
       refine w_caload X104 hx hZ e104 Aru111 hinu111 (Hu111.at hinu111 rfl) (d3_53 hby) (pc' := 54) rfl ?_
       obtain ⟨clu112, Aru112, qu112, Su112, Nu112, Hu112, Gu112⟩ := id V109
       have hinu112 := inb_of (j := (0 : Int32)) Su112 ⟨by decide, by decide⟩
       refine w_stC X104 hx hZ e104 Aru112 hinu112 (d3_54 hby) (pc' := 55) rfl ?_
       intro T113 h113 X113 e113 W113
       have C114 : CHr Z EL s.vm h0 s.vm h113 := C107.trans (CHr.wr W113 (Safe.arv hZ.alike V109 (by decide)) C107.1)
       have V115 : Arv Z h113 b104 k104 .char (2 : Int32) [(.int (nar .char jj0)), (.int (0 : Int32))] (.int (0 : Int32)) := Arv.set Aru112 qu112 Su112 Nu112 Hu112 Gu112 (fits_nar_char _) W113 0 rfl (Nat.le_of_ble_eq_true rfl)
       have V116 : Arv Z h113 b104 k104 .char (2 : Int32) [(.int jj0), (.int (0 : Int32))] (.int (0 : Int32)) := by rw [zz5] at V115; exact V115
       have K117 : Keep h0 h113 [] := K108.wr W113 (Or.inr sz106)
       have N118 := Fr.snoc X113 N0 ge105
       refine w_dup X113 hx (d3_55 hby) rfl (pc' := 56) rfl ?_
       refine w_iconst X113 hx (d3_56 hby) (v := (1 : Int32)) rfl (pc' := 57) rfl ?_
       refine w_aloadN X113 hx (d3_57 hby) rfl rfl (pc' := 58) rfl ?_
       refine w_iconst X113 hx (d3_58 hby) (v := (1 : Int32)) rfl (pc' := 59) rfl ?_
       have ne119 : a0 ≠ b104 := (Nat.ne_of_lt (Nat.lt_of_lt_of_le V_a0.lt (Nat.le_trans E97.1 (Nat.le_of_eq g104.symm))))
       have f120 : Arv Z h113 a0 k_a0 .char (4 : Int32) [(.int jj0), (.int jj1), (.int jj2), (.int jj3)] (.int (0 : Int32)) := (f110.other W113 ne119)
       obtain ⟨clu121, Aru121, qu121, Su121, Nu121, Hu121, Gu121⟩ := id f120
       have hinu121 := inb_of (j := (1 : Int32)) Su121 ⟨by decide, by decide⟩
       refine w_caload X113 hx hZ e113 Aru121 hinu121 (Hu121.at hinu121 rfl) (d3_59 hby) (pc' := 60) rfl ?_
       obtain ⟨clu122, Aru122, qu122, Su122, Nu122, Hu122, Gu122⟩ := id V116
       have hinu122 := inb_of (j := (1 : Int32)) Su122 ⟨by decide, by decide⟩
       refine w_stC X113 hx hZ e113 Aru122 hinu122 (d3_60 hby) (pc' := 61) rfl ?_
       intro T123 h123 X123 e123 W123
       have C124 : CHr Z EL s.vm h0 s.vm h123 := C114.trans (CHr.wr W123 (Safe.arv hZ.alike V116 (by decide)) C114.1)
       have V125 : Arv Z h123 b104 k104 .char (2 : Int32) [(.int jj0), (.int (nar .char jj1))] (.int (0 : Int32)) := Arv.set Aru122 qu122 Su122 Nu122 Hu122 Gu122 (fits_nar_char _) W123 1 rfl (Nat.le_of_ble_eq_true rfl)
       have V126 : Arv Z h123 b104 k104 .char (2 : Int32) [(.int jj0), (.int jj1)] (.int (0 : Int32)) := by rw [zz10] at V125; exact V125
       have K127 : Keep h0 h123 [] := K117.wr W123 (Or.inr sz106)
       have N128 := Fr.snoc X123 N118 ge105
       have f129 : Exa Z h123 b97 kc0 := (((A97.ext E104).wr W113).wr W123)
       have ne130 : b97 ≠ b104 := (Nat.ne_of_lt (Nat.lt_of_lt_of_le A97.lt (Nat.le_trans (Nat.le_refl _) (Nat.le_of_eq g104.symm))))
       have f131 : Fld Z h123 b97 kc0 "coder" "B" (.int (0 : Int32)) := (((f103.ext E104).other W113 (Or.inl ne130)).other W123 (Or.inl ne130))
       have f132 : Fld Z h123 b97 kc0 "value" "[B" .null := (((f102.ext E104).other W113 (Or.inl ne130)).other W123 (Or.inl ne130))
       have f133 : Old Z n0 h123 := ((((O0.ext E97).ext E104).wr W113 ge105).wr W123 ge105)
       have le134 : h0.size ≤ h104.size := (Nat.le_trans E97.1 E104.1)
       have le135 : h0.size ≤ h113.size := (Nat.le_trans le134 (Keep.of_wr W113).1)
       have le136 : h0.size ≤ h123.size := (Nat.le_trans le135 (Keep.of_wr W123).1)
       refine w_special X123 hx (y := yn_4) rfl hown (mvT hZ (wd_15 hw)) (mvT hZ (wd_16 hw)) (mvT hZ (wd_17 hw)) (by decide) (backOf (W := 1) (rm_m4_18 l Z aZ hw [] b97 b104 k104 jj0 jj1 jj4 h123 n0 (Nat.le_trans Z0 le136) V126 hP_7 zz5 zz10 f129 f131 f132 zz6 f133 zz7 zz8 zz9 ge98) hZ (wd_17 hw) (wd_14 hw) (by decide) (by decide)) (by rw [hml]; rfl) [(.ref b104)] (lenOf pd_3 rfl) rfl (Nat.le_of_eq rfl) (d3_61 hby) (fun _ _ => ⟨rfl, e123, (by decide : 2 + 2 ≤ _), (by decide : 6 + 6 ≤ _)⟩) (pc' := 64) rfl ?_
       rintro _ _ ⟨T137, L137, k137, n137⟩ X137 ⟨Lc137, hQ137, l137, y137, z137⟩
       dsimp only [Pt.U, Pt.locs, Pt.cells, Pt.slots] at X137 l137 y137 z137 hQ137 ⊢
       rw [l137, y137, z137] at X137
       rcases hQ137 with ⟨t_137, kb_137, rfl, N137q, K137, g137_0, g137_1, g137_2, g137_3, g137_4, g137_5, g137_6⟩ | ⟨t_137, kb_137, rfl, N137q, K137, g137_0, g137_1, g137_2, g137_3, g137_4, g137_5⟩
       · have N138 := Fr.app N128 N137q
         have y139 : Safe Z EL s.vm h123 b97 := (Safe.wr W123 (Safe.arv hZ.alike V116 (by decide)) C114.1 (Safe.wr W113 (Safe.arv hZ.alike V109 (by decide)) C107.1 (Safe.ext E104 C100.1 (Safe.ext E97 C0.1 (Safe.new (Nat.le_of_eq g97.symm))))))
         have C140 : CHr Z EL s.vm h0 s.vm T137.heap := C124.trans (CHr.keep K137 (sfS y139 sf0) C124.1)
         have K141 : Keep h0 T137.heap [] := K127.trans K137 (allS (Or.inr sz99) (all0 (P := fun x => x ∈ [] ∨ h0.size ≤ x)))
         have ge142 : n0 ≤ t_137 := Nat.le_trans (Nat.le_trans Z0 le136) g137_3
         have sz143 : h0.size ≤ t_137 := Nat.le_trans le136 g137_3
         show Runs _ _ _ _ (T137.setTop (mkF m 64 #[.val (.ref a0), .val (.int p1)] [(.ref b97)]))
         have y144 : Safe Z EL s.vm T137.heap b97 := (Safe.keep K137 (sfS y139 sf0) C124.1 y139)
         have le145 : h97.size ≤ h113.size := (Nat.le_trans E104.1 (Keep.of_wr W113).1)
         have le146 : h97.size ≤ h123.size := (Nat.le_trans le145 (Keep.of_wr W123).1)
         have le147 : h97.size ≤ T137.heap.size := (Nat.le_trans le146 K137.1)
         have le148 : h0.size ≤ T137.heap.size := (Nat.le_trans le136 K137.1)
         exact w_doneH X137 hlk (v := some (.ref b97)) rfl hh hZ (own_EW hw) hS0 (Nat.le_trans (Nat.le_refl _) le148) C140 (fun h => by rw [hret] at h; cases h) (fun fs hr => retOut X137 hx hret rfl (Or.inr (Or.inr (Or.inr (Or.inr ⟨rfl, rfl, rfl⟩)))) (d3_64 hby) hr) (by decide) (by decide) (fun hsy => ⟨b97, t_137, kb_137, (0 : Int32), rfl, N138, K141, sz99, (hsy _ (Nat.lt_of_lt_of_le A97.lt le147) y144), g137_0, g137_1, g137_2, (by rw [hc96, own_cl4_2, own_enc0, show ((2 : Int32) <<< ((0 : Int32) &&& 31)) = 2 from by decide]; exact g137_4), (Or.inl ⟨rfl, (by rw [hc96, own_cl4_2]; exact (List.forall_mem_cons.2 ⟨g137_5, (List.forall_mem_cons.2 ⟨g137_6, (fun _ h => nomatch h)⟩)⟩))⟩)⟩)
       · have N149 := Fr.app N128 N137q
         have y150 : Safe Z EL s.vm h123 b97 := (Safe.wr W123 (Safe.arv hZ.alike V116 (by decide)) C114.1 (Safe.wr W113 (Safe.arv hZ.alike V109 (by decide)) C107.1 (Safe.ext E104 C100.1 (Safe.ext E97 C0.1 (Safe.new (Nat.le_of_eq g97.symm))))))
         have C151 : CHr Z EL s.vm h0 s.vm T137.heap := C124.trans (CHr.keep K137 (sfS y150 sf0) C124.1)
         have K152 : Keep h0 T137.heap [] := K127.trans K137 (allS (Or.inr sz99) (all0 (P := fun x => x ∈ [] ∨ h0.size ≤ x)))
         have ge153 : n0 ≤ t_137 := Nat.le_trans (Nat.le_trans Z0 le136) g137_3
         have sz154 : h0.size ≤ t_137 := Nat.le_trans le136 g137_3
         show Runs _ _ _ _ (T137.setTop (mkF m 64 #[.val (.ref a0), .val (.int p1)] [(.ref b97)]))
         have y155 : Safe Z EL s.vm T137.heap b97 := (Safe.keep K137 (sfS y150 sf0) C124.1 y150)
         have le156 : h97.size ≤ h113.size := (Nat.le_trans E104.1 (Keep.of_wr W113).1)
         have le157 : h97.size ≤ h123.size := (Nat.le_trans le156 (Keep.of_wr W123).1)
         have le158 : h97.size ≤ T137.heap.size := (Nat.le_trans le157 K137.1)
         have le159 : h0.size ≤ T137.heap.size := (Nat.le_trans le136 K137.1)
         exact w_doneH X137 hlk (v := some (.ref b97)) rfl hh hZ (own_EW hw) hS0 (Nat.le_trans (Nat.le_refl _) le159) C151 (fun h => by rw [hret] at h; cases h) (fun fs hr => retOut X137 hx hret rfl (Or.inr (Or.inr (Or.inr (Or.inr ⟨rfl, rfl, rfl⟩)))) (d3_64 hby) hr) (by decide) (by decide) (fun hsy => ⟨b97, t_137, kb_137, (1 : Int32), rfl, N149, K152, sz99, (hsy _ (Nat.lt_of_lt_of_le A97.lt le158) y155), g137_0, g137_1, g137_2, (by rw [hc96, own_cl4_2, own_enc1, show ((2 : Int32) <<< ((1 : Int32) &&& 31)) = 4 from by decide]; exact g137_4), (Or.inr rfl)⟩)
     · refine w_icY X0 hx (d3_39 hby) (feq hc96).2 (pc' := 65) (by decide) (by decide) ?_
       refine w_iloadN X0 hx (d3_65 hby) rfl (pc' := 66) rfl ?_
       refine w_iconst X0 hx (d3_66 hby) (v := (3 : Int32)) rfl (pc' := 67) rfl ?_
       by_cases hc160 : p1 = (3 : Int32)
       · refine w_icN X0 hx (d3_67 hby) (teq hc160).2 (pc' := 70) rfl ?_
         refine w_new X0 hx hZ hown (wd_12 hw) (wd_13 hw) (wd_14 hw) e0 (d3_70 hby) (by decide) (by decide) (pc' := 73) rfl ?_
         intro T161 h161 b161 X161 e161 E161 g161 A161 D161
         have ge162 : n0 ≤ b161 := Nat.le_trans Z0 (Nat.le_of_eq g161.symm)
         have sz163 : h0.size ≤ b161 := Nat.le_trans (Nat.le_refl _) (Nat.le_of_eq g161.symm)
         have C164 : CHr Z EL s.vm h0 s.vm h161 := C0.trans (CHr.ext E161 C0.1)
         have K165 : Keep h0 h161 [] := (Keep.refl h0 []).ext E161
         have f166 : Fld Z h161 b161 kc0 "value" "[B" .null := D161 (Or.inr (wd_27 hw)) (ty := (.array .byte)) (by decide)
         have f167 : Fld Z h161 b161 kc0 "coder" "B" (.int (0 : Int32)) := D161 (Or.inr (wd_28 hw)) (ty := .byte) (by decide)
         refine w_dup X161 hx (d3_73 hby) rfl (pc' := 74) rfl ?_
         refine w_iconst X161 hx (d3_74 hby) (v := (3 : Int32)) rfl (pc' := 75) rfl ?_
         refine w_newP X161 hx .char .char 3 rfl hZ (wd_0 hw) e161 (d3_75 hby) (by decide) (by decide) (by decide) (by decide) (by decide) (pc' := 77) rfl ?_
         intro T168 h168 k168 b168 X168 e168 E168 g168 A168
         have ge169 : n0 ≤ b168 := Nat.le_trans (Nat.le_trans Z0 E161.1) (Nat.le_of_eq g168.symm)
         have sz170 : h0.size ≤ b168 := Nat.le_trans E161.1 (Nat.le_of_eq g168.symm)
         have C171 : CHr Z EL s.vm h0 s.vm h168 := C164.trans (CHr.ext E168 C164.1)
         have K172 : Keep h0 h168 [] := K165.ext E168
         have V173 : Arv Z h168 b168 k168 .char (3 : Int32) [(.int (0 : Int32)), (.int (0 : Int32)), (.int (0 : Int32))] (.int (0 : Int32)) := (Arv.new A168 (by decide)).pad (pad_rep [] (.int (0 : Int32)) 3)
         refine w_dup X168 hx (d3_77 hby) rfl (pc' := 78) rfl ?_
         refine w_iconst X168 hx (d3_78 hby) (v := (0 : Int32)) rfl (pc' := 79) rfl ?_
         refine w_aloadN X168 hx (d3_79 hby) rfl rfl (pc' := 80) rfl ?_
         refine w_iconst X168 hx (d3_80 hby) (v := (0 : Int32)) rfl (pc' := 81) rfl ?_
         have f174 : Arv Z h168 a0 k_a0 .char (4 : Int32) [(.int jj0), (.int jj1), (.int jj2), (.int jj3)] (.int (0 : Int32)) := ((V_a0.ext E161).ext E168)
         obtain ⟨clu175, Aru175, qu175, Su175, Nu175, Hu175, Gu175⟩ := id f174
         have hinu175 := inb_of (j := (0 : Int32)) Su175 ⟨by decide, by decide⟩
         refine w_caload X168 hx hZ e168 Aru175 hinu175 (Hu175.at hinu175 rfl) (d3_81 hby) (pc' := 82) rfl ?_
         obtain ⟨clu176, Aru176, qu176, Su176, Nu176, Hu176, Gu176⟩ := id V173
         have hinu176 := inb_of (j := (0 : Int32)) Su176 ⟨by decide, by decide⟩
         refine w_stC X168 hx hZ e168 Aru176 hinu176 (d3_82 hby) (pc' := 83) rfl ?_
         intro T177 h177 X177 e177 W177
         have C178 : CHr Z EL s.vm h0 s.vm h177 := C171.trans (CHr.wr W177 (Safe.arv hZ.alike V173 (by decide)) C171.1)
         have V179 : Arv Z h177 b168 k168 .char (3 : Int32) [(.int (nar .char jj0)), (.int (0 : Int32)), (.int (0 : Int32))] (.int (0 : Int32)) := Arv.set Aru176 qu176 Su176 Nu176 Hu176 Gu176 (fits_nar_char _) W177 0 rfl (Nat.le_of_ble_eq_true rfl)
         have V180 : Arv Z h177 b168 k168 .char (3 : Int32) [(.int jj0), (.int (0 : Int32)), (.int (0 : Int32))] (.int (0 : Int32)) := by rw [zz5] at V179; exact V179
         have K181 : Keep h0 h177 [] := K172.wr W177 (Or.inr sz170)
         have N182 := Fr.snoc X177 N0 ge169
         refine w_dup X177 hx (d3_83 hby) rfl (pc' := 84) rfl ?_
         refine w_iconst X177 hx (d3_84 hby) (v := (1 : Int32)) rfl (pc' := 85) rfl ?_
         refine w_aloadN X177 hx (d3_85 hby) rfl rfl (pc' := 86) rfl ?_
         refine w_iconst X177 hx (d3_86 hby) (v := (1 : Int32)) rfl (pc' := 87) rfl ?_
         have ne183 : a0 ≠ b168 := (Nat.ne_of_lt (Nat.lt_of_lt_of_le V_a0.lt (Nat.le_trans E161.1 (Nat.le_of_eq g168.symm))))
         have f184 : Arv Z h177 a0 k_a0 .char (4 : Int32) [(.int jj0), (.int jj1), (.int jj2), (.int jj3)] (.int (0 : Int32)) := (f174.other W177 ne183)
         obtain ⟨clu185, Aru185, qu185, Su185, Nu185, Hu185, Gu185⟩ := id f184
         have hinu185 := inb_of (j := (1 : Int32)) Su185 ⟨by decide, by decide⟩
         refine w_caload X177 hx hZ e177 Aru185 hinu185 (Hu185.at hinu185 rfl) (d3_87 hby) (pc' := 88) rfl ?_
         obtain ⟨clu186, Aru186, qu186, Su186, Nu186, Hu186, Gu186⟩ := id V180
         have hinu186 := inb_of (j := (1 : Int32)) Su186 ⟨by decide, by decide⟩
         refine w_stC X177 hx hZ e177 Aru186 hinu186 (d3_88 hby) (pc' := 89) rfl ?_
         intro T187 h187 X187 e187 W187
         have C188 : CHr Z EL s.vm h0 s.vm h187 := C178.trans (CHr.wr W187 (Safe.arv hZ.alike V180 (by decide)) C178.1)
         have V189 : Arv Z h187 b168 k168 .char (3 : Int32) [(.int jj0), (.int (nar .char jj1)), (.int (0 : Int32))] (.int (0 : Int32)) := Arv.set Aru186 qu186 Su186 Nu186 Hu186 Gu186 (fits_nar_char _) W187 1 rfl (Nat.le_of_ble_eq_true rfl)
         have V190 : Arv Z h187 b168 k168 .char (3 : Int32) [(.int jj0), (.int jj1), (.int (0 : Int32))] (.int (0 : Int32)) := by rw [zz10] at V189; exact V189
         have K191 : Keep h0 h187 [] := K181.wr W187 (Or.inr sz170)
         have N192 := Fr.snoc X187 N182 ge169
         refine w_dup X187 hx (d3_89 hby) rfl (pc' := 90) rfl ?_
         refine w_iconst X187 hx (d3_90 hby) (v := (2 : Int32)) rfl (pc' := 91) rfl ?_
         refine w_aloadN X187 hx (d3_91 hby) rfl rfl (pc' := 92) rfl ?_
         refine w_iconst X187 hx (d3_92 hby) (v := (2 : Int32)) rfl (pc' := 93) rfl ?_
         have f193 : Arv Z h187 a0 k_a0 .char (4 : Int32) [(.int jj0), (.int jj1), (.int jj2), (.int jj3)] (.int (0 : Int32)) := (f184.other W187 ne183)
         obtain ⟨clu194, Aru194, qu194, Su194, Nu194, Hu194, Gu194⟩ := id f193
         have hinu194 := inb_of (j := (2 : Int32)) Su194 ⟨by decide, by decide⟩
         refine w_caload X187 hx hZ e187 Aru194 hinu194 (Hu194.at hinu194 rfl) (d3_93 hby) (pc' := 94) rfl ?_
         obtain ⟨clu195, Aru195, qu195, Su195, Nu195, Hu195, Gu195⟩ := id V190
         have hinu195 := inb_of (j := (2 : Int32)) Su195 ⟨by decide, by decide⟩
         refine w_stC X187 hx hZ e187 Aru195 hinu195 (d3_94 hby) (pc' := 95) rfl ?_
         intro T196 h196 X196 e196 W196
         have C197 : CHr Z EL s.vm h0 s.vm h196 := C188.trans (CHr.wr W196 (Safe.arv hZ.alike V190 (by decide)) C188.1)
         have V198 : Arv Z h196 b168 k168 .char (3 : Int32) [(.int jj0), (.int jj1), (.int (nar .char jj2))] (.int (0 : Int32)) := Arv.set Aru195 qu195 Su195 Nu195 Hu195 Gu195 (fits_nar_char _) W196 2 rfl (Nat.le_of_ble_eq_true rfl)
         have V199 : Arv Z h196 b168 k168 .char (3 : Int32) [(.int jj0), (.int jj1), (.int jj2)] (.int (0 : Int32)) := by rw [zz11] at V198; exact V198
         have K200 : Keep h0 h196 [] := K191.wr W196 (Or.inr sz170)
         have N201 := Fr.snoc X196 N192 ge169
         have f202 : Exa Z h196 b161 kc0 := ((((A161.ext E168).wr W177).wr W187).wr W196)
         have ne203 : b161 ≠ b168 := (Nat.ne_of_lt (Nat.lt_of_lt_of_le A161.lt (Nat.le_trans (Nat.le_refl _) (Nat.le_of_eq g168.symm))))
         have f204 : Fld Z h196 b161 kc0 "coder" "B" (.int (0 : Int32)) := ((((f167.ext E168).other W177 (Or.inl ne203)).other W187 (Or.inl ne203)).other W196 (Or.inl ne203))
         have f205 : Fld Z h196 b161 kc0 "value" "[B" .null := ((((f166.ext E168).other W177 (Or.inl ne203)).other W187 (Or.inl ne203)).other W196 (Or.inl ne203))
         have f206 : Old Z n0 h196 := (((((O0.ext E161).ext E168).wr W177 ge169).wr W187 ge169).wr W196 ge169)
         have le207 : h0.size ≤ h168.size := (Nat.le_trans E161.1 E168.1)
         have le208 : h0.size ≤ h177.size := (Nat.le_trans le207 (Keep.of_wr W177).1)
         have le209 : h0.size ≤ h187.size := (Nat.le_trans le208 (Keep.of_wr W187).1)
         have le210 : h0.size ≤ h196.size := (Nat.le_trans le209 (Keep.of_wr W196).1)
         refine w_special X196 hx (y := yn_4) rfl hown (mvT hZ (wd_15 hw)) (mvT hZ (wd_16 hw)) (mvT hZ (wd_17 hw)) (by decide) (backOf (W := 1) (rm_m4_30 l Z aZ hw [] b161 b168 k168 jj0 jj1 jj2 jj4 h196 n0 (Nat.le_trans Z0 le210) V199 hP_7 zz5 zz10 zz11 f202 f204 f205 zz6 f206 zz7 zz8 zz9 ge162) hZ (wd_17 hw) (wd_14 hw) (by decide) (by decide)) (by rw [hml]; rfl) [(.ref b168)] (lenOf pd_3 rfl) rfl (Nat.le_of_eq rfl) (d3_95 hby) (fun _ _ => ⟨rfl, e196, (by decide : 2 + 2 ≤ _), (by decide : 7 + 9 ≤ _)⟩) (pc' := 98) rfl ?_
         rintro _ _ ⟨T211, L211, k211, n211⟩ X211 ⟨Lc211, hQ211, l211, y211, z211⟩
         dsimp only [Pt.U, Pt.locs, Pt.cells, Pt.slots] at X211 l211 y211 z211 hQ211 ⊢
         rw [l211, y211, z211] at X211
         rcases hQ211 with ⟨t_211, kb_211, rfl, N211q, K211, g211_0, g211_1, g211_2, g211_3, g211_4, g211_5, g211_6, g211_7⟩ | ⟨t_211, kb_211, rfl, N211q, K211, g211_0, g211_1, g211_2, g211_3, g211_4, g211_5⟩
         · have N212 := Fr.app N201 N211q
           have y213 : Safe Z EL s.vm h196 b161 := (Safe.wr W196 (Safe.arv hZ.alike V190 (by decide)) C188.1 (Safe.wr W187 (Safe.arv hZ.alike V180 (by decide)) C178.1 (Safe.wr W177 (Safe.arv hZ.alike V173 (by decide)) C171.1 (Safe.ext E168 C164.1 (Safe.ext E161 C0.1 (Safe.new (Nat.le_of_eq g161.symm)))))))
           have C214 : CHr Z EL s.vm h0 s.vm T211.heap := C197.trans (CHr.keep K211 (sfS y213 sf0) C197.1)
           have K215 : Keep h0 T211.heap [] := K200.trans K211 (allS (Or.inr sz163) (all0 (P := fun x => x ∈ [] ∨ h0.size ≤ x)))
           have ge216 : n0 ≤ t_211 := Nat.le_trans (Nat.le_trans Z0 le210) g211_3
           have sz217 : h0.size ≤ t_211 := Nat.le_trans le210 g211_3
           show Runs _ _ _ _ (T211.setTop (mkF m 98 #[.val (.ref a0), .val (.int p1)] [(.ref b161)]))
           have y218 : Safe Z EL s.vm T211.heap b161 := (Safe.keep K211 (sfS y213 sf0) C197.1 y213)
           have le219 : h161.size ≤ h177.size := (Nat.le_trans E168.1 (Keep.of_wr W177).1)
           have le220 : h161.size ≤ h187.size := (Nat.le_trans le219 (Keep.of_wr W187).1)
           have le221 : h161.size ≤ h196.size := (Nat.le_trans le220 (Keep.of_wr W196).1)
           have le222 : h161.size ≤ T211.heap.size := (Nat.le_trans le221 K211.1)
           have le223 : h0.size ≤ T211.heap.size := (Nat.le_trans le210 K211.1)
           exact w_doneH X211 hlk (v := some (.ref b161)) rfl hh hZ (own_EW hw) hS0 (Nat.le_trans (Nat.le_refl _) le223) C214 (fun h => by rw [hret] at h; cases h) (fun fs hr => retOut X211 hx hret rfl (Or.inr (Or.inr (Or.inr (Or.inr ⟨rfl, rfl, rfl⟩)))) (d3_98 hby) hr) (by decide) (by decide) (fun hsy => ⟨b161, t_211, kb_211, (0 : Int32), rfl, N212, K215, sz163, (hsy _ (Nat.lt_of_lt_of_le A161.lt le222) y218), g211_0, g211_1, g211_2, (by rw [hc160, own_cl4_3, own_enc0, show ((3 : Int32) <<< ((0 : Int32) &&& 31)) = 3 from by decide]; exact g211_4), (Or.inl ⟨rfl, (by rw [hc160, own_cl4_3]; exact (List.forall_mem_cons.2 ⟨g211_5, (List.forall_mem_cons.2 ⟨g211_6, (List.forall_mem_cons.2 ⟨g211_7, (fun _ h => nomatch h)⟩)⟩)⟩))⟩)⟩)
         · have N224 := Fr.app N201 N211q
           have y225 : Safe Z EL s.vm h196 b161 := (Safe.wr W196 (Safe.arv hZ.alike V190 (by decide)) C188.1 (Safe.wr W187 (Safe.arv hZ.alike V180 (by decide)) C178.1 (Safe.wr W177 (Safe.arv hZ.alike V173 (by decide)) C171.1 (Safe.ext E168 C164.1 (Safe.ext E161 C0.1 (Safe.new (Nat.le_of_eq g161.symm)))))))
           have C226 : CHr Z EL s.vm h0 s.vm T211.heap := C197.trans (CHr.keep K211 (sfS y225 sf0) C197.1)
           have K227 : Keep h0 T211.heap [] := K200.trans K211 (allS (Or.inr sz163) (all0 (P := fun x => x ∈ [] ∨ h0.size ≤ x)))
           have ge228 : n0 ≤ t_211 := Nat.le_trans (Nat.le_trans Z0 le210) g211_3
           have sz229 : h0.size ≤ t_211 := Nat.le_trans le210 g211_3
           show Runs _ _ _ _ (T211.setTop (mkF m 98 #[.val (.ref a0), .val (.int p1)] [(.ref b161)]))
           have y230 : Safe Z EL s.vm T211.heap b161 := (Safe.keep K211 (sfS y225 sf0) C197.1 y225)
           have le231 : h161.size ≤ h177.size := (Nat.le_trans E168.1 (Keep.of_wr W177).1)
           have le232 : h161.size ≤ h187.size := (Nat.le_trans le231 (Keep.of_wr W187).1)
           have le233 : h161.size ≤ h196.size := (Nat.le_trans le232 (Keep.of_wr W196).1)
           have le234 : h161.size ≤ T211.heap.size := (Nat.le_trans le233 K211.1)
           have le235 : h0.size ≤ T211.heap.size := (Nat.le_trans le210 K211.1)
           exact w_doneH X211 hlk (v := some (.ref b161)) rfl hh hZ (own_EW hw) hS0 (Nat.le_trans (Nat.le_refl _) le235) C226 (fun h => by rw [hret] at h; cases h) (fun fs hr => retOut X211 hx hret rfl (Or.inr (Or.inr (Or.inr (Or.inr ⟨rfl, rfl, rfl⟩)))) (d3_98 hby) hr) (by decide) (by decide) (fun hsy => ⟨b161, t_211, kb_211, (1 : Int32), rfl, N224, K227, sz163, (hsy _ (Nat.lt_of_lt_of_le A161.lt le234) y230), g211_0, g211_1, g211_2, (by rw [hc160, own_cl4_3, own_enc1, show ((3 : Int32) <<< ((1 : Int32) &&& 31)) = 6 from by decide]; exact g211_4), (Or.inr rfl)⟩)
       · refine w_icY X0 hx (d3_67 hby) (feq hc160).2 (pc' := 99) (by decide) (by decide) ?_
         refine w_new X0 hx hZ hown (wd_12 hw) (wd_13 hw) (wd_14 hw) e0 (d3_99 hby) (by decide) (by decide) (pc' := 102) rfl ?_
         intro T236 h236 b236 X236 e236 E236 g236 A236 D236
         have ge237 : n0 ≤ b236 := Nat.le_trans Z0 (Nat.le_of_eq g236.symm)
         have sz238 : h0.size ≤ b236 := Nat.le_trans (Nat.le_refl _) (Nat.le_of_eq g236.symm)
         have C239 : CHr Z EL s.vm h0 s.vm h236 := C0.trans (CHr.ext E236 C0.1)
         have K240 : Keep h0 h236 [] := (Keep.refl h0 []).ext E236
         have f241 : Fld Z h236 b236 kc0 "value" "[B" .null := D236 (Or.inr (wd_27 hw)) (ty := (.array .byte)) (by decide)
         have f242 : Fld Z h236 b236 kc0 "coder" "B" (.int (0 : Int32)) := D236 (Or.inr (wd_28 hw)) (ty := .byte) (by decide)
         refine w_dup X236 hx (d3_102 hby) rfl (pc' := 103) rfl ?_
         refine w_iconst X236 hx (d3_103 hby) (v := (4 : Int32)) rfl (pc' := 104) rfl ?_
         refine w_newP X236 hx .char .char 4 rfl hZ (wd_0 hw) e236 (d3_104 hby) (by decide) (by decide) (by decide) (by decide) (by decide) (pc' := 106) rfl ?_
         intro T243 h243 k243 b243 X243 e243 E243 g243 A243
         have ge244 : n0 ≤ b243 := Nat.le_trans (Nat.le_trans Z0 E236.1) (Nat.le_of_eq g243.symm)
         have sz245 : h0.size ≤ b243 := Nat.le_trans E236.1 (Nat.le_of_eq g243.symm)
         have C246 : CHr Z EL s.vm h0 s.vm h243 := C239.trans (CHr.ext E243 C239.1)
         have K247 : Keep h0 h243 [] := K240.ext E243
         have V248 : Arv Z h243 b243 k243 .char (4 : Int32) [(.int (0 : Int32)), (.int (0 : Int32)), (.int (0 : Int32)), (.int (0 : Int32))] (.int (0 : Int32)) := (Arv.new A243 (by decide)).pad (pad_rep [] (.int (0 : Int32)) 4)
         refine w_dup X243 hx (d3_106 hby) rfl (pc' := 107) rfl ?_
         refine w_iconst X243 hx (d3_107 hby) (v := (0 : Int32)) rfl (pc' := 108) rfl ?_
         refine w_aloadN X243 hx (d3_108 hby) rfl rfl (pc' := 109) rfl ?_
         refine w_iconst X243 hx (d3_109 hby) (v := (0 : Int32)) rfl (pc' := 110) rfl ?_
         have f249 : Arv Z h243 a0 k_a0 .char (4 : Int32) [(.int jj0), (.int jj1), (.int jj2), (.int jj3)] (.int (0 : Int32)) := ((V_a0.ext E236).ext E243)
         obtain ⟨clu250, Aru250, qu250, Su250, Nu250, Hu250, Gu250⟩ := id f249
         have hinu250 := inb_of (j := (0 : Int32)) Su250 ⟨by decide, by decide⟩
         refine w_caload X243 hx hZ e243 Aru250 hinu250 (Hu250.at hinu250 rfl) (d3_110 hby) (pc' := 111) rfl ?_
         obtain ⟨clu251, Aru251, qu251, Su251, Nu251, Hu251, Gu251⟩ := id V248
         have hinu251 := inb_of (j := (0 : Int32)) Su251 ⟨by decide, by decide⟩
         refine w_stC X243 hx hZ e243 Aru251 hinu251 (d3_111 hby) (pc' := 112) rfl ?_
         intro T252 h252 X252 e252 W252
         have C253 : CHr Z EL s.vm h0 s.vm h252 := C246.trans (CHr.wr W252 (Safe.arv hZ.alike V248 (by decide)) C246.1)
         have V254 : Arv Z h252 b243 k243 .char (4 : Int32) [(.int (nar .char jj0)), (.int (0 : Int32)), (.int (0 : Int32)), (.int (0 : Int32))] (.int (0 : Int32)) := Arv.set Aru251 qu251 Su251 Nu251 Hu251 Gu251 (fits_nar_char _) W252 0 rfl (Nat.le_of_ble_eq_true rfl)
         have V255 : Arv Z h252 b243 k243 .char (4 : Int32) [(.int jj0), (.int (0 : Int32)), (.int (0 : Int32)), (.int (0 : Int32))] (.int (0 : Int32)) := by rw [zz5] at V254; exact V254
         have K256 : Keep h0 h252 [] := K247.wr W252 (Or.inr sz245)
         have N257 := Fr.snoc X252 N0 ge244
         refine w_dup X252 hx (d3_112 hby) rfl (pc' := 113) rfl ?_
         refine w_iconst X252 hx (d3_113 hby) (v := (1 : Int32)) rfl (pc' := 114) rfl ?_
         refine w_aloadN X252 hx (d3_114 hby) rfl rfl (pc' := 115) rfl ?_
         refine w_iconst X252 hx (d3_115 hby) (v := (1 : Int32)) rfl (pc' := 116) rfl ?_
         have ne258 : a0 ≠ b243 := (Nat.ne_of_lt (Nat.lt_of_lt_of_le V_a0.lt (Nat.le_trans E236.1 (Nat.le_of_eq g243.symm))))
         have f259 : Arv Z h252 a0 k_a0 .char (4 : Int32) [(.int jj0), (.int jj1), (.int jj2), (.int jj3)] (.int (0 : Int32)) := (f249.other W252 ne258)
         obtain ⟨clu260, Aru260, qu260, Su260, Nu260, Hu260, Gu260⟩ := id f259
         have hinu260 := inb_of (j := (1 : Int32)) Su260 ⟨by decide, by decide⟩
         refine w_caload X252 hx hZ e252 Aru260 hinu260 (Hu260.at hinu260 rfl) (d3_116 hby) (pc' := 117) rfl ?_
         obtain ⟨clu261, Aru261, qu261, Su261, Nu261, Hu261, Gu261⟩ := id V255
         have hinu261 := inb_of (j := (1 : Int32)) Su261 ⟨by decide, by decide⟩
         refine w_stC X252 hx hZ e252 Aru261 hinu261 (d3_117 hby) (pc' := 118) rfl ?_
         intro T262 h262 X262 e262 W262
         have C263 : CHr Z EL s.vm h0 s.vm h262 := C253.trans (CHr.wr W262 (Safe.arv hZ.alike V255 (by decide)) C253.1)
         have V264 : Arv Z h262 b243 k243 .char (4 : Int32) [(.int jj0), (.int (nar .char jj1)), (.int (0 : Int32)), (.int (0 : Int32))] (.int (0 : Int32)) := Arv.set Aru261 qu261 Su261 Nu261 Hu261 Gu261 (fits_nar_char _) W262 1 rfl (Nat.le_of_ble_eq_true rfl)
         have V265 : Arv Z h262 b243 k243 .char (4 : Int32) [(.int jj0), (.int jj1), (.int (0 : Int32)), (.int (0 : Int32))] (.int (0 : Int32)) := by rw [zz10] at V264; exact V264
         have K266 : Keep h0 h262 [] := K256.wr W262 (Or.inr sz245)
         have N267 := Fr.snoc X262 N257 ge244
         refine w_dup X262 hx (d3_118 hby) rfl (pc' := 119) rfl ?_
         refine w_iconst X262 hx (d3_119 hby) (v := (2 : Int32)) rfl (pc' := 120) rfl ?_
         refine w_aloadN X262 hx (d3_120 hby) rfl rfl (pc' := 121) rfl ?_
         refine w_iconst X262 hx (d3_121 hby) (v := (2 : Int32)) rfl (pc' := 122) rfl ?_
         have f268 : Arv Z h262 a0 k_a0 .char (4 : Int32) [(.int jj0), (.int jj1), (.int jj2), (.int jj3)] (.int (0 : Int32)) := (f259.other W262 ne258)
         obtain ⟨clu269, Aru269, qu269, Su269, Nu269, Hu269, Gu269⟩ := id f268
         have hinu269 := inb_of (j := (2 : Int32)) Su269 ⟨by decide, by decide⟩
         refine w_caload X262 hx hZ e262 Aru269 hinu269 (Hu269.at hinu269 rfl) (d3_122 hby) (pc' := 123) rfl ?_
         obtain ⟨clu270, Aru270, qu270, Su270, Nu270, Hu270, Gu270⟩ := id V265
         have hinu270 := inb_of (j := (2 : Int32)) Su270 ⟨by decide, by decide⟩
         refine w_stC X262 hx hZ e262 Aru270 hinu270 (d3_123 hby) (pc' := 124) rfl ?_
         intro T271 h271 X271 e271 W271
         have C272 : CHr Z EL s.vm h0 s.vm h271 := C263.trans (CHr.wr W271 (Safe.arv hZ.alike V265 (by decide)) C263.1)
         have V273 : Arv Z h271 b243 k243 .char (4 : Int32) [(.int jj0), (.int jj1), (.int (nar .char jj2)), (.int (0 : Int32))] (.int (0 : Int32)) := Arv.set Aru270 qu270 Su270 Nu270 Hu270 Gu270 (fits_nar_char _) W271 2 rfl (Nat.le_of_ble_eq_true rfl)
         have V274 : Arv Z h271 b243 k243 .char (4 : Int32) [(.int jj0), (.int jj1), (.int jj2), (.int (0 : Int32))] (.int (0 : Int32)) := by rw [zz11] at V273; exact V273
         have K275 : Keep h0 h271 [] := K266.wr W271 (Or.inr sz245)
         have N276 := Fr.snoc X271 N267 ge244
         refine w_dup X271 hx (d3_124 hby) rfl (pc' := 125) rfl ?_
         refine w_iconst X271 hx (d3_125 hby) (v := (3 : Int32)) rfl (pc' := 126) rfl ?_
         refine w_aloadN X271 hx (d3_126 hby) rfl rfl (pc' := 127) rfl ?_
         refine w_iconst X271 hx (d3_127 hby) (v := (3 : Int32)) rfl (pc' := 128) rfl ?_
         have f277 : Arv Z h271 a0 k_a0 .char (4 : Int32) [(.int jj0), (.int jj1), (.int jj2), (.int jj3)] (.int (0 : Int32)) := (f268.other W271 ne258)
         obtain ⟨clu278, Aru278, qu278, Su278, Nu278, Hu278, Gu278⟩ := id f277
         have hinu278 := inb_of (j := (3 : Int32)) Su278 ⟨by decide, by decide⟩
         refine w_caload X271 hx hZ e271 Aru278 hinu278 (Hu278.at hinu278 rfl) (d3_128 hby) (pc' := 129) rfl ?_
         obtain ⟨clu279, Aru279, qu279, Su279, Nu279, Hu279, Gu279⟩ := id V274
         have hinu279 := inb_of (j := (3 : Int32)) Su279 ⟨by decide, by decide⟩
         refine w_stC X271 hx hZ e271 Aru279 hinu279 (d3_129 hby) (pc' := 130) rfl ?_
         intro T280 h280 X280 e280 W280
         have C281 : CHr Z EL s.vm h0 s.vm h280 := C272.trans (CHr.wr W280 (Safe.arv hZ.alike V274 (by decide)) C272.1)
         have V282 : Arv Z h280 b243 k243 .char (4 : Int32) [(.int jj0), (.int jj1), (.int jj2), (.int (nar .char jj3))] (.int (0 : Int32)) := Arv.set Aru279 qu279 Su279 Nu279 Hu279 Gu279 (fits_nar_char _) W280 3 rfl (Nat.le_of_ble_eq_true rfl)
         have V283 : Arv Z h280 b243 k243 .char (4 : Int32) [(.int jj0), (.int jj1), (.int jj2), (.int jj3)] (.int (0 : Int32)) := by rw [zz12] at V282; exact V282
         have K284 : Keep h0 h280 [] := K275.wr W280 (Or.inr sz245)
         have N285 := Fr.snoc X280 N276 ge244
         have f286 : Exa Z h280 b236 kc0 := (((((A236.ext E243).wr W252).wr W262).wr W271).wr W280)
         have ne287 : b236 ≠ b243 := (Nat.ne_of_lt (Nat.lt_of_lt_of_le A236.lt (Nat.le_trans (Nat.le_refl _) (Nat.le_of_eq g243.symm))))
         have f288 : Fld Z h280 b236 kc0 "coder" "B" (.int (0 : Int32)) := (((((f242.ext E243).other W252 (Or.inl ne287)).other W262 (Or.inl ne287)).other W271 (Or.inl ne287)).other W280 (Or.inl ne287))
         have f289 : Fld Z h280 b236 kc0 "value" "[B" .null := (((((f241.ext E243).other W252 (Or.inl ne287)).other W262 (Or.inl ne287)).other W271 (Or.inl ne287)).other W280 (Or.inl ne287))
         have f290 : Old Z n0 h280 := ((((((O0.ext E236).ext E243).wr W252 ge244).wr W262 ge244).wr W271 ge244).wr W280 ge244)
         have le291 : h0.size ≤ h243.size := (Nat.le_trans E236.1 E243.1)
         have le292 : h0.size ≤ h252.size := (Nat.le_trans le291 (Keep.of_wr W252).1)
         have le293 : h0.size ≤ h262.size := (Nat.le_trans le292 (Keep.of_wr W262).1)
         have le294 : h0.size ≤ h271.size := (Nat.le_trans le293 (Keep.of_wr W271).1)
         have le295 : h0.size ≤ h280.size := (Nat.le_trans le294 (Keep.of_wr W280).1)
         refine w_special X280 hx (y := yn_4) rfl hown (mvT hZ (wd_15 hw)) (mvT hZ (wd_16 hw)) (mvT hZ (wd_17 hw)) (by decide) (backOf (W := 1) (rm_m4_43 l Z aZ hw [] b236 b243 k243 jj0 jj1 jj2 jj3 jj4 h280 n0 (Nat.le_trans Z0 le295) V283 hP_7 zz5 zz10 zz11 zz12 f286 f288 f289 zz6 f290 zz7 zz8 zz9 ge237) hZ (wd_17 hw) (wd_14 hw) (by decide) (by decide)) (by rw [hml]; rfl) [(.ref b243)] (lenOf pd_3 rfl) rfl (Nat.le_of_eq rfl) (d3_130 hby) (fun _ _ => ⟨rfl, e280, (by decide : 2 + 2 ≤ _), (by decide : 8 + 12 ≤ _)⟩) (pc' := 133) rfl ?_
         rintro _ _ ⟨T296, L296, k296, n296⟩ X296 ⟨Lc296, hQ296, l296, y296, z296⟩
         dsimp only [Pt.U, Pt.locs, Pt.cells, Pt.slots] at X296 l296 y296 z296 hQ296 ⊢
         rw [l296, y296, z296] at X296
         rcases hQ296 with ⟨t_296, kb_296, rfl, N296q, K296, g296_0, g296_1, g296_2, g296_3, g296_4, g296_5, g296_6, g296_7, g296_8⟩ | ⟨t_296, kb_296, rfl, N296q, K296, g296_0, g296_1, g296_2, g296_3, g296_4, g296_5⟩
         · have N297 := Fr.app N285 N296q
           have y298 : Safe Z EL s.vm h280 b236 := (Safe.wr W280 (Safe.arv hZ.alike V274 (by decide)) C272.1 (Safe.wr W271 (Safe.arv hZ.alike V265 (by decide)) C263.1 (Safe.wr W262 (Safe.arv hZ.alike V255 (by decide)) C253.1 (Safe.wr W252 (Safe.arv hZ.alike V248 (by decide)) C246.1 (Safe.ext E243 C239.1 (Safe.ext E236 C0.1 (Safe.new (Nat.le_of_eq g236.symm))))))))
           have C299 : CHr Z EL s.vm h0 s.vm T296.heap := C281.trans (CHr.keep K296 (sfS y298 sf0) C281.1)
           have K300 : Keep h0 T296.heap [] := K284.trans K296 (allS (Or.inr sz238) (all0 (P := fun x => x ∈ [] ∨ h0.size ≤ x)))
           have ge301 : n0 ≤ t_296 := Nat.le_trans (Nat.le_trans Z0 le295) g296_3
           have sz302 : h0.size ≤ t_296 := Nat.le_trans le295 g296_3
           show Runs _ _ _ _ (T296.setTop (mkF m 133 #[.val (.ref a0), .val (.int p1)] [(.ref b236)]))
           have y303 : Safe Z EL s.vm T296.heap b236 := (Safe.keep K296 (sfS y298 sf0) C281.1 y298)
           have le304 : h236.size ≤ h252.size := (Nat.le_trans E243.1 (Keep.of_wr W252).1)
           have le305 : h236.size ≤ h262.size := (Nat.le_trans le304 (Keep.of_wr W262).1)
           have le306 : h236.size ≤ h271.size := (Nat.le_trans le305 (Keep.of_wr W271).1)
           have le307 : h236.size ≤ h280.size := (Nat.le_trans le306 (Keep.of_wr W280).1)
           have le308 : h236.size ≤ T296.heap.size := (Nat.le_trans le307 K296.1)
           have le309 : h0.size ≤ T296.heap.size := (Nat.le_trans le295 K296.1)
           exact w_doneH X296 hlk (v := some (.ref b236)) rfl hh hZ (own_EW hw) hS0 (Nat.le_trans (Nat.le_refl _) le309) C299 (fun h => by rw [hret] at h; cases h) (fun fs hr => retOut X296 hx hret rfl (Or.inr (Or.inr (Or.inr (Or.inr ⟨rfl, rfl, rfl⟩)))) (d3_133 hby) hr) (by decide) (by decide) (fun hsy => ⟨b236, t_296, kb_296, (0 : Int32), rfl, N297, K300, sz238, (hsy _ (Nat.lt_of_lt_of_le A236.lt le308) y303), g296_0, g296_1, g296_2, (by rw [(own_is4 zz13 zz14 hc20 hc45 hc96 hc160), own_cl4_4, own_enc0, show ((4 : Int32) <<< ((0 : Int32) &&& 31)) = 4 from by decide]; exact g296_4), (Or.inl ⟨rfl, (by rw [(own_is4 zz13 zz14 hc20 hc45 hc96 hc160), own_cl4_4]; exact (List.forall_mem_cons.2 ⟨g296_5, (List.forall_mem_cons.2 ⟨g296_6, (List.forall_mem_cons.2 ⟨g296_7, (List.forall_mem_cons.2 ⟨g296_8, (fun _ h => nomatch h)⟩)⟩)⟩)⟩))⟩)⟩)
         · have N310 := Fr.app N285 N296q
           have y311 : Safe Z EL s.vm h280 b236 := (Safe.wr W280 (Safe.arv hZ.alike V274 (by decide)) C272.1 (Safe.wr W271 (Safe.arv hZ.alike V265 (by decide)) C263.1 (Safe.wr W262 (Safe.arv hZ.alike V255 (by decide)) C253.1 (Safe.wr W252 (Safe.arv hZ.alike V248 (by decide)) C246.1 (Safe.ext E243 C239.1 (Safe.ext E236 C0.1 (Safe.new (Nat.le_of_eq g236.symm))))))))
           have C312 : CHr Z EL s.vm h0 s.vm T296.heap := C281.trans (CHr.keep K296 (sfS y311 sf0) C281.1)
           have K313 : Keep h0 T296.heap [] := K284.trans K296 (allS (Or.inr sz238) (all0 (P := fun x => x ∈ [] ∨ h0.size ≤ x)))
           have ge314 : n0 ≤ t_296 := Nat.le_trans (Nat.le_trans Z0 le295) g296_3
           have sz315 : h0.size ≤ t_296 := Nat.le_trans le295 g296_3
           show Runs _ _ _ _ (T296.setTop (mkF m 133 #[.val (.ref a0), .val (.int p1)] [(.ref b236)]))
           have y316 : Safe Z EL s.vm T296.heap b236 := (Safe.keep K296 (sfS y311 sf0) C281.1 y311)
           have le317 : h236.size ≤ h252.size := (Nat.le_trans E243.1 (Keep.of_wr W252).1)
           have le318 : h236.size ≤ h262.size := (Nat.le_trans le317 (Keep.of_wr W262).1)
           have le319 : h236.size ≤ h271.size := (Nat.le_trans le318 (Keep.of_wr W271).1)
           have le320 : h236.size ≤ h280.size := (Nat.le_trans le319 (Keep.of_wr W280).1)
           have le321 : h236.size ≤ T296.heap.size := (Nat.le_trans le320 K296.1)
           have le322 : h0.size ≤ T296.heap.size := (Nat.le_trans le295 K296.1)
           exact w_doneH X296 hlk (v := some (.ref b236)) rfl hh hZ (own_EW hw) hS0 (Nat.le_trans (Nat.le_refl _) le322) C312 (fun h => by rw [hret] at h; cases h) (fun fs hr => retOut X296 hx hret rfl (Or.inr (Or.inr (Or.inr (Or.inr ⟨rfl, rfl, rfl⟩)))) (d3_133 hby) hr) (by decide) (by decide) (fun hsy => ⟨b236, t_296, kb_296, (1 : Int32), rfl, N310, K313, sz238, (hsy _ (Nat.lt_of_lt_of_le A236.lt le321) y316), g296_0, g296_1, g296_2, (by rw [(own_is4 zz13 zz14 hc20 hc45 hc96 hc160), own_cl4_4, own_enc1, show ((4 : Int32) <<< ((1 : Int32) &&& 31)) = 8 from by decide]; exact g296_4), (Or.inr rfl)⟩)
theorem ef_m7_57 (m : MethodId) (a0 : Addr)  : entryFrame m #[(.ref a0), .null] 4 = mkF m 0 #[.val (.ref a0), .val .null, .unset, .unset] [] := by first | (simp [entryFrame, mkF, argsToLocals, Value.category]; done) | rfl
def Q_m7_57 (Z : State) (a0 : Addr) (h0 : Heap) (n0 : Nat) (v : Option Value) (h : Heap) (L : List Loc) : Prop := v = some (.int (0 : Int32)) ∧ Fr n0 L ∧ h = h0
theorem rm_m7_57 (l : Launch) (Z : State) (aZ : Array Value) (hw : ∀ d ∈ tables_1, d.before aZ Z = true) (ws : List Jvm.Cond) (a0 : Addr) (h0 : Heap) (n0 : Nat) (Z0 : n0 ≤ h0.size) :
    MetN l Z yn_7 prog_12_method_2_code 4 (some .boolean) ws ({ frames := 0, cells := 0, slots := 0, locals := 0 } : Room) #[(.ref a0), .null] h0 (Q_m7_57 Z a0 h0 n0) := by
 refine MetN.of (plainFor_of_name pn_1) ?_
 intro p e s m below meth c s₁ hret hx hby hml hown hnm hlk hZ X0 e0
 have N0 := Fr.nil n0
 rw [ef_m7_57 m a0]
 refine w_aloadN X0 hx (d7_0 hby) rfl rfl (pc' := 1) rfl ?_
 refine w_ifnullY X0 hx (d7_1 hby) (pc' := 15) (by decide) (by decide) ?_
 refine w_iconst X0 hx (d7_15 hby) (v := (0 : Int32)) rfl (pc' := 16) rfl ?_
 exact w_done X0 hlk (v := some (.int (0 : Int32))) e0 (fun h => by rw [hret] at h; cases h) (fun fs hr => retN X0 hx (t := .boolean) hret (by simp) (d7_16 hby) hr) (by decide) (by decide) (⟨rfl, N0, rfl⟩)
theorem ef_m17_60 (m : MethodId) (a0 : Addr)  : entryFrame m #[(.ref a0)] 1 = mkF m 0 #[.val (.ref a0)] [] := by first | (simp [entryFrame, mkF, argsToLocals, Value.category]; done) | rfl
def Q_m17_60 (Z : State) (a0 : Addr) (jj0 : Int32) (jj1 : Int32) (h0 : Heap) (n0 : Nat) (v : Option Value) (h : Heap) (L : List Loc) : Prop := v = some (.int jj1) ∧ Fr n0 L ∧ h = h0
theorem rm_m17_60 (l : Launch) (Z : State) (aZ : Array Value) (hw : ∀ d ∈ tables_1, d.before aZ Z = true) (ws : List Jvm.Cond) (a0 : Addr) (jj0 : Int32) (jj1 : Int32) (h0 : Heap) (n0 : Nat) (Z0 : n0 ≤ h0.size) (zz2 : Sta Z Z.heap kc0 "COMPACT_STRINGS" "Z" (.int jj0)) (O0 : Old Z n0 h0) (hP_2 : ¬ (jj0 = (0 : Int32))) (zz3 : Fld Z h0 a0 kc0 "coder" "B" (.int jj1)) (zz4 : nar .byte jj1 = jj1) :
    MetN l Z yn_17 jdk_42_method_152_code 1 (some .byte) ws ({ frames := 0, cells := 0, slots := 0, locals := 0 } : Room) #[(.ref a0)] h0 (Q_m17_60 Z a0 jj0 jj1 h0 n0) := by
 refine MetN.of (plainFor_of_name pn_2) ?_
 intro p e s m below meth c s₁ hret hx hby hml hown hnm hlk hZ X0 e0
 have N0 := Fr.nil n0
 rw [ef_m17_60 m a0]
 refine w_getS X0 hx "" hZ hown (Or.inl (wd_37 hw)) Via.refl e0 (zz2.ext O0.2) (d17_0 hby) (pc' := 3) rfl ?_
 intro T20 X20 e20
 refine w_ifN X20 hx (d17_3 hby) (feq hP_2).1 (pc' := 6) rfl ?_
 refine w_aloadN X20 hx (d17_6 hby) rfl rfl (pc' := 7) rfl ?_
 refine w_getF X20 hx "" hZ hown (Or.inl (wd_32 hw)) Via.refl e20 zz3 (d17_7 hby) (pc' := 10) rfl ?_
 intro T21 X21 e21
 refine w_goto X21 hx (d17_10 hby) (pc' := 14) (by decide) (by decide) ?_
 exact w_done X21 hlk (v := some (.int jj1)) e21 (fun h => by rw [hret] at h; cases h) (fun fs hr => retOut X21 hx hret (t := .byte) (narrow_nar (t := .byte) (by simp) zz4) (Or.inl ⟨rfl, by simp, _, rfl⟩) (d17_14 hby) hr) (by decide) (by decide) (⟨rfl, N0, rfl⟩)
theorem ef_m16_59 (m : MethodId) (a0 : Addr)  : entryFrame m #[(.ref a0)] 1 = mkF m 0 #[.val (.ref a0)] [] := by first | (simp [entryFrame, mkF, argsToLocals, Value.category]; done) | rfl
def Q_m16_59 (Z : State) (a0 : Addr) (jj0 : Addr) (jj1 : ClassId) (jj2 : Int32) (jj3 : List Int32) (jj4 : Int32) (jj5 : Int32) (h0 : Heap) (n0 : Nat) (v : Option Value) (h : Heap) (L : List Loc) : Prop := v = some (.int (jj2 >>> (jj4 &&& 31))) ∧ Fr n0 L ∧ h = h0
theorem rm_m16_59 (l : Launch) (Z : State) (aZ : Array Value) (hw : ∀ d ∈ tables_1, d.before aZ Z = true) (ws : List Jvm.Cond) (a0 : Addr) (jj0 : Addr) (jj1 : ClassId) (jj2 : Int32) (jj3 : List Int32) (jj4 : Int32) (jj5 : Int32) (h0 : Heap) (n0 : Nat) (Z0 : n0 ≤ h0.size) (zz6 : Fld Z h0 a0 kc0 "value" "[B" (.ref jj0)) (zz7 : Arv Z h0 jj0 jj1 .byte jj2 (mI jj3) (.int (0 : Int32))) (E_a0 : Exa Z h0 a0 kc0) (hP_3 : ¬ (jj5 = (0 : Int32))) (zz8 : Fld Z h0 a0 kc0 "coder" "B" (.int jj4)) (zz9 : nar .byte jj4 = jj4) (zz10 : Sta Z Z.heap kc0 "COMPACT_STRINGS" "Z" (.int jj5)) (O0 : Old Z n0 h0) :
    MetN l Z yn_16 jdk_42_method_54_code 1 (some .int) ws ({ frames := 1, cells := 0, slots := 0, locals := 13 } : Room) #[(.ref a0)] h0 (Q_m16_59 Z a0 jj0 jj1 jj2 jj3 jj4 jj5 h0 n0) := by
 refine MetN.of (plainFor_of_name pn_2) ?_
 intro p e s m below meth c s₁ hret hx hby hml hown hnm hlk hZ X0 e0
 have N0 := Fr.nil n0
 rw [ef_m16_59 m a0]
 refine w_aloadN X0 hx (d16_0 hby) rfl rfl (pc' := 1) rfl ?_
 refine w_getF X0 hx "" hZ hown (Or.inl (wd_31 hw)) Via.refl e0 zz6 (d16_1 hby) (pc' := 4) rfl ?_
 intro T20 X20 e20
 refine w_alen X20 hx hZ e20 zz7 (d16_4 hby) (pc' := 5) rfl ?_
 refine w_aloadN X20 hx (d16_5 hby) rfl rfl (pc' := 6) rfl ?_
 obtain ⟨cq21, kq21, q21a, q21b, q21c⟩ := isOf hZ e20 E_a0
 refine w_virtual X20 hx (y := yn_17) (z := yn_17) hown (mvT hZ (wd_72 hw)) (mvT hZ (wd_73 hw)) (notFace_of_selects (args := #[]) (mvT hZ (wd_75 hw))) (mvT hZ (wd_75 hw)) (mvT hZ (wd_74 hw)) (by decide) (backOf (W := 1) (rm_m17_60 l Z aZ hw [] a0 jj5 jj4 h0 n0 Z0 zz10 O0 hP_3 zz8 zz9) hZ (wd_76 hw) (wd_14 hw) (by decide) (by decide)) q21a q21c (by rw [hml]; rfl) [] (lenOf pd_13 rfl) rfl (Nat.le_of_eq rfl) (d16_6 hby) (fun _ _ => ⟨rfl, e20, (by decide : 0 + 0 ≤ _), (by decide : 0 + 0 ≤ _)⟩) (pc' := 9) rfl ?_
 rintro _ _ ⟨T21, L21, k21, n21⟩ X21 ⟨Lc21, hQ21, l21, y21, z21⟩
 dsimp only [Pt.U, Pt.locs, Pt.cells, Pt.slots] at X21 l21 y21 z21 hQ21 ⊢
 rw [l21, y21, z21] at X21
 obtain ⟨rfl, N21q, e21⟩ := hQ21
 have N22 := Fr.app N0 N21q
 show Runs _ _ _ _ (T21.setTop (mkF m 9 #[.val (.ref a0)] [(.int jj4), (.int jj2)]))
 refine w_ishr X21 hx (d16_9 hby) (pc' := 10) rfl ?_
 exact w_done X21 hlk (v := some (.int (jj2 >>> (jj4 &&& 31)))) e21 (fun h => by rw [hret] at h; cases h) (fun fs hr => retI X21 hx hret (d16_10 hby) hr) (by decide) (by decide) (⟨rfl, N22, rfl⟩)
theorem ef_m19_62 (m : MethodId) (a0 : Addr)  : entryFrame m #[(.ref a0)] 1 = mkF m 0 #[.val (.ref a0)] [] := by first | (simp [entryFrame, mkF, argsToLocals, Value.category]; done) | rfl
def Q_m19_62 (Z : State) (a0 : Addr) (jj0 : Int32) (jj1 : Int32) (h0 : Heap) (n0 : Nat) (v : Option Value) (h : Heap) (L : List Loc) : Prop := v = some (.int (if jj1 = (0 : Int32) then (1 : Int32) else (0 : Int32))) ∧ Fr n0 L ∧ h = h0
theorem rm_m19_62 (l : Launch) (Z : State) (aZ : Array Value) (hw : ∀ d ∈ tables_1, d.before aZ Z = true) (ws : List Jvm.Cond) (a0 : Addr) (jj0 : Int32) (jj1 : Int32) (h0 : Heap) (n0 : Nat) (Z0 : n0 ≤ h0.size) (zz2 : Sta Z Z.heap kc0 "COMPACT_STRINGS" "Z" (.int jj0)) (O0 : Old Z n0 h0) (hP_2 : ¬ (jj0 = (0 : Int32))) (zz3 : Fld Z h0 a0 kc0 "coder" "B" (.int jj1)) :
    MetN l Z yn_19 jdk_42_method_154_code 1 (some .boolean) ws ({ frames := 0, cells := 0, slots := 0, locals := 0 } : Room) #[(.ref a0)] h0 (Q_m19_62 Z a0 jj0 jj1 h0 n0) := by
 refine MetN.of (plainFor_of_name pn_2) ?_
 intro p e s m below meth c s₁ hret hx hby hml hown hnm hlk hZ X0 e0
 have N0 := Fr.nil n0
 rw [ef_m19_62 m a0]
 refine w_getS X0 hx "" hZ hown (Or.inl (wd_37 hw)) Via.refl e0 (zz2.ext O0.2) (d19_0 hby) (pc' := 3) rfl ?_
 intro T20 X20 e20
 refine w_ifN X20 hx (d19_3 hby) (feq hP_2).1 (pc' := 6) rfl ?_
 refine w_aloadN X20 hx (d19_6 hby) rfl rfl (pc' := 7) rfl ?_
 refine w_getF X20 hx "" hZ hown (Or.inl (wd_32 hw)) Via.refl e20 zz3 (d19_7 hby) (pc' := 10) rfl ?_
 intro T21 X21 e21
 suffices key23 : Runs p e below (EndN s (Q_m19_62 Z a0 jj0 jj1 h0 n0) ({ frames := 0, cells := 0, slots := 0, locals := 0 } : Room).cells ({ frames := 0, cells := 0, slots := 0, locals := 0 } : Room).slots) (T21.setTop (mkF m 18 #[.val (.ref a0)] [(.int (if jj1 = (0 : Int32) then (1 : Int32) else (0 : Int32)))])) by
  by_cases hc22 : jj1 = (0 : Int32)
  · rw [if_pos hc22] at key23
    refine w_ifN X21 hx (d19_10 hby) (teq hc22).2 (pc' := 13) rfl ?_
    refine w_iconst X21 hx (d19_13 hby) (v := (1 : Int32)) rfl (pc' := 14) rfl ?_
    refine w_goto X21 hx (d19_14 hby) (pc' := 18) (by decide) (by decide) ?_
    exact key23
  · rw [if_neg hc22] at key23
    refine w_ifY X21 hx (d19_10 hby) (feq hc22).2 (pc' := 17) (by decide) (by decide) ?_
    refine w_iconst X21 hx (d19_17 hby) (v := (0 : Int32)) rfl (pc' := 18) rfl ?_
    exact key23
 exact w_done X21 hlk (v := some (.int (if jj1 = (0 : Int32) then (1 : Int32) else (0 : Int32)))) e21 (fun h => by rw [hret] at h; cases h) (fun fs hr => retOut X21 hx hret (t := .boolean) (narrow_nar (t := .boolean) (by simp) nar_ite) (Or.inl ⟨rfl, by simp, _, rfl⟩) (d19_18 hby) hr) (by decide) (by decide) (⟨rfl, N0, rfl⟩)
theorem ef_m24_65 (m : MethodId) (p1 : Int32) (v2 : Value) (r_v2 : v2.isRef = true) : entryFrame m #[(.int (0 : Int32)), (.int p1), v2] 3 = mkF m 0 #[.val (.int (0 : Int32)), .val (.int p1), .val v2] [] := by
  rcases XT.refc r_v2 with rfl | ⟨z_v2, rfl⟩ <;> first | (simp [entryFrame, mkF, argsToLocals, Value.category]; done) | rfl
def Q_m24_65 (Z : State) (p1 : Int32) (v2 : Value) (h0 : Heap) (n0 : Nat) (v : Option Value) (h : Heap) (L : List Loc) : Prop := v = some (.int (0 : Int32)) ∧ Fr n0 L ∧ h = h0
theorem rm_m24_65 (l : Launch) (Z : State) (aZ : Array Value) (hw : ∀ d ∈ tables_1, d.before aZ Z = true) (ws : List Jvm.Cond) (p1 : Int32) (v2 : Value) (h0 : Heap) (n0 : Nat) (Z0 : n0 ≤ h0.size) (r_v2 : v2.isRef = true) (hP_1 : (0 : Int32) < p1) :
    MetN l Z yn_24 jdk_41_method_11_code 3 (some .int) ws ({ frames := 0, cells := 0, slots := 0, locals := 0 } : Room) #[(.int (0 : Int32)), (.int p1), v2] h0 (Q_m24_65 Z p1 v2 h0 n0) := by
 refine MetN.of (plainFor_of_name pn_4) ?_
 intro p e s m below meth c s₁ hret hx hby hml hown hnm hlk hZ X0 e0
 have N0 := Fr.nil n0
 rw [ef_m24_65 m p1 v2 r_v2]
 refine w_iloadN X0 hx (d24_0 hby) rfl (pc' := 1) rfl ?_
 refine w_ifN X0 hx (d24_1 hby) (flt (by decide : ¬ ((0 : Int32) < (0 : Int32)))).1 (pc' := 4) rfl ?_
 refine w_iloadN X0 hx (d24_4 hby) rfl (pc' := 5) rfl ?_
 refine w_iloadN X0 hx (d24_5 hby) rfl (pc' := 6) rfl ?_
 refine w_icY X0 hx (d24_6 hby) (tlt hP_1).1 (pc' := 16) (by decide) (by decide) ?_
 refine w_iloadN X0 hx (d24_16 hby) rfl (pc' := 17) rfl ?_
 exact w_done X0 hlk (v := some (.int (0 : Int32))) e0 (fun h => by rw [hret] at h; cases h) (fun fs hr => retI X0 hx hret (d24_17 hby) hr) (by decide) (by decide) (⟨rfl, N0, rfl⟩)
theorem ef_m23_64 (m : MethodId) (p1 : Int32)  : entryFrame m #[(.int (0 : Int32)), (.int p1)] 2 = mkF m 0 #[.val (.int (0 : Int32)), .val (.int p1)] [] := by first | (simp [entryFrame, mkF, argsToLocals, Value.category]; done) | rfl
def Q_m23_64 (Z : State) (p1 : Int32) (jj0 : Value) (h0 : Heap) (n0 : Nat) (v : Option Value) (h : Heap) (L : List Loc) : Prop := v = none ∧ Fr n0 L ∧ h = h0
theorem rm_m23_64 (l : Launch) (Z : State) (aZ : Array Value) (hw : ∀ d ∈ tables_1, d.before aZ Z = true) (ws : List Jvm.Cond) (p1 : Int32) (jj0 : Value) (h0 : Heap) (n0 : Nat) (Z0 : n0 ≤ h0.size) (zz1 : jj0.isRef = true) (zz2 : Sta Z Z.heap kc2 "SIOOBE_FORMATTER" "Ljava/util/function/BiFunction;" jj0) (O0 : Old Z n0 h0) (hP_3 : (0 : Int32) < p1) :
    MetN l Z yn_23 jdk_42_method_155_code 2 none ws ({ frames := 1, cells := 0, slots := 0, locals := 14 } : Room) #[(.int (0 : Int32)), (.int p1)] h0 (Q_m23_64 Z p1 jj0 h0 n0) := by
 refine MetN.of (plainFor_of_name pn_2) ?_
 intro p e s m below meth c s₁ hret hx hby hml hown hnm hlk hZ X0 e0
 have N0 := Fr.nil n0
 rw [ef_m23_64 m p1]
 refine w_iloadN X0 hx (d23_0 hby) rfl (pc' := 1) rfl ?_
 refine w_iloadN X0 hx (d23_1 hby) rfl (pc' := 2) rfl ?_
 refine w_getS X0 hx "" hZ hown (Or.inl (wd_99 hw)) Via.refl e0 (zz2.ext O0.2) (d23_2 hby) (pc' := 5) rfl ?_
 intro T20 X20 e20
 refine w_static X20 hx (y := yn_24) hown (mvT hZ (wd_101 hw)) (mvT hZ (wd_102 hw)) (mvT hZ (wd_100 hw)) (mvT hZ (wd_103 hw)) (by decide) (backOf (W := 0) (rm_m24_65 l Z aZ hw [] p1 jj0 h0 n0 Z0 zz1 hP_3) hZ (wd_103 hw) (wd_100 hw) (by decide) (by decide)) (by rw [hml]; rfl) [(.int (0 : Int32)), (.int p1), jj0] (lenOf pd_16 rfl) rfl (Nat.le_of_eq rfl) (d23_5 hby) (fun _ _ => ⟨rfl, e20, (by decide : 0 + 0 ≤ _), (by decide : 0 + 0 ≤ _)⟩) (pc' := 8) rfl ?_
 rintro _ _ ⟨T21, L21, k21, n21⟩ X21 ⟨Lc21, hQ21, l21, y21, z21⟩
 dsimp only [Pt.U, Pt.locs, Pt.cells, Pt.slots] at X21 l21 y21 z21 hQ21 ⊢
 rw [l21, y21, z21] at X21
 obtain ⟨rfl, N21q, e21⟩ := hQ21
 have N22 := Fr.app N0 N21q
 show Runs _ _ _ _ (T21.setTop (mkF m 8 #[.val (.int (0 : Int32)), .val (.int p1)] [(.int (0 : Int32))]))
 refine w_pop X21 hx (d23_8 hby) rfl (pc' := 9) rfl ?_
 exact w_done X21 hlk (v := none) e21 (fun _ => rfl) (fun fs hr => X21.returnOut hx hret (d23_9 hby) hr) (by decide) (by decide) (⟨rfl, N22, rfl⟩)
theorem ef_m27_63 (m : MethodId) (a0 : Addr)  : entryFrame m #[(.ref a0), (.int (0 : Int32))] 2 = mkF m 0 #[.val (.ref a0), .val (.int (0 : Int32))] [] := by first | (simp [entryFrame, mkF, argsToLocals, Value.category]; done) | rfl
def Q_m27_63 (Z : State) (a0 : Addr) (k_a0 : ClassId) (jj0 : Int32) (l_a0 : List Int32) (jj1 : Value) (h0 : Heap) (n0 : Nat) (v : Option Value) (h : Heap) (L : List Loc) : Prop := v = some (.int (((gI l_a0 (0 : Int32)) &&& (255 : Int32)).toUInt32.toUInt16.toUInt32.toInt32)) ∧ Fr n0 L ∧ h = h0
theorem rm_m27_63 (l : Launch) (Z : State) (aZ : Array Value) (hw : ∀ d ∈ tables_1, d.before aZ Z = true) (ws : List Jvm.Cond) (a0 : Addr) (k_a0 : ClassId) (jj0 : Int32) (l_a0 : List Int32) (jj1 : Value) (h0 : Heap) (n0 : Nat) (Z0 : n0 ≤ h0.size) (V_a0 : Arv Z h0 a0 k_a0 .byte jj0 (mI l_a0) (.int (0 : Int32))) (hP_1 : (0 : Int32) < jj0) (zz2 : jj1.isRef = true) (zz3 : Sta Z Z.heap kc2 "SIOOBE_FORMATTER" "Ljava/util/function/BiFunction;" jj1) (O0 : Old Z n0 h0) :
    MetN l Z yn_27 jdk_43_method_2_code 2 (some .char) ws ({ frames := 2, cells := 0, slots := 0, locals := 27 } : Room) #[(.ref a0), (.int (0 : Int32))] h0 (Q_m27_63 Z a0 k_a0 jj0 l_a0 jj1 h0 n0) := by
 refine MetN.of (plainFor_of_name pn_5) ?_
 intro p e s m below meth c s₁ hret hx hby hml hown hnm hlk hZ X0 e0
 have N0 := Fr.nil n0
 rw [ef_m27_63 m a0]
 refine w_iloadN X0 hx (d27_0 hby) rfl (pc' := 1) rfl ?_
 refine w_aloadN X0 hx (d27_1 hby) rfl rfl (pc' := 2) rfl ?_
 refine w_alen X0 hx hZ e0 V_a0 (d27_2 hby) (pc' := 3) rfl ?_
 refine w_static X0 hx (y := yn_23) hown (mvT hZ (wd_114 hw)) (mvT hZ (wd_97 hw)) (mvT hZ (wd_14 hw)) (mvT hZ (wd_98 hw)) (by decide) (backOf (W := 0) (rm_m23_64 l Z aZ hw [] jj0 jj1 h0 n0 Z0 zz2 zz3 O0 hP_1) hZ (wd_98 hw) (wd_14 hw) (by decide) (by decide)) (by rw [hml]; rfl) [(.int (0 : Int32)), (.int jj0)] (lenOf pd_17 rfl) rfl (Nat.le_of_eq rfl) (d27_3 hby) (fun _ _ => ⟨rfl, e0, (by decide : 0 + 0 ≤ _), (by decide : 0 + 0 ≤ _)⟩) (pc' := 6) rfl ?_
 rintro _ _ ⟨T20, L20, k20, n20⟩ X20 ⟨Lc20, hQ20, l20, y20, z20⟩
 dsimp only [Pt.U, Pt.locs, Pt.cells, Pt.slots] at X20 l20 y20 z20 hQ20 ⊢
 rw [l20, y20, z20] at X20
 obtain ⟨rfl, N20q, e20⟩ := hQ20
 have N21 := Fr.app N0 N20q
 show Runs _ _ _ _ (T20.setTop (mkF m 6 #[.val (.ref a0), .val (.int (0 : Int32))] []))
 refine w_aloadN X20 hx (d27_6 hby) rfl rfl (pc' := 7) rfl ?_
 refine w_iloadN X20 hx (d27_7 hby) rfl (pc' := 8) rfl ?_
 obtain ⟨clu22, Aru22, qu22, Su22, Nu22, Hu22, Gu22⟩ := id V_a0
 have hinu22 := inb_of (j := (0 : Int32)) Su22 ⟨(by decide : ¬ ((0 : Int32) < (0 : Int32))), hP_1⟩
 refine w_baload X20 hx hZ e20 Aru22 hinu22 (Hu22.at hinu22 (own_gI l_a0 (0 : Int32))) (d27_8 hby) (pc' := 9) rfl ?_
 refine w_sipush X20 hx (d27_9 hby) (v := (255 : Int32)) rfl (pc' := 12) rfl ?_
 refine w_iand X20 hx (d27_12 hby) (pc' := 13) rfl ?_
 refine w_i2c X20 hx (d27_13 hby) (pc' := 14) rfl ?_
 exact w_done X20 hlk (v := some (.int (((gI l_a0 (0 : Int32)) &&& (255 : Int32)).toUInt32.toUInt16.toUInt32.toInt32))) e20 (fun h => by rw [hret] at h; cases h) (fun fs hr => retOut X20 hx hret (t := .char) (XT.narrow_c _) (Or.inl ⟨rfl, by simp, _, rfl⟩) (d27_14 hby) hr) (by decide) (by decide) (⟨rfl, N21, rfl⟩)
theorem ef_m22_68 (m : MethodId) (a0 : Addr)  : entryFrame m #[(.ref a0)] 1 = mkF m 0 #[.val (.ref a0)] [] := by first | (simp [entryFrame, mkF, argsToLocals, Value.category]; done) | rfl
def Q_m22_68 (Z : State) (a0 : Addr) (k_a0 : ClassId) (jj0 : Int32) (l_a0 : List Int32) (h0 : Heap) (n0 : Nat) (v : Option Value) (h : Heap) (L : List Loc) : Prop := v = some (.int (jj0 >>> ((1 : Int32) &&& 31))) ∧ Fr n0 L ∧ h = h0
theorem rm_m22_68 (l : Launch) (Z : State) (aZ : Array Value) (hw : ∀ d ∈ tables_1, d.before aZ Z = true) (ws : List Jvm.Cond) (a0 : Addr) (k_a0 : ClassId) (jj0 : Int32) (l_a0 : List Int32) (h0 : Heap) (n0 : Nat) (Z0 : n0 ≤ h0.size) (V_a0 : Arv Z h0 a0 k_a0 .byte jj0 (mI l_a0) (.int (0 : Int32))) :
    MetN l Z yn_22 jdk_52_method_6_code 1 (some .int) ws ({ frames := 0, cells := 0, slots := 0, locals := 0 } : Room) #[(.ref a0)] h0 (Q_m22_68 Z a0 k_a0 jj0 l_a0 h0 n0) := by
 refine MetN.of (plainFor_of_name pn_3) ?_
 intro p e s m below meth c s₁ hret hx hby hml hown hnm hlk hZ X0 e0
 have N0 := Fr.nil n0
 rw [ef_m22_68 m a0]
 refine w_aloadN X0 hx (d22_0 hby) rfl rfl (pc' := 1) rfl ?_
 refine w_alen X0 hx hZ e0 V_a0 (d22_1 hby) (pc' := 2) rfl ?_
 refine w_iconst X0 hx (d22_2 hby) (v := (1 : Int32)) rfl (pc' := 3) rfl ?_
 refine w_ishr X0 hx (d22_3 hby) (pc' := 4) rfl ?_
 exact w_done X0 hlk (v := some (.int (jj0 >>> ((1 : Int32) &&& 31)))) e0 (fun h => by rw [hret] at h; cases h) (fun fs hr => retI X0 hx hret (d22_4 hby) hr) (by decide) (by decide) (⟨rfl, N0, rfl⟩)
theorem ef_m21_67 (m : MethodId) (a1 : Addr)  : entryFrame m #[(.int (0 : Int32)), (.ref a1)] 2 = mkF m 0 #[.val (.int (0 : Int32)), .val (.ref a1)] [] := by first | (simp [entryFrame, mkF, argsToLocals, Value.category]; done) | rfl
def Q_m21_67 (Z : State) (a1 : Addr) (k_a1 : ClassId) (jj0 : Int32) (l_a1 : List Int32) (jj1 : Value) (h0 : Heap) (n0 : Nat) (v : Option Value) (h : Heap) (L : List Loc) : Prop := v = none ∧ Fr n0 L ∧ h = h0
theorem rm_m21_67 (l : Launch) (Z : State) (aZ : Array Value) (hw : ∀ d ∈ tables_1, d.before aZ Z = true) (ws : List Jvm.Cond) (a1 : Addr) (k_a1 : ClassId) (jj0 : Int32) (l_a1 : List Int32) (jj1 : Value) (h0 : Heap) (n0 : Nat) (Z0 : n0 ≤ h0.size) (V_a1 : Arv Z h0 a1 k_a1 .byte jj0 (mI l_a1) (.int (0 : Int32))) (zz2 : jj1.isRef = true) (zz3 : Sta Z Z.heap kc2 "SIOOBE_FORMATTER" "Ljava/util/function/BiFunction;" jj1) (O0 : Old Z n0 h0) (hP_4 : (0 : Int32) < (jj0 >>> ((1 : Int32) &&& 31))) :
    MetN l Z yn_21 jdk_52_method_91_code 2 none ws ({ frames := 2, cells := 0, slots := 0, locals := 27 } : Room) #[(.int (0 : Int32)), (.ref a1)] h0 (Q_m21_67 Z a1 k_a1 jj0 l_a1 jj1 h0 n0) := by
 refine MetN.of (plainFor_of_name pn_3) ?_
 intro p e s m below meth c s₁ hret hx hby hml hown hnm hlk hZ X0 e0
 have N0 := Fr.nil n0
 rw [ef_m21_67 m a1]
 refine w_iloadN X0 hx (d21_0 hby) rfl (pc' := 1) rfl ?_
 refine w_aloadN X0 hx (d21_1 hby) rfl rfl (pc' := 2) rfl ?_
 refine w_static X0 hx (y := yn_22) hown (mvT hZ (wd_93 hw)) (mvT hZ (wd_94 hw)) (mvT hZ (wd_40 hw)) (mvT hZ (wd_95 hw)) (by decide) (backOf (W := 1) (rm_m22_68 l Z aZ hw [] a1 k_a1 jj0 l_a1 h0 n0 Z0 V_a1) hZ (wd_95 hw) (wd_40 hw) (by decide) (by decide)) (by rw [hml]; rfl) [(.ref a1)] (lenOf pd_18 rfl) rfl (Nat.le_of_eq rfl) (d21_2 hby) (fun _ _ => ⟨rfl, e0, (by decide : 0 + 0 ≤ _), (by decide : 0 + 0 ≤ _)⟩) (pc' := 5) rfl ?_
 rintro _ _ ⟨T20, L20, k20, n20⟩ X20 ⟨Lc20, hQ20, l20, y20, z20⟩
 dsimp only [Pt.U, Pt.locs, Pt.cells, Pt.slots] at X20 l20 y20 z20 hQ20 ⊢
 rw [l20, y20, z20] at X20
 obtain ⟨rfl, N20q, e20⟩ := hQ20
 have N21 := Fr.app N0 N20q
 show Runs _ _ _ _ (T20.setTop (mkF m 5 #[.val (.int (0 : Int32)), .val (.ref a1)] [(.int (jj0 >>> ((1 : Int32) &&& 31))), (.int (0 : Int32))]))
 refine w_static X20 hx (y := yn_23) hown (mvT hZ (wd_96 hw)) (mvT hZ (wd_97 hw)) (mvT hZ (wd_14 hw)) (mvT hZ (wd_98 hw)) (by decide) (backOf (W := 0) (rm_m23_64 l Z aZ hw [] (jj0 >>> ((1 : Int32) &&& 31)) jj1 h0 n0 Z0 zz2 zz3 O0 hP_4) hZ (wd_98 hw) (wd_14 hw) (by decide) (by decide)) (by rw [hml]; rfl) [(.int (0 : Int32)), (.int (jj0 >>> ((1 : Int32) &&& 31)))] (lenOf pd_17 rfl) rfl (Nat.le_of_eq rfl) (d21_5 hby) (fun _ _ => ⟨rfl, e20, (by decide : 0 + 0 ≤ _), (by decide : 0 + 0 ≤ _)⟩) (pc' := 8) rfl ?_
 rintro _ _ ⟨T22, L22, k22, n22⟩ X22 ⟨Lc22, hQ22, l22, y22, z22⟩
 dsimp only [Pt.U, Pt.locs, Pt.cells, Pt.slots] at X22 l22 y22 z22 hQ22 ⊢
 rw [l22, y22, z22] at X22
 obtain ⟨rfl, N22q, e22⟩ := hQ22
 have N23 := Fr.app N21 N22q
 show Runs _ _ _ _ (T22.setTop (mkF m 8 #[.val (.int (0 : Int32)), .val (.ref a1)] []))
 exact w_done X22 hlk (v := none) e22 (fun _ => rfl) (fun fs hr => X22.returnOut hx hret (d21_8 hby) hr) (by decide) (by decide) (⟨rfl, N23, rfl⟩)
theorem ef_m15_69 (m : MethodId) (a0 : Addr)  : entryFrame m #[(.ref a0), (.int (0 : Int32))] 2 = mkF m 0 #[.val (.ref a0), .val (.int (0 : Int32))] [] := by first | (simp [entryFrame, mkF, argsToLocals, Value.category]; done) | rfl
def Q_m15_69 (Z : State) (a0 : Addr) (k_a0 : ClassId) (jj0 : Int32) (l_a0 : List Int32) (h0 : Heap) (n0 : Nat) (v : Option Value) (h : Heap) (L : List Loc) : Prop := v = some (.int (((((gI l_a0 (0 : Int32)) &&& (255 : Int32)) <<< ((0 : Int32) &&& 31)) ||| (((gI l_a0 (1 : Int32)) &&& (255 : Int32)) <<< ((8 : Int32) &&& 31))).toUInt32.toUInt16.toUInt32.toInt32)) ∧ Fr n0 L ∧ h = h0
theorem rm_m15_69 (l : Launch) (Z : State) (aZ : Array Value) (hw : ∀ d ∈ tables_1, d.before aZ Z = true) (ws : List Jvm.Cond) (a0 : Addr) (k_a0 : ClassId) (jj0 : Int32) (l_a0 : List Int32) (h0 : Heap) (n0 : Nat) (Z0 : n0 ≤ h0.size) (zz1 : Sta Z Z.heap kc1 "$assertionsDisabled" "Z" (.int (1 : Int32))) (O0 : Old Z n0 h0) (V_a0 : Arv Z h0 a0 k_a0 .byte jj0 (mI l_a0) (.int (0 : Int32))) (hP_3 : (0 : Int32) < jj0) (zz2 : Sta Z Z.heap kc1 "HI_BYTE_SHIFT" "I" (.int (0 : Int32))) (hP_5 : (1 : Int32) < jj0) (zz3 : Sta Z Z.heap kc1 "LO_BYTE_SHIFT" "I" (.int (8 : Int32))) :
    MetN l Z yn_15 jdk_52_method_5_code 2 (some .char) ws ({ frames := 0, cells := 0, slots := 0, locals := 0 } : Room) #[(.ref a0), (.int (0 : Int32))] h0 (Q_m15_69 Z a0 k_a0 jj0 l_a0 h0 n0) := by
 refine MetN.of (plainFor_of_name pn_3) ?_
 intro p e s m below meth c s₁ hret hx hby hml hown hnm hlk hZ X0 e0
 have N0 := Fr.nil n0
 rw [ef_m15_69 m a0]
 refine w_getS X0 hx "" hZ hown (Or.inl (wd_61 hw)) Via.refl e0 (zz1.ext O0.2) (d15_0 hby) (pc' := 3) rfl ?_
 intro T20 X20 e20
 refine w_ifY X20 hx (d15_3 hby) (feq (by decide : ¬ ((1 : Int32) = (0 : Int32)))).2 (pc' := 28) (by decide) (by decide) ?_
 refine w_iloadN X20 hx (d15_28 hby) rfl (pc' := 29) rfl ?_
 refine w_iconst X20 hx (d15_29 hby) (v := (1 : Int32)) rfl (pc' := 30) rfl ?_
 refine w_ishl X20 hx (d15_30 hby) (pc' := 31) rfl ?_
 rw [show ((0 : Int32) <<< ((1 : Int32) &&& 31)) = (0 : Int32) from by decide]
 refine w_istoreN X20 hx (d15_31 hby) (L' := #[.val (.ref a0), .val (.int (0 : Int32))]) rfl (pc' := 32) rfl ?_
 refine w_aloadN X20 hx (d15_32 hby) rfl rfl (pc' := 33) rfl ?_
 refine w_iloadN X20 hx (d15_33 hby) rfl (pc' := 34) rfl ?_
 refine w_iinc X20 hx (d15_34 hby) (v := (1 : Int32)) rfl rfl (L' := #[.val (.ref a0), .val (.int ((0 : Int32) + (1 : Int32)))]) rfl (pc' := 37) rfl ?_
 rw [show ((0 : Int32) + (1 : Int32)) = (1 : Int32) from by decide]
 obtain ⟨clu21, Aru21, qu21, Su21, Nu21, Hu21, Gu21⟩ := id V_a0
 have hinu21 := inb_of (j := (0 : Int32)) Su21 ⟨(by decide : ¬ ((0 : Int32) < (0 : Int32))), hP_3⟩
 refine w_baload X20 hx hZ e20 Aru21 hinu21 (Hu21.at hinu21 (own_gI l_a0 (0 : Int32))) (d15_37 hby) (pc' := 38) rfl ?_
 refine w_sipush X20 hx (d15_38 hby) (v := (255 : Int32)) rfl (pc' := 41) rfl ?_
 refine w_iand X20 hx (d15_41 hby) (pc' := 42) rfl ?_
 refine w_getS X20 hx "" hZ hown (Or.inl (wd_62 hw)) Via.refl e20 (zz2.ext O0.2) (d15_42 hby) (pc' := 45) rfl ?_
 intro T22 X22 e22
 refine w_ishl X22 hx (d15_45 hby) (pc' := 46) rfl ?_
 refine w_aloadN X22 hx (d15_46 hby) rfl rfl (pc' := 47) rfl ?_
 refine w_iloadN X22 hx (d15_47 hby) rfl (pc' := 48) rfl ?_
 obtain ⟨clu23, Aru23, qu23, Su23, Nu23, Hu23, Gu23⟩ := id V_a0
 have hinu23 := inb_of (j := (1 : Int32)) Su23 ⟨(by decide : ¬ ((1 : Int32) < (0 : Int32))), hP_5⟩
 refine w_baload X22 hx hZ e22 Aru23 hinu23 (Hu23.at hinu23 (own_gI l_a0 (1 : Int32))) (d15_48 hby) (pc' := 49) rfl ?_
 refine w_sipush X22 hx (d15_49 hby) (v := (255 : Int32)) rfl (pc' := 52) rfl ?_
 refine w_iand X22 hx (d15_52 hby) (pc' := 53) rfl ?_
 refine w_getS X22 hx "" hZ hown (Or.inl (wd_63 hw)) Via.refl e22 (zz3.ext O0.2) (d15_53 hby) (pc' := 56) rfl ?_
 intro T24 X24 e24
 refine w_ishl X24 hx (d15_56 hby) (pc' := 57) rfl ?_
 refine w_ior X24 hx (d15_57 hby) (pc' := 58) rfl ?_
 refine w_i2c X24 hx (d15_58 hby) (pc' := 59) rfl ?_
 exact w_done X24 hlk (v := some (.int (((((gI l_a0 (0 : Int32)) &&& (255 : Int32)) <<< ((0 : Int32) &&& 31)) ||| (((gI l_a0 (1 : Int32)) &&& (255 : Int32)) <<< ((8 : Int32) &&& 31))).toUInt32.toUInt16.toUInt32.toInt32))) e24 (fun h => by rw [hret] at h; cases h) (fun fs hr => retOut X24 hx hret (t := .char) (XT.narrow_c _) (Or.inl ⟨rfl, by simp, _, rfl⟩) (d15_59 hby) hr) (by decide) (by decide) (⟨rfl, N0, rfl⟩)
theorem ef_m20_66 (m : MethodId) (a0 : Addr)  : entryFrame m #[(.ref a0), (.int (0 : Int32))] 2 = mkF m 0 #[.val (.ref a0), .val (.int (0 : Int32))] [] := by first | (simp [entryFrame, mkF, argsToLocals, Value.category]; done) | rfl
def Q_m20_66 (Z : State) (a0 : Addr) (k_a0 : ClassId) (jj0 : Int32) (l_a0 : List Int32) (jj1 : Value) (h0 : Heap) (n0 : Nat) (v : Option Value) (h : Heap) (L : List Loc) : Prop := v = some (.int (((((gI l_a0 (0 : Int32)) &&& (255 : Int32)) <<< ((0 : Int32) &&& 31)) ||| (((gI l_a0 (1 : Int32)) &&& (255 : Int32)) <<< ((8 : Int32) &&& 31))).toUInt32.toUInt16.toUInt32.toInt32)) ∧ Fr n0 L ∧ h = h0
theorem rm_m20_66 (l : Launch) (Z : State) (aZ : Array Value) (hw : ∀ d ∈ tables_1, d.before aZ Z = true) (ws : List Jvm.Cond) (a0 : Addr) (k_a0 : ClassId) (jj0 : Int32) (l_a0 : List Int32) (jj1 : Value) (h0 : Heap) (n0 : Nat) (Z0 : n0 ≤ h0.size) (V_a0 : Arv Z h0 a0 k_a0 .byte jj0 (mI l_a0) (.int (0 : Int32))) (hP_1 : (0 : Int32) < (jj0 >>> ((1 : Int32) &&& 31))) (zz2 : jj1.isRef = true) (zz3 : Sta Z Z.heap kc2 "SIOOBE_FORMATTER" "Ljava/util/function/BiFunction;" jj1) (O0 : Old Z n0 h0) (hP_5 : (0 : Int32) < jj0) (hP_6 : (1 : Int32) < jj0) (zz4 : Sta Z Z.heap kc1 "$assertionsDisabled" "Z" (.int (1 : Int32))) (zz5 : Sta Z Z.heap kc1 "HI_BYTE_SHIFT" "I" (.int (0 : Int32))) (zz6 : Sta Z Z.heap kc1 "LO_BYTE_SHIFT" "I" (.int (8 : Int32))) :
    MetN l Z yn_20 jdk_52_method_83_code 2 (some .char) ws ({ frames := 3, cells := 0, slots := 0, locals := 40 } : Room) #[(.ref a0), (.int (0 : Int32))] h0 (Q_m20_66 Z a0 k_a0 jj0 l_a0 jj1 h0 n0) := by
 refine MetN.of (plainFor_of_name pn_3) ?_
 intro p e s m below meth c s₁ hret hx hby hml hown hnm hlk hZ X0 e0
 have N0 := Fr.nil n0
 rw [ef_m20_66 m a0]
 refine w_iloadN X0 hx (d20_0 hby) rfl (pc' := 1) rfl ?_
 refine w_aloadN X0 hx (d20_1 hby) rfl rfl (pc' := 2) rfl ?_
 refine w_static X0 hx (y := yn_21) hown (mvT hZ (wd_90 hw)) (mvT hZ (wd_91 hw)) (mvT hZ (wd_40 hw)) (mvT hZ (wd_92 hw)) (by decide) (backOf (W := 0) (rm_m21_67 l Z aZ hw [] a0 k_a0 jj0 l_a0 jj1 h0 n0 Z0 V_a0 zz2 zz3 O0 hP_1) hZ (wd_92 hw) (wd_40 hw) (by decide) (by decide)) (by rw [hml]; rfl) [(.int (0 : Int32)), (.ref a0)] (lenOf pd_19 rfl) rfl (Nat.le_of_eq rfl) (d20_2 hby) (fun _ _ => ⟨rfl, e0, (by decide : 0 + 0 ≤ _), (by decide : 0 + 0 ≤ _)⟩) (pc' := 5) rfl ?_
 rintro _ _ ⟨T20, L20, k20, n20⟩ X20 ⟨Lc20, hQ20, l20, y20, z20⟩
 dsimp only [Pt.U, Pt.locs, Pt.cells, Pt.slots] at X20 l20 y20 z20 hQ20 ⊢
 rw [l20, y20, z20] at X20
 obtain ⟨rfl, N20q, e20⟩ := hQ20
 have N21 := Fr.app N0 N20q
 show Runs _ _ _ _ (T20.setTop (mkF m 5 #[.val (.ref a0), .val (.int (0 : Int32))] []))
 refine w_aloadN X20 hx (d20_5 hby) rfl rfl (pc' := 6) rfl ?_
 refine w_iloadN X20 hx (d20_6 hby) rfl (pc' := 7) rfl ?_
 refine w_static X20 hx (y := yn_15) hown (mvT hZ (wd_64 hw)) (mvT hZ (wd_65 hw)) (mvT hZ (wd_40 hw)) (mvT hZ (wd_66 hw)) (by decide) (backOf (W := 0) (rm_m15_69 l Z aZ hw [] a0 k_a0 jj0 l_a0 h0 n0 Z0 zz4 O0 V_a0 hP_5 zz5 hP_6 zz6) hZ (wd_66 hw) (wd_40 hw) (by decide) (by decide)) (by rw [hml]; rfl) [(.ref a0), (.int (0 : Int32))] (lenOf pd_9 rfl) rfl (Nat.le_of_eq rfl) (d20_7 hby) (fun _ _ => ⟨rfl, e20, (by decide : 0 + 0 ≤ _), (by decide : 0 + 0 ≤ _)⟩) (pc' := 10) rfl ?_
 rintro _ _ ⟨T22, L22, k22, n22⟩ X22 ⟨Lc22, hQ22, l22, y22, z22⟩
 dsimp only [Pt.U, Pt.locs, Pt.cells, Pt.slots] at X22 l22 y22 z22 hQ22 ⊢
 rw [l22, y22, z22] at X22
 obtain ⟨rfl, N22q, e22⟩ := hQ22
 have N23 := Fr.app N21 N22q
 show Runs _ _ _ _ (T22.setTop (mkF m 10 #[.val (.ref a0), .val (.int (0 : Int32))] [(.int (((((gI l_a0 (0 : Int32)) &&& (255 : Int32)) <<< ((0 : Int32) &&& 31)) ||| (((gI l_a0 (1 : Int32)) &&& (255 : Int32)) <<< ((8 : Int32) &&& 31))).toUInt32.toUInt16.toUInt32.toInt32))]))
 exact w_done X22 hlk (v := some (.int (((((gI l_a0 (0 : Int32)) &&& (255 : Int32)) <<< ((0 : Int32) &&& 31)) ||| (((gI l_a0 (1 : Int32)) &&& (255 : Int32)) <<< ((8 : Int32) &&& 31))).toUInt32.toUInt16.toUInt32.toInt32))) e22 (fun h => by rw [hret] at h; cases h) (fun fs hr => retOut X22 hx hret (t := .char) (XT.narrow_c _) (Or.inl ⟨rfl, by simp, _, rfl⟩) (d20_10 hby) hr) (by decide) (by decide) (⟨rfl, N23, rfl⟩)
theorem ef_m18_61 (m : MethodId) (a0 : Addr)  : entryFrame m #[(.ref a0), (.int (0 : Int32))] 2 = mkF m 0 #[.val (.ref a0), .val (.int (0 : Int32))] [] := by first | (simp [entryFrame, mkF, argsToLocals, Value.category]; done) | rfl
def Q_m18_61 (Z : State) (a0 : Addr) (jj0 : Int32) (jj1 : Int32) (jj2 : Addr) (jj3 : ClassId) (jj4 : Int32) (jj5 : List Int32) (jj6 : Value) (h0 : Heap) (n0 : Nat) (v : Option Value) (h : Heap) (L : List Loc) : Prop := v = some (.int (chA jj0 jj5 (0 : Int32) (0 : Int32) (1 : Int32))) ∧ Fr n0 L ∧ h = h0
theorem rm_m18_61 (l : Launch) (Z : State) (aZ : Array Value) (hw : ∀ d ∈ tables_1, d.before aZ Z = true) (ws : List Jvm.Cond) (a0 : Addr) (jj0 : Int32) (jj1 : Int32) (jj2 : Addr) (jj3 : ClassId) (jj4 : Int32) (jj5 : List Int32) (jj6 : Value) (h0 : Heap) (n0 : Nat) (Z0 : n0 ≤ h0.size) (E_a0 : Exa Z h0 a0 kc0) (hP_1 : ¬ (jj1 = (0 : Int32))) (zz7 : Fld Z h0 a0 kc0 "coder" "B" (.int jj0)) (zz8 : Sta Z Z.heap kc0 "COMPACT_STRINGS" "Z" (.int jj1)) (O0 : Old Z n0 h0) (zz9 : Fld Z h0 a0 kc0 "value" "[B" (.ref jj2)) (zz10 : Arv Z h0 jj2 jj3 .byte jj4 (mI jj5) (.int (0 : Int32))) (hP_7 : (0 : Int32) < (jj4 >>> (jj0 &&& 31))) (zz11 : jj6.isRef = true) (zz12 : Sta Z Z.heap kc2 "SIOOBE_FORMATTER" "Ljava/util/function/BiFunction;" jj6) (zz13 : jj0 < (2 : Int32)) (zz14 : ¬ (jj0 < (0 : Int32))) (zz15 : Sta Z Z.heap kc1 "$assertionsDisabled" "Z" (.int (1 : Int32))) (zz16 : Sta Z Z.heap kc1 "HI_BYTE_SHIFT" "I" (.int (0 : Int32))) (zz17 : Sta Z Z.heap kc1 "LO_BYTE_SHIFT" "I" (.int (8 : Int32))) :
    MetN l Z yn_18 jdk_42_method_56_code 2 (some .char) ws ({ frames := 4, cells := 0, slots := 0, locals := 53 } : Room) #[(.ref a0), (.int (0 : Int32))] h0 (Q_m18_61 Z a0 jj0 jj1 jj2 jj3 jj4 jj5 jj6 h0 n0) := by
 refine MetN.of (plainFor_of_name pn_2) ?_
 intro p e s m below meth c s₁ hret hx hby hml hown hnm hlk hZ X0 e0
 have N0 := Fr.nil n0
 rw [ef_m18_61 m a0]
 refine w_aloadN X0 hx (d18_0 hby) rfl rfl (pc' := 1) rfl ?_
 obtain ⟨cq20, kq20, q20a, q20b, q20c⟩ := isOf hZ e0 E_a0
 refine w_virtual X0 hx (y := yn_19) (z := yn_19) hown (mvT hZ (wd_82 hw)) (mvT hZ (wd_83 hw)) (notFace_of_selects (args := #[]) (mvT hZ (wd_85 hw))) (mvT hZ (wd_85 hw)) (mvT hZ (wd_84 hw)) (by decide) (backOf (W := 0) (rm_m19_62 l Z aZ hw [] a0 jj1 jj0 h0 n0 Z0 zz8 O0 hP_1 zz7) hZ (wd_86 hw) (wd_14 hw) (by decide) (by decide)) q20a q20c (by rw [hml]; rfl) [] (lenOf pd_15 rfl) rfl (Nat.le_of_eq rfl) (d18_1 hby) (fun _ _ => ⟨rfl, e0, (by decide : 0 + 0 ≤ _), (by decide : 0 + 0 ≤ _)⟩) (pc' := 4) rfl ?_
 rintro _ _ ⟨T20, L20, k20, n20⟩ X20 ⟨Lc20, hQ20, l20, y20, z20⟩
 dsimp only [Pt.U, Pt.locs, Pt.cells, Pt.slots] at X20 l20 y20 z20 hQ20 ⊢
 rw [l20, y20, z20] at X20
 obtain ⟨rfl, N20q, e20⟩ := hQ20
 have N21 := Fr.app N0 N20q
 show Runs _ _ _ _ (T20.setTop (mkF m 4 #[.val (.ref a0), .val (.int (0 : Int32))] [(.int (if jj0 = (0 : Int32) then (1 : Int32) else (0 : Int32)))]))
 by_cases hc22 : jj0 = (0 : Int32)
 · have v23 : (if jj0 = (0 : Int32) then (1 : Int32) else (0 : Int32)) = (1 : Int32) := if_pos hc22
   refine w_ifN X20 hx (d18_4 hby) (feq (fun q => absurd (v23.symm.trans q) (by decide))).1 (pc' := 7) rfl ?_
   refine w_aloadN X20 hx (d18_7 hby) rfl rfl (pc' := 8) rfl ?_
   refine w_getF X20 hx "" hZ hown (Or.inl (wd_31 hw)) Via.refl e20 zz9 (d18_8 hby) (pc' := 11) rfl ?_
   intro T24 X24 e24
   refine w_iloadN X24 hx (d18_11 hby) rfl (pc' := 12) rfl ?_
   refine w_static X24 hx (y := yn_27) hown (mvT hZ (wd_110 hw)) (mvT hZ (wd_111 hw)) (mvT hZ (wd_112 hw)) (mvT hZ (wd_113 hw)) (by decide) (backOf (W := 0) (rm_m27_63 l Z aZ hw [] jj2 jj3 jj4 jj5 jj6 h0 n0 Z0 zz10 (own_len0 hc22 hP_7) zz11 zz12 O0) hZ (wd_113 hw) (wd_112 hw) (by decide) (by decide)) (by rw [hml]; rfl) [(.ref jj2), (.int (0 : Int32))] (lenOf pd_9 rfl) rfl (Nat.le_of_eq rfl) (d18_12 hby) (fun _ _ => ⟨rfl, e24, (by decide : 0 + 0 ≤ _), (by decide : 0 + 0 ≤ _)⟩) (pc' := 15) rfl ?_
   rintro _ _ ⟨T25, L25, k25, n25⟩ X25 ⟨Lc25, hQ25, l25, y25, z25⟩
   dsimp only [Pt.U, Pt.locs, Pt.cells, Pt.slots] at X25 l25 y25 z25 hQ25 ⊢
   rw [l25, y25, z25] at X25
   obtain ⟨rfl, N25q, e25⟩ := hQ25
   have N26 := Fr.app N21 N25q
   show Runs _ _ _ _ (T25.setTop (mkF m 15 #[.val (.ref a0), .val (.int (0 : Int32))] [(.int (((gI jj5 (0 : Int32)) &&& (255 : Int32)).toUInt32.toUInt16.toUInt32.toInt32))]))
   exact w_done X25 hlk (v := some (.int (((gI jj5 (0 : Int32)) &&& (255 : Int32)).toUInt32.toUInt16.toUInt32.toInt32))) e25 (fun h => by rw [hret] at h; cases h) (fun fs hr => retOut X25 hx hret (t := .char) (XT.narrow_c _) (Or.inl ⟨rfl, by simp, _, rfl⟩) (d18_15 hby) hr) (by decide) (by decide) (⟨(congrArg (fun z => some (Value.int z)) (show (((gI jj5 (0 : Int32)) &&& (255 : Int32)).toUInt32.toUInt16.toUInt32.toInt32) = (chA jj0 jj5 (0 : Int32) (0 : Int32) (1 : Int32)) from (if_pos hc22).symm)), N26, rfl⟩)
 · have v27 : (if jj0 = (0 : Int32) then (1 : Int32) else (0 : Int32)) = (0 : Int32) := if_neg hc22
   refine w_ifY X20 hx (d18_4 hby) (teq (v27.trans (by decide))).1 (pc' := 16) (by decide) (by decide) ?_
   refine w_aloadN X20 hx (d18_16 hby) rfl rfl (pc' := 17) rfl ?_
   refine w_getF X20 hx "" hZ hown (Or.inl (wd_31 hw)) Via.refl e20 zz9 (d18_17 hby) (pc' := 20) rfl ?_
   intro T28 X28 e28
   refine w_iloadN X28 hx (d18_20 hby) rfl (pc' := 21) rfl ?_
   refine w_static X28 hx (y := yn_20) hown (mvT hZ (wd_87 hw)) (mvT hZ (wd_88 hw)) (mvT hZ (wd_40 hw)) (mvT hZ (wd_89 hw)) (by decide) (backOf (W := 0) (rm_m20_66 l Z aZ hw [] jj2 jj3 jj4 jj5 jj6 h0 n0 Z0 zz10 (own_len1 (own_cd1 hc22 zz13 zz14) hP_7) zz11 zz12 O0 (own_half0 (own_len1 (own_cd1 hc22 zz13 zz14) hP_7)) (own_half1 (own_len1 (own_cd1 hc22 zz13 zz14) hP_7)) zz15 zz16 zz17) hZ (wd_89 hw) (wd_40 hw) (by decide) (by decide)) (by rw [hml]; rfl) [(.ref jj2), (.int (0 : Int32))] (lenOf pd_9 rfl) rfl (Nat.le_of_eq rfl) (d18_21 hby) (fun _ _ => ⟨rfl, e28, (by decide : 0 + 0 ≤ _), (by decide : 0 + 0 ≤ _)⟩) (pc' := 24) rfl ?_
   rintro _ _ ⟨T29, L29, k29, n29⟩ X29 ⟨Lc29, hQ29, l29, y29, z29⟩
   dsimp only [Pt.U, Pt.locs, Pt.cells, Pt.slots] at X29 l29 y29 z29 hQ29 ⊢
   rw [l29, y29, z29] at X29
   obtain ⟨rfl, N29q, e29⟩ := hQ29
   have N30 := Fr.app N21 N29q
   show Runs _ _ _ _ (T29.setTop (mkF m 24 #[.val (.ref a0), .val (.int (0 : Int32))] [(.int (((((gI jj5 (0 : Int32)) &&& (255 : Int32)) <<< ((0 : Int32) &&& 31)) ||| (((gI jj5 (1 : Int32)) &&& (255 : Int32)) <<< ((8 : Int32) &&& 31))).toUInt32.toUInt16.toUInt32.toInt32))]))
   exact w_done X29 hlk (v := some (.int (((((gI jj5 (0 : Int32)) &&& (255 : Int32)) <<< ((0 : Int32) &&& 31)) ||| (((gI jj5 (1 : Int32)) &&& (255 : Int32)) <<< ((8 : Int32) &&& 31))).toUInt32.toUInt16.toUInt32.toInt32))) e29 (fun h => by rw [hret] at h; cases h) (fun fs hr => retOut X29 hx hret (t := .char) (XT.narrow_c _) (Or.inl ⟨rfl, by simp, _, rfl⟩) (d18_24 hby) hr) (by decide) (by decide) (⟨(congrArg (fun z => some (Value.int z)) (show (((((gI jj5 (0 : Int32)) &&& (255 : Int32)) <<< ((0 : Int32) &&& 31)) ||| (((gI jj5 (1 : Int32)) &&& (255 : Int32)) <<< ((8 : Int32) &&& 31))).toUInt32.toUInt16.toUInt32.toInt32) = (chA jj0 jj5 (0 : Int32) (0 : Int32) (1 : Int32)) from (if_neg hc22).symm)), N30, rfl⟩)
theorem ef_m24_73 (m : MethodId) (p1 : Int32) (v2 : Value) (r_v2 : v2.isRef = true) : entryFrame m #[(.int (1 : Int32)), (.int p1), v2] 3 = mkF m 0 #[.val (.int (1 : Int32)), .val (.int p1), .val v2] [] := by
  rcases XT.refc r_v2 with rfl | ⟨z_v2, rfl⟩ <;> first | (simp [entryFrame, mkF, argsToLocals, Value.category]; done) | rfl
def Q_m24_73 (Z : State) (p1 : Int32) (v2 : Value) (h0 : Heap) (n0 : Nat) (v : Option Value) (h : Heap) (L : List Loc) : Prop := v = some (.int (1 : Int32)) ∧ Fr n0 L ∧ h = h0
theorem rm_m24_73 (l : Launch) (Z : State) (aZ : Array Value) (hw : ∀ d ∈ tables_1, d.before aZ Z = true) (ws : List Jvm.Cond) (p1 : Int32) (v2 : Value) (h0 : Heap) (n0 : Nat) (Z0 : n0 ≤ h0.size) (r_v2 : v2.isRef = true) (hP_1 : (1 : Int32) < p1) :
    MetN l Z yn_24 jdk_41_method_11_code 3 (some .int) ws ({ frames := 0, cells := 0, slots := 0, locals := 0 } : Room) #[(.int (1 : Int32)), (.int p1), v2] h0 (Q_m24_73 Z p1 v2 h0 n0) := by
 refine MetN.of (plainFor_of_name pn_4) ?_
 intro p e s m below meth c s₁ hret hx hby hml hown hnm hlk hZ X0 e0
 have N0 := Fr.nil n0
 rw [ef_m24_73 m p1 v2 r_v2]
 refine w_iloadN X0 hx (d24_0 hby) rfl (pc' := 1) rfl ?_
 refine w_ifN X0 hx (d24_1 hby) (flt (by decide : ¬ ((1 : Int32) < (0 : Int32)))).1 (pc' := 4) rfl ?_
 refine w_iloadN X0 hx (d24_4 hby) rfl (pc' := 5) rfl ?_
 refine w_iloadN X0 hx (d24_5 hby) rfl (pc' := 6) rfl ?_
 refine w_icY X0 hx (d24_6 hby) (tlt hP_1).1 (pc' := 16) (by decide) (by decide) ?_
 refine w_iloadN X0 hx (d24_16 hby) rfl (pc' := 17) rfl ?_
 exact w_done X0 hlk (v := some (.int (1 : Int32))) e0 (fun h => by rw [hret] at h; cases h) (fun fs hr => retI X0 hx hret (d24_17 hby) hr) (by decide) (by decide) (⟨rfl, N0, rfl⟩)
theorem ef_m23_72 (m : MethodId) (p1 : Int32)  : entryFrame m #[(.int (1 : Int32)), (.int p1)] 2 = mkF m 0 #[.val (.int (1 : Int32)), .val (.int p1)] [] := by first | (simp [entryFrame, mkF, argsToLocals, Value.category]; done) | rfl
def Q_m23_72 (Z : State) (p1 : Int32) (jj0 : Value) (h0 : Heap) (n0 : Nat) (v : Option Value) (h : Heap) (L : List Loc) : Prop := v = none ∧ Fr n0 L ∧ h = h0
theorem rm_m23_72 (l : Launch) (Z : State) (aZ : Array Value) (hw : ∀ d ∈ tables_1, d.before aZ Z = true) (ws : List Jvm.Cond) (p1 : Int32) (jj0 : Value) (h0 : Heap) (n0 : Nat) (Z0 : n0 ≤ h0.size) (zz1 : jj0.isRef = true) (zz2 : Sta Z Z.heap kc2 "SIOOBE_FORMATTER" "Ljava/util/function/BiFunction;" jj0) (O0 : Old Z n0 h0) (hP_3 : (1 : Int32) < p1) :
    MetN l Z yn_23 jdk_42_method_155_code 2 none ws ({ frames := 1, cells := 0, slots := 0, locals := 14 } : Room) #[(.int (1 : Int32)), (.int p1)] h0 (Q_m23_72 Z p1 jj0 h0 n0) := by
 refine MetN.of (plainFor_of_name pn_2) ?_
 intro p e s m below meth c s₁ hret hx hby hml hown hnm hlk hZ X0 e0
 have N0 := Fr.nil n0
 rw [ef_m23_72 m p1]
 refine w_iloadN X0 hx (d23_0 hby) rfl (pc' := 1) rfl ?_
 refine w_iloadN X0 hx (d23_1 hby) rfl (pc' := 2) rfl ?_
 refine w_getS X0 hx "" hZ hown (Or.inl (wd_99 hw)) Via.refl e0 (zz2.ext O0.2) (d23_2 hby) (pc' := 5) rfl ?_
 intro T20 X20 e20
 refine w_static X20 hx (y := yn_24) hown (mvT hZ (wd_101 hw)) (mvT hZ (wd_102 hw)) (mvT hZ (wd_100 hw)) (mvT hZ (wd_103 hw)) (by decide) (backOf (W := 0) (rm_m24_73 l Z aZ hw [] p1 jj0 h0 n0 Z0 zz1 hP_3) hZ (wd_103 hw) (wd_100 hw) (by decide) (by decide)) (by rw [hml]; rfl) [(.int (1 : Int32)), (.int p1), jj0] (lenOf pd_16 rfl) rfl (Nat.le_of_eq rfl) (d23_5 hby) (fun _ _ => ⟨rfl, e20, (by decide : 0 + 0 ≤ _), (by decide : 0 + 0 ≤ _)⟩) (pc' := 8) rfl ?_
 rintro _ _ ⟨T21, L21, k21, n21⟩ X21 ⟨Lc21, hQ21, l21, y21, z21⟩
 dsimp only [Pt.U, Pt.locs, Pt.cells, Pt.slots] at X21 l21 y21 z21 hQ21 ⊢
 rw [l21, y21, z21] at X21
 obtain ⟨rfl, N21q, e21⟩ := hQ21
 have N22 := Fr.app N0 N21q
 show Runs _ _ _ _ (T21.setTop (mkF m 8 #[.val (.int (1 : Int32)), .val (.int p1)] [(.int (1 : Int32))]))
 refine w_pop X21 hx (d23_8 hby) rfl (pc' := 9) rfl ?_
 exact w_done X21 hlk (v := none) e21 (fun _ => rfl) (fun fs hr => X21.returnOut hx hret (d23_9 hby) hr) (by decide) (by decide) (⟨rfl, N22, rfl⟩)
theorem ef_m27_71 (m : MethodId) (a0 : Addr)  : entryFrame m #[(.ref a0), (.int (1 : Int32))] 2 = mkF m 0 #[.val (.ref a0), .val (.int (1 : Int32))] [] := by first | (simp [entryFrame, mkF, argsToLocals, Value.category]; done) | rfl
def Q_m27_71 (Z : State) (a0 : Addr) (k_a0 : ClassId) (jj0 : Int32) (l_a0 : List Int32) (jj1 : Value) (h0 : Heap) (n0 : Nat) (v : Option Value) (h : Heap) (L : List Loc) : Prop := v = some (.int (((gI l_a0 (1 : Int32)) &&& (255 : Int32)).toUInt32.toUInt16.toUInt32.toInt32)) ∧ Fr n0 L ∧ h = h0
theorem rm_m27_71 (l : Launch) (Z : State) (aZ : Array Value) (hw : ∀ d ∈ tables_1, d.before aZ Z = true) (ws : List Jvm.Cond) (a0 : Addr) (k_a0 : ClassId) (jj0 : Int32) (l_a0 : List Int32) (jj1 : Value) (h0 : Heap) (n0 : Nat) (Z0 : n0 ≤ h0.size) (V_a0 : Arv Z h0 a0 k_a0 .byte jj0 (mI l_a0) (.int (0 : Int32))) (hP_1 : (1 : Int32) < jj0) (zz2 : jj1.isRef = true) (zz3 : Sta Z Z.heap kc2 "SIOOBE_FORMATTER" "Ljava/util/function/BiFunction;" jj1) (O0 : Old Z n0 h0) :
    MetN l Z yn_27 jdk_43_method_2_code 2 (some .char) ws ({ frames := 2, cells := 0, slots := 0, locals := 27 } : Room) #[(.ref a0), (.int (1 : Int32))] h0 (Q_m27_71 Z a0 k_a0 jj0 l_a0 jj1 h0 n0) := by
 refine MetN.of (plainFor_of_name pn_5) ?_
 intro p e s m below meth c s₁ hret hx hby hml hown hnm hlk hZ X0 e0
 have N0 := Fr.nil n0
 rw [ef_m27_71 m a0]
 refine w_iloadN X0 hx (d27_0 hby) rfl (pc' := 1) rfl ?_
 refine w_aloadN X0 hx (d27_1 hby) rfl rfl (pc' := 2) rfl ?_
 refine w_alen X0 hx hZ e0 V_a0 (d27_2 hby) (pc' := 3) rfl ?_
 refine w_static X0 hx (y := yn_23) hown (mvT hZ (wd_114 hw)) (mvT hZ (wd_97 hw)) (mvT hZ (wd_14 hw)) (mvT hZ (wd_98 hw)) (by decide) (backOf (W := 0) (rm_m23_72 l Z aZ hw [] jj0 jj1 h0 n0 Z0 zz2 zz3 O0 hP_1) hZ (wd_98 hw) (wd_14 hw) (by decide) (by decide)) (by rw [hml]; rfl) [(.int (1 : Int32)), (.int jj0)] (lenOf pd_17 rfl) rfl (Nat.le_of_eq rfl) (d27_3 hby) (fun _ _ => ⟨rfl, e0, (by decide : 0 + 0 ≤ _), (by decide : 0 + 0 ≤ _)⟩) (pc' := 6) rfl ?_
 rintro _ _ ⟨T20, L20, k20, n20⟩ X20 ⟨Lc20, hQ20, l20, y20, z20⟩
 dsimp only [Pt.U, Pt.locs, Pt.cells, Pt.slots] at X20 l20 y20 z20 hQ20 ⊢
 rw [l20, y20, z20] at X20
 obtain ⟨rfl, N20q, e20⟩ := hQ20
 have N21 := Fr.app N0 N20q
 show Runs _ _ _ _ (T20.setTop (mkF m 6 #[.val (.ref a0), .val (.int (1 : Int32))] []))
 refine w_aloadN X20 hx (d27_6 hby) rfl rfl (pc' := 7) rfl ?_
 refine w_iloadN X20 hx (d27_7 hby) rfl (pc' := 8) rfl ?_
 obtain ⟨clu22, Aru22, qu22, Su22, Nu22, Hu22, Gu22⟩ := id V_a0
 have hinu22 := inb_of (j := (1 : Int32)) Su22 ⟨(by decide : ¬ ((1 : Int32) < (0 : Int32))), hP_1⟩
 refine w_baload X20 hx hZ e20 Aru22 hinu22 (Hu22.at hinu22 (own_gI l_a0 (1 : Int32))) (d27_8 hby) (pc' := 9) rfl ?_
 refine w_sipush X20 hx (d27_9 hby) (v := (255 : Int32)) rfl (pc' := 12) rfl ?_
 refine w_iand X20 hx (d27_12 hby) (pc' := 13) rfl ?_
 refine w_i2c X20 hx (d27_13 hby) (pc' := 14) rfl ?_
 exact w_done X20 hlk (v := some (.int (((gI l_a0 (1 : Int32)) &&& (255 : Int32)).toUInt32.toUInt16.toUInt32.toInt32))) e20 (fun h => by rw [hret] at h; cases h) (fun fs hr => retOut X20 hx hret (t := .char) (XT.narrow_c _) (Or.inl ⟨rfl, by simp, _, rfl⟩) (d27_14 hby) hr) (by decide) (by decide) (⟨rfl, N21, rfl⟩)
theorem ef_m21_75 (m : MethodId) (a1 : Addr)  : entryFrame m #[(.int (1 : Int32)), (.ref a1)] 2 = mkF m 0 #[.val (.int (1 : Int32)), .val (.ref a1)] [] := by first | (simp [entryFrame, mkF, argsToLocals, Value.category]; done) | rfl
def Q_m21_75 (Z : State) (a1 : Addr) (k_a1 : ClassId) (jj0 : Int32) (l_a1 : List Int32) (jj1 : Value) (h0 : Heap) (n0 : Nat) (v : Option Value) (h : Heap) (L : List Loc) : Prop := v = none ∧ Fr n0 L ∧ h = h0
theorem rm_m21_75 (l : Launch) (Z : State) (aZ : Array Value) (hw : ∀ d ∈ tables_1, d.before aZ Z = true) (ws : List Jvm.Cond) (a1 : Addr) (k_a1 : ClassId) (jj0 : Int32) (l_a1 : List Int32) (jj1 : Value) (h0 : Heap) (n0 : Nat) (Z0 : n0 ≤ h0.size) (V_a1 : Arv Z h0 a1 k_a1 .byte jj0 (mI l_a1) (.int (0 : Int32))) (zz2 : jj1.isRef = true) (zz3 : Sta Z Z.heap kc2 "SIOOBE_FORMATTER" "Ljava/util/function/BiFunction;" jj1) (O0 : Old Z n0 h0) (hP_4 : (1 : Int32) < (jj0 >>> ((1 : Int32) &&& 31))) :
    MetN l Z yn_21 jdk_52_method_91_code 2 none ws ({ frames := 2, cells := 0, slots := 0, locals := 27 } : Room) #[(.int (1 : Int32)), (.ref a1)] h0 (Q_m21_75 Z a1 k_a1 jj0 l_a1 jj1 h0 n0) := by
 refine MetN.of (plainFor_of_name pn_3) ?_
 intro p e s m below meth c s₁ hret hx hby hml hown hnm hlk hZ X0 e0
 have N0 := Fr.nil n0
 rw [ef_m21_75 m a1]
 refine w_iloadN X0 hx (d21_0 hby) rfl (pc' := 1) rfl ?_
 refine w_aloadN X0 hx (d21_1 hby) rfl rfl (pc' := 2) rfl ?_
 refine w_static X0 hx (y := yn_22) hown (mvT hZ (wd_93 hw)) (mvT hZ (wd_94 hw)) (mvT hZ (wd_40 hw)) (mvT hZ (wd_95 hw)) (by decide) (backOf (W := 1) (rm_m22_68 l Z aZ hw [] a1 k_a1 jj0 l_a1 h0 n0 Z0 V_a1) hZ (wd_95 hw) (wd_40 hw) (by decide) (by decide)) (by rw [hml]; rfl) [(.ref a1)] (lenOf pd_18 rfl) rfl (Nat.le_of_eq rfl) (d21_2 hby) (fun _ _ => ⟨rfl, e0, (by decide : 0 + 0 ≤ _), (by decide : 0 + 0 ≤ _)⟩) (pc' := 5) rfl ?_
 rintro _ _ ⟨T20, L20, k20, n20⟩ X20 ⟨Lc20, hQ20, l20, y20, z20⟩
 dsimp only [Pt.U, Pt.locs, Pt.cells, Pt.slots] at X20 l20 y20 z20 hQ20 ⊢
 rw [l20, y20, z20] at X20
 obtain ⟨rfl, N20q, e20⟩ := hQ20
 have N21 := Fr.app N0 N20q
 show Runs _ _ _ _ (T20.setTop (mkF m 5 #[.val (.int (1 : Int32)), .val (.ref a1)] [(.int (jj0 >>> ((1 : Int32) &&& 31))), (.int (1 : Int32))]))
 refine w_static X20 hx (y := yn_23) hown (mvT hZ (wd_96 hw)) (mvT hZ (wd_97 hw)) (mvT hZ (wd_14 hw)) (mvT hZ (wd_98 hw)) (by decide) (backOf (W := 0) (rm_m23_72 l Z aZ hw [] (jj0 >>> ((1 : Int32) &&& 31)) jj1 h0 n0 Z0 zz2 zz3 O0 hP_4) hZ (wd_98 hw) (wd_14 hw) (by decide) (by decide)) (by rw [hml]; rfl) [(.int (1 : Int32)), (.int (jj0 >>> ((1 : Int32) &&& 31)))] (lenOf pd_17 rfl) rfl (Nat.le_of_eq rfl) (d21_5 hby) (fun _ _ => ⟨rfl, e20, (by decide : 0 + 0 ≤ _), (by decide : 0 + 0 ≤ _)⟩) (pc' := 8) rfl ?_
 rintro _ _ ⟨T22, L22, k22, n22⟩ X22 ⟨Lc22, hQ22, l22, y22, z22⟩
 dsimp only [Pt.U, Pt.locs, Pt.cells, Pt.slots] at X22 l22 y22 z22 hQ22 ⊢
 rw [l22, y22, z22] at X22
 obtain ⟨rfl, N22q, e22⟩ := hQ22
 have N23 := Fr.app N21 N22q
 show Runs _ _ _ _ (T22.setTop (mkF m 8 #[.val (.int (1 : Int32)), .val (.ref a1)] []))
 exact w_done X22 hlk (v := none) e22 (fun _ => rfl) (fun fs hr => X22.returnOut hx hret (d21_8 hby) hr) (by decide) (by decide) (⟨rfl, N23, rfl⟩)
theorem ef_m15_76 (m : MethodId) (a0 : Addr)  : entryFrame m #[(.ref a0), (.int (1 : Int32))] 2 = mkF m 0 #[.val (.ref a0), .val (.int (1 : Int32))] [] := by first | (simp [entryFrame, mkF, argsToLocals, Value.category]; done) | rfl
def Q_m15_76 (Z : State) (a0 : Addr) (k_a0 : ClassId) (jj0 : Int32) (l_a0 : List Int32) (h0 : Heap) (n0 : Nat) (v : Option Value) (h : Heap) (L : List Loc) : Prop := v = some (.int (((((gI l_a0 (2 : Int32)) &&& (255 : Int32)) <<< ((0 : Int32) &&& 31)) ||| (((gI l_a0 (3 : Int32)) &&& (255 : Int32)) <<< ((8 : Int32) &&& 31))).toUInt32.toUInt16.toUInt32.toInt32)) ∧ Fr n0 L ∧ h = h0
theorem rm_m15_76 (l : Launch) (Z : State) (aZ : Array Value) (hw : ∀ d ∈ tables_1, d.before aZ Z = true) (ws : List Jvm.Cond) (a0 : Addr) (k_a0 : ClassId) (jj0 : Int32) (l_a0 : List Int32) (h0 : Heap) (n0 : Nat) (Z0 : n0 ≤ h0.size) (zz1 : Sta Z Z.heap kc1 "$assertionsDisabled" "Z" (.int (1 : Int32))) (O0 : Old Z n0 h0) (V_a0 : Arv Z h0 a0 k_a0 .byte jj0 (mI l_a0) (.int (0 : Int32))) (hP_3 : (2 : Int32) < jj0) (zz2 : Sta Z Z.heap kc1 "HI_BYTE_SHIFT" "I" (.int (0 : Int32))) (hP_5 : (3 : Int32) < jj0) (zz3 : Sta Z Z.heap kc1 "LO_BYTE_SHIFT" "I" (.int (8 : Int32))) :
    MetN l Z yn_15 jdk_52_method_5_code 2 (some .char) ws ({ frames := 0, cells := 0, slots := 0, locals := 0 } : Room) #[(.ref a0), (.int (1 : Int32))] h0 (Q_m15_76 Z a0 k_a0 jj0 l_a0 h0 n0) := by
 refine MetN.of (plainFor_of_name pn_3) ?_
 intro p e s m below meth c s₁ hret hx hby hml hown hnm hlk hZ X0 e0
 have N0 := Fr.nil n0
 rw [ef_m15_76 m a0]
 refine w_getS X0 hx "" hZ hown (Or.inl (wd_61 hw)) Via.refl e0 (zz1.ext O0.2) (d15_0 hby) (pc' := 3) rfl ?_
 intro T20 X20 e20
 refine w_ifY X20 hx (d15_3 hby) (feq (by decide : ¬ ((1 : Int32) = (0 : Int32)))).2 (pc' := 28) (by decide) (by decide) ?_
 refine w_iloadN X20 hx (d15_28 hby) rfl (pc' := 29) rfl ?_
 refine w_iconst X20 hx (d15_29 hby) (v := (1 : Int32)) rfl (pc' := 30) rfl ?_
 refine w_ishl X20 hx (d15_30 hby) (pc' := 31) rfl ?_
 rw [show ((1 : Int32) <<< ((1 : Int32) &&& 31)) = (2 : Int32) from by decide]
 refine w_istoreN X20 hx (d15_31 hby) (L' := #[.val (.ref a0), .val (.int (2 : Int32))]) rfl (pc' := 32) rfl ?_
 refine w_aloadN X20 hx (d15_32 hby) rfl rfl (pc' := 33) rfl ?_
 refine w_iloadN X20 hx (d15_33 hby) rfl (pc' := 34) rfl ?_
 refine w_iinc X20 hx (d15_34 hby) (v := (1 : Int32)) rfl rfl (L' := #[.val (.ref a0), .val (.int ((2 : Int32) + (1 : Int32)))]) rfl (pc' := 37) rfl ?_
 rw [show ((2 : Int32) + (1 : Int32)) = (3 : Int32) from by decide]
 obtain ⟨clu21, Aru21, qu21, Su21, Nu21, Hu21, Gu21⟩ := id V_a0
 have hinu21 := inb_of (j := (2 : Int32)) Su21 ⟨(by decide : ¬ ((2 : Int32) < (0 : Int32))), hP_3⟩
 refine w_baload X20 hx hZ e20 Aru21 hinu21 (Hu21.at hinu21 (own_gI l_a0 (2 : Int32))) (d15_37 hby) (pc' := 38) rfl ?_
 refine w_sipush X20 hx (d15_38 hby) (v := (255 : Int32)) rfl (pc' := 41) rfl ?_
 refine w_iand X20 hx (d15_41 hby) (pc' := 42) rfl ?_
 refine w_getS X20 hx "" hZ hown (Or.inl (wd_62 hw)) Via.refl e20 (zz2.ext O0.2) (d15_42 hby) (pc' := 45) rfl ?_
 intro T22 X22 e22
 refine w_ishl X22 hx (d15_45 hby) (pc' := 46) rfl ?_
 refine w_aloadN X22 hx (d15_46 hby) rfl rfl (pc' := 47) rfl ?_
 refine w_iloadN X22 hx (d15_47 hby) rfl (pc' := 48) rfl ?_
 obtain ⟨clu23, Aru23, qu23, Su23, Nu23, Hu23, Gu23⟩ := id V_a0
 have hinu23 := inb_of (j := (3 : Int32)) Su23 ⟨(by decide : ¬ ((3 : Int32) < (0 : Int32))), hP_5⟩
 refine w_baload X22 hx hZ e22 Aru23 hinu23 (Hu23.at hinu23 (own_gI l_a0 (3 : Int32))) (d15_48 hby) (pc' := 49) rfl ?_
 refine w_sipush X22 hx (d15_49 hby) (v := (255 : Int32)) rfl (pc' := 52) rfl ?_
 refine w_iand X22 hx (d15_52 hby) (pc' := 53) rfl ?_
 refine w_getS X22 hx "" hZ hown (Or.inl (wd_63 hw)) Via.refl e22 (zz3.ext O0.2) (d15_53 hby) (pc' := 56) rfl ?_
 intro T24 X24 e24
 refine w_ishl X24 hx (d15_56 hby) (pc' := 57) rfl ?_
 refine w_ior X24 hx (d15_57 hby) (pc' := 58) rfl ?_
 refine w_i2c X24 hx (d15_58 hby) (pc' := 59) rfl ?_
 exact w_done X24 hlk (v := some (.int (((((gI l_a0 (2 : Int32)) &&& (255 : Int32)) <<< ((0 : Int32) &&& 31)) ||| (((gI l_a0 (3 : Int32)) &&& (255 : Int32)) <<< ((8 : Int32) &&& 31))).toUInt32.toUInt16.toUInt32.toInt32))) e24 (fun h => by rw [hret] at h; cases h) (fun fs hr => retOut X24 hx hret (t := .char) (XT.narrow_c _) (Or.inl ⟨rfl, by simp, _, rfl⟩) (d15_59 hby) hr) (by decide) (by decide) (⟨rfl, N0, rfl⟩)
theorem ef_m20_74 (m : MethodId) (a0 : Addr)  : entryFrame m #[(.ref a0), (.int (1 : Int32))] 2 = mkF m 0 #[.val (.ref a0), .val (.int (1 : Int32))] [] := by first | (simp [entryFrame, mkF, argsToLocals, Value.category]; done) | rfl
def Q_m20_74 (Z : State) (a0 : Addr) (k_a0 : ClassId) (jj0 : Int32) (l_a0 : List Int32) (jj1 : Value) (h0 : Heap) (n0 : Nat) (v : Option Value) (h : Heap) (L : List Loc) : Prop := v = some (.int (((((gI l_a0 (2 : Int32)) &&& (255 : Int32)) <<< ((0 : Int32) &&& 31)) ||| (((gI l_a0 (3 : Int32)) &&& (255 : Int32)) <<< ((8 : Int32) &&& 31))).toUInt32.toUInt16.toUInt32.toInt32)) ∧ Fr n0 L ∧ h = h0
theorem rm_m20_74 (l : Launch) (Z : State) (aZ : Array Value) (hw : ∀ d ∈ tables_1, d.before aZ Z = true) (ws : List Jvm.Cond) (a0 : Addr) (k_a0 : ClassId) (jj0 : Int32) (l_a0 : List Int32) (jj1 : Value) (h0 : Heap) (n0 : Nat) (Z0 : n0 ≤ h0.size) (V_a0 : Arv Z h0 a0 k_a0 .byte jj0 (mI l_a0) (.int (0 : Int32))) (hP_1 : (1 : Int32) < (jj0 >>> ((1 : Int32) &&& 31))) (zz2 : jj1.isRef = true) (zz3 : Sta Z Z.heap kc2 "SIOOBE_FORMATTER" "Ljava/util/function/BiFunction;" jj1) (O0 : Old Z n0 h0) (hP_5 : (2 : Int32) < jj0) (hP_6 : (3 : Int32) < jj0) (zz4 : Sta Z Z.heap kc1 "$assertionsDisabled" "Z" (.int (1 : Int32))) (zz5 : Sta Z Z.heap kc1 "HI_BYTE_SHIFT" "I" (.int (0 : Int32))) (zz6 : Sta Z Z.heap kc1 "LO_BYTE_SHIFT" "I" (.int (8 : Int32))) :
    MetN l Z yn_20 jdk_52_method_83_code 2 (some .char) ws ({ frames := 3, cells := 0, slots := 0, locals := 40 } : Room) #[(.ref a0), (.int (1 : Int32))] h0 (Q_m20_74 Z a0 k_a0 jj0 l_a0 jj1 h0 n0) := by
 refine MetN.of (plainFor_of_name pn_3) ?_
 intro p e s m below meth c s₁ hret hx hby hml hown hnm hlk hZ X0 e0
 have N0 := Fr.nil n0
 rw [ef_m20_74 m a0]
 refine w_iloadN X0 hx (d20_0 hby) rfl (pc' := 1) rfl ?_
 refine w_aloadN X0 hx (d20_1 hby) rfl rfl (pc' := 2) rfl ?_
 refine w_static X0 hx (y := yn_21) hown (mvT hZ (wd_90 hw)) (mvT hZ (wd_91 hw)) (mvT hZ (wd_40 hw)) (mvT hZ (wd_92 hw)) (by decide) (backOf (W := 0) (rm_m21_75 l Z aZ hw [] a0 k_a0 jj0 l_a0 jj1 h0 n0 Z0 V_a0 zz2 zz3 O0 hP_1) hZ (wd_92 hw) (wd_40 hw) (by decide) (by decide)) (by rw [hml]; rfl) [(.int (1 : Int32)), (.ref a0)] (lenOf pd_19 rfl) rfl (Nat.le_of_eq rfl) (d20_2 hby) (fun _ _ => ⟨rfl, e0, (by decide : 0 + 0 ≤ _), (by decide : 0 + 0 ≤ _)⟩) (pc' := 5) rfl ?_
 rintro _ _ ⟨T20, L20, k20, n20⟩ X20 ⟨Lc20, hQ20, l20, y20, z20⟩
 dsimp only [Pt.U, Pt.locs, Pt.cells, Pt.slots] at X20 l20 y20 z20 hQ20 ⊢
 rw [l20, y20, z20] at X20
 obtain ⟨rfl, N20q, e20⟩ := hQ20
 have N21 := Fr.app N0 N20q
 show Runs _ _ _ _ (T20.setTop (mkF m 5 #[.val (.ref a0), .val (.int (1 : Int32))] []))
 refine w_aloadN X20 hx (d20_5 hby) rfl rfl (pc' := 6) rfl ?_
 refine w_iloadN X20 hx (d20_6 hby) rfl (pc' := 7) rfl ?_
 refine w_static X20 hx (y := yn_15) hown (mvT hZ (wd_64 hw)) (mvT hZ (wd_65 hw)) (mvT hZ (wd_40 hw)) (mvT hZ (wd_66 hw)) (by decide) (backOf (W := 0) (rm_m15_76 l Z aZ hw [] a0 k_a0 jj0 l_a0 h0 n0 Z0 zz4 O0 V_a0 hP_5 zz5 hP_6 zz6) hZ (wd_66 hw) (wd_40 hw) (by decide) (by decide)) (by rw [hml]; rfl) [(.ref a0), (.int (1 : Int32))] (lenOf pd_9 rfl) rfl (Nat.le_of_eq rfl) (d20_7 hby) (fun _ _ => ⟨rfl, e20, (by decide : 0 + 0 ≤ _), (by decide : 0 + 0 ≤ _)⟩) (pc' := 10) rfl ?_
 rintro _ _ ⟨T22, L22, k22, n22⟩ X22 ⟨Lc22, hQ22, l22, y22, z22⟩
 dsimp only [Pt.U, Pt.locs, Pt.cells, Pt.slots] at X22 l22 y22 z22 hQ22 ⊢
 rw [l22, y22, z22] at X22
 obtain ⟨rfl, N22q, e22⟩ := hQ22
 have N23 := Fr.app N21 N22q
 show Runs _ _ _ _ (T22.setTop (mkF m 10 #[.val (.ref a0), .val (.int (1 : Int32))] [(.int (((((gI l_a0 (2 : Int32)) &&& (255 : Int32)) <<< ((0 : Int32) &&& 31)) ||| (((gI l_a0 (3 : Int32)) &&& (255 : Int32)) <<< ((8 : Int32) &&& 31))).toUInt32.toUInt16.toUInt32.toInt32))]))
 exact w_done X22 hlk (v := some (.int (((((gI l_a0 (2 : Int32)) &&& (255 : Int32)) <<< ((0 : Int32) &&& 31)) ||| (((gI l_a0 (3 : Int32)) &&& (255 : Int32)) <<< ((8 : Int32) &&& 31))).toUInt32.toUInt16.toUInt32.toInt32))) e22 (fun h => by rw [hret] at h; cases h) (fun fs hr => retOut X22 hx hret (t := .char) (XT.narrow_c _) (Or.inl ⟨rfl, by simp, _, rfl⟩) (d20_10 hby) hr) (by decide) (by decide) (⟨rfl, N23, rfl⟩)
theorem ef_m18_70 (m : MethodId) (a0 : Addr)  : entryFrame m #[(.ref a0), (.int (1 : Int32))] 2 = mkF m 0 #[.val (.ref a0), .val (.int (1 : Int32))] [] := by first | (simp [entryFrame, mkF, argsToLocals, Value.category]; done) | rfl
def Q_m18_70 (Z : State) (a0 : Addr) (jj0 : Int32) (jj1 : Int32) (jj2 : Addr) (jj3 : ClassId) (jj4 : Int32) (jj5 : List Int32) (jj6 : Value) (h0 : Heap) (n0 : Nat) (v : Option Value) (h : Heap) (L : List Loc) : Prop := v = some (.int (chA jj1 jj5 (1 : Int32) (2 : Int32) (3 : Int32))) ∧ Fr n0 L ∧ h = h0
theorem rm_m18_70 (l : Launch) (Z : State) (aZ : Array Value) (hw : ∀ d ∈ tables_1, d.before aZ Z = true) (ws : List Jvm.Cond) (a0 : Addr) (jj0 : Int32) (jj1 : Int32) (jj2 : Addr) (jj3 : ClassId) (jj4 : Int32) (jj5 : List Int32) (jj6 : Value) (h0 : Heap) (n0 : Nat) (Z0 : n0 ≤ h0.size) (E_a0 : Exa Z h0 a0 kc0) (zz7 : Sta Z Z.heap kc0 "COMPACT_STRINGS" "Z" (.int jj0)) (O0 : Old Z n0 h0) (zz8 : Fld Z h0 a0 kc0 "coder" "B" (.int jj1)) (hP_4 : ¬ (jj0 = (0 : Int32))) (zz9 : Fld Z h0 a0 kc0 "value" "[B" (.ref jj2)) (zz10 : Arv Z h0 jj2 jj3 .byte jj4 (mI jj5) (.int (0 : Int32))) (hP_7 : (1 : Int32) < (jj4 >>> (jj1 &&& 31))) (zz11 : jj6.isRef = true) (zz12 : Sta Z Z.heap kc2 "SIOOBE_FORMATTER" "Ljava/util/function/BiFunction;" jj6) (zz13 : jj1 < (2 : Int32)) (zz14 : ¬ (jj1 < (0 : Int32))) (zz15 : Sta Z Z.heap kc1 "$assertionsDisabled" "Z" (.int (1 : Int32))) (zz16 : Sta Z Z.heap kc1 "HI_BYTE_SHIFT" "I" (.int (0 : Int32))) (zz17 : Sta Z Z.heap kc1 "LO_BYTE_SHIFT" "I" (.int (8 : Int32))) :
    MetN l Z yn_18 jdk_42_method_56_code 2 (some .char) ws ({ frames := 4, cells := 0, slots := 0, locals := 53 } : Room) #[(.ref a0), (.int (1 : Int32))] h0 (Q_m18_70 Z a0 jj0 jj1 jj2 jj3 jj4 jj5 jj6 h0 n0) := by
 refine MetN.of (plainFor_of_name pn_2) ?_
 intro p e s m below meth c s₁ hret hx hby hml hown hnm hlk hZ X0 e0
 have N0 := Fr.nil n0
 rw [ef_m18_70 m a0]
 refine w_aloadN X0 hx (d18_0 hby) rfl rfl (pc' := 1) rfl ?_
 obtain ⟨cq20, kq20, q20a, q20b, q20c⟩ := isOf hZ e0 E_a0
 refine w_virtual X0 hx (y := yn_19) (z := yn_19) hown (mvT hZ (wd_82 hw)) (mvT hZ (wd_83 hw)) (notFace_of_selects (args := #[]) (mvT hZ (wd_85 hw))) (mvT hZ (wd_85 hw)) (mvT hZ (wd_84 hw)) (by decide) (backOf (W := 0) (rm_m19_62 l Z aZ hw [] a0 jj0 jj1 h0 n0 Z0 zz7 O0 hP_4 zz8) hZ (wd_86 hw) (wd_14 hw) (by decide) (by decide)) q20a q20c (by rw [hml]; rfl) [] (lenOf pd_15 rfl) rfl (Nat.le_of_eq rfl) (d18_1 hby) (fun _ _ => ⟨rfl, e0, (by decide : 0 + 0 ≤ _), (by decide : 0 + 0 ≤ _)⟩) (pc' := 4) rfl ?_
 rintro _ _ ⟨T20, L20, k20, n20⟩ X20 ⟨Lc20, hQ20, l20, y20, z20⟩
 dsimp only [Pt.U, Pt.locs, Pt.cells, Pt.slots] at X20 l20 y20 z20 hQ20 ⊢
 rw [l20, y20, z20] at X20
 obtain ⟨rfl, N20q, e20⟩ := hQ20
 have N21 := Fr.app N0 N20q
 show Runs _ _ _ _ (T20.setTop (mkF m 4 #[.val (.ref a0), .val (.int (1 : Int32))] [(.int (if jj1 = (0 : Int32) then (1 : Int32) else (0 : Int32)))]))
 by_cases hc22 : jj1 = (0 : Int32)
 · have v23 : (if jj1 = (0 : Int32) then (1 : Int32) else (0 : Int32)) = (1 : Int32) := if_pos hc22
   refine w_ifN X20 hx (d18_4 hby) (feq (fun q => absurd (v23.symm.trans q) (by decide))).1 (pc' := 7) rfl ?_
   refine w_aloadN X20 hx (d18_7 hby) rfl rfl (pc' := 8) rfl ?_
   refine w_getF X20 hx "" hZ hown (Or.inl (wd_31 hw)) Via.refl e20 zz9 (d18_8 hby) (pc' := 11) rfl ?_
   intro T24 X24 e24
   refine w_iloadN X24 hx (d18_11 hby) rfl (pc' := 12) rfl ?_
   refine w_static X24 hx (y := yn_27) hown (mvT hZ (wd_110 hw)) (mvT hZ (wd_111 hw)) (mvT hZ (wd_112 hw)) (mvT hZ (wd_113 hw)) (by decide) (backOf (W := 0) (rm_m27_71 l Z aZ hw [] jj2 jj3 jj4 jj5 jj6 h0 n0 Z0 zz10 (own_len0 hc22 hP_7) zz11 zz12 O0) hZ (wd_113 hw) (wd_112 hw) (by decide) (by decide)) (by rw [hml]; rfl) [(.ref jj2), (.int (1 : Int32))] (lenOf pd_9 rfl) rfl (Nat.le_of_eq rfl) (d18_12 hby) (fun _ _ => ⟨rfl, e24, (by decide : 0 + 0 ≤ _), (by decide : 0 + 0 ≤ _)⟩) (pc' := 15) rfl ?_
   rintro _ _ ⟨T25, L25, k25, n25⟩ X25 ⟨Lc25, hQ25, l25, y25, z25⟩
   dsimp only [Pt.U, Pt.locs, Pt.cells, Pt.slots] at X25 l25 y25 z25 hQ25 ⊢
   rw [l25, y25, z25] at X25
   obtain ⟨rfl, N25q, e25⟩ := hQ25
   have N26 := Fr.app N21 N25q
   show Runs _ _ _ _ (T25.setTop (mkF m 15 #[.val (.ref a0), .val (.int (1 : Int32))] [(.int (((gI jj5 (1 : Int32)) &&& (255 : Int32)).toUInt32.toUInt16.toUInt32.toInt32))]))
   exact w_done X25 hlk (v := some (.int (((gI jj5 (1 : Int32)) &&& (255 : Int32)).toUInt32.toUInt16.toUInt32.toInt32))) e25 (fun h => by rw [hret] at h; cases h) (fun fs hr => retOut X25 hx hret (t := .char) (XT.narrow_c _) (Or.inl ⟨rfl, by simp, _, rfl⟩) (d18_15 hby) hr) (by decide) (by decide) (⟨(congrArg (fun z => some (Value.int z)) (show (((gI jj5 (1 : Int32)) &&& (255 : Int32)).toUInt32.toUInt16.toUInt32.toInt32) = (chA jj1 jj5 (1 : Int32) (2 : Int32) (3 : Int32)) from (if_pos hc22).symm)), N26, rfl⟩)
 · have v27 : (if jj1 = (0 : Int32) then (1 : Int32) else (0 : Int32)) = (0 : Int32) := if_neg hc22
   refine w_ifY X20 hx (d18_4 hby) (teq (v27.trans (by decide))).1 (pc' := 16) (by decide) (by decide) ?_
   refine w_aloadN X20 hx (d18_16 hby) rfl rfl (pc' := 17) rfl ?_
   refine w_getF X20 hx "" hZ hown (Or.inl (wd_31 hw)) Via.refl e20 zz9 (d18_17 hby) (pc' := 20) rfl ?_
   intro T28 X28 e28
   refine w_iloadN X28 hx (d18_20 hby) rfl (pc' := 21) rfl ?_
   refine w_static X28 hx (y := yn_20) hown (mvT hZ (wd_87 hw)) (mvT hZ (wd_88 hw)) (mvT hZ (wd_40 hw)) (mvT hZ (wd_89 hw)) (by decide) (backOf (W := 0) (rm_m20_74 l Z aZ hw [] jj2 jj3 jj4 jj5 jj6 h0 n0 Z0 zz10 (own_len1 (own_cd1 hc22 zz13 zz14) hP_7) zz11 zz12 O0 (own_half2 (own_len1 (own_cd1 hc22 zz13 zz14) hP_7)) (own_half3 (own_len1 (own_cd1 hc22 zz13 zz14) hP_7)) zz15 zz16 zz17) hZ (wd_89 hw) (wd_40 hw) (by decide) (by decide)) (by rw [hml]; rfl) [(.ref jj2), (.int (1 : Int32))] (lenOf pd_9 rfl) rfl (Nat.le_of_eq rfl) (d18_21 hby) (fun _ _ => ⟨rfl, e28, (by decide : 0 + 0 ≤ _), (by decide : 0 + 0 ≤ _)⟩) (pc' := 24) rfl ?_
   rintro _ _ ⟨T29, L29, k29, n29⟩ X29 ⟨Lc29, hQ29, l29, y29, z29⟩
   dsimp only [Pt.U, Pt.locs, Pt.cells, Pt.slots] at X29 l29 y29 z29 hQ29 ⊢
   rw [l29, y29, z29] at X29
   obtain ⟨rfl, N29q, e29⟩ := hQ29
   have N30 := Fr.app N21 N29q
   show Runs _ _ _ _ (T29.setTop (mkF m 24 #[.val (.ref a0), .val (.int (1 : Int32))] [(.int (((((gI jj5 (2 : Int32)) &&& (255 : Int32)) <<< ((0 : Int32) &&& 31)) ||| (((gI jj5 (3 : Int32)) &&& (255 : Int32)) <<< ((8 : Int32) &&& 31))).toUInt32.toUInt16.toUInt32.toInt32))]))
   exact w_done X29 hlk (v := some (.int (((((gI jj5 (2 : Int32)) &&& (255 : Int32)) <<< ((0 : Int32) &&& 31)) ||| (((gI jj5 (3 : Int32)) &&& (255 : Int32)) <<< ((8 : Int32) &&& 31))).toUInt32.toUInt16.toUInt32.toInt32))) e29 (fun h => by rw [hret] at h; cases h) (fun fs hr => retOut X29 hx hret (t := .char) (XT.narrow_c _) (Or.inl ⟨rfl, by simp, _, rfl⟩) (d18_24 hby) hr) (by decide) (by decide) (⟨(congrArg (fun z => some (Value.int z)) (show (((((gI jj5 (2 : Int32)) &&& (255 : Int32)) <<< ((0 : Int32) &&& 31)) ||| (((gI jj5 (3 : Int32)) &&& (255 : Int32)) <<< ((8 : Int32) &&& 31))).toUInt32.toUInt16.toUInt32.toInt32) = (chA jj1 jj5 (1 : Int32) (2 : Int32) (3 : Int32)) from (if_neg hc22).symm)), N30, rfl⟩)
theorem ef_m24_80 (m : MethodId) (p1 : Int32) (v2 : Value) (r_v2 : v2.isRef = true) : entryFrame m #[(.int (2 : Int32)), (.int p1), v2] 3 = mkF m 0 #[.val (.int (2 : Int32)), .val (.int p1), .val v2] [] := by
  rcases XT.refc r_v2 with rfl | ⟨z_v2, rfl⟩ <;> first | (simp [entryFrame, mkF, argsToLocals, Value.category]; done) | rfl
def Q_m24_80 (Z : State) (p1 : Int32) (v2 : Value) (h0 : Heap) (n0 : Nat) (v : Option Value) (h : Heap) (L : List Loc) : Prop := v = some (.int (2 : Int32)) ∧ Fr n0 L ∧ h = h0
theorem rm_m24_80 (l : Launch) (Z : State) (aZ : Array Value) (hw : ∀ d ∈ tables_1, d.before aZ Z = true) (ws : List Jvm.Cond) (p1 : Int32) (v2 : Value) (h0 : Heap) (n0 : Nat) (Z0 : n0 ≤ h0.size) (r_v2 : v2.isRef = true) (hP_1 : (2 : Int32) < p1) :
    MetN l Z yn_24 jdk_41_method_11_code 3 (some .int) ws ({ frames := 0, cells := 0, slots := 0, locals := 0 } : Room) #[(.int (2 : Int32)), (.int p1), v2] h0 (Q_m24_80 Z p1 v2 h0 n0) := by
 refine MetN.of (plainFor_of_name pn_4) ?_
 intro p e s m below meth c s₁ hret hx hby hml hown hnm hlk hZ X0 e0
 have N0 := Fr.nil n0
 rw [ef_m24_80 m p1 v2 r_v2]
 refine w_iloadN X0 hx (d24_0 hby) rfl (pc' := 1) rfl ?_
 refine w_ifN X0 hx (d24_1 hby) (flt (by decide : ¬ ((2 : Int32) < (0 : Int32)))).1 (pc' := 4) rfl ?_
 refine w_iloadN X0 hx (d24_4 hby) rfl (pc' := 5) rfl ?_
 refine w_iloadN X0 hx (d24_5 hby) rfl (pc' := 6) rfl ?_
 refine w_icY X0 hx (d24_6 hby) (tlt hP_1).1 (pc' := 16) (by decide) (by decide) ?_
 refine w_iloadN X0 hx (d24_16 hby) rfl (pc' := 17) rfl ?_
 exact w_done X0 hlk (v := some (.int (2 : Int32))) e0 (fun h => by rw [hret] at h; cases h) (fun fs hr => retI X0 hx hret (d24_17 hby) hr) (by decide) (by decide) (⟨rfl, N0, rfl⟩)
theorem ef_m23_79 (m : MethodId) (p1 : Int32)  : entryFrame m #[(.int (2 : Int32)), (.int p1)] 2 = mkF m 0 #[.val (.int (2 : Int32)), .val (.int p1)] [] := by first | (simp [entryFrame, mkF, argsToLocals, Value.category]; done) | rfl
def Q_m23_79 (Z : State) (p1 : Int32) (jj0 : Value) (h0 : Heap) (n0 : Nat) (v : Option Value) (h : Heap) (L : List Loc) : Prop := v = none ∧ Fr n0 L ∧ h = h0
theorem rm_m23_79 (l : Launch) (Z : State) (aZ : Array Value) (hw : ∀ d ∈ tables_1, d.before aZ Z = true) (ws : List Jvm.Cond) (p1 : Int32) (jj0 : Value) (h0 : Heap) (n0 : Nat) (Z0 : n0 ≤ h0.size) (zz1 : jj0.isRef = true) (zz2 : Sta Z Z.heap kc2 "SIOOBE_FORMATTER" "Ljava/util/function/BiFunction;" jj0) (O0 : Old Z n0 h0) (hP_3 : (2 : Int32) < p1) :
    MetN l Z yn_23 jdk_42_method_155_code 2 none ws ({ frames := 1, cells := 0, slots := 0, locals := 14 } : Room) #[(.int (2 : Int32)), (.int p1)] h0 (Q_m23_79 Z p1 jj0 h0 n0) := by
 refine MetN.of (plainFor_of_name pn_2) ?_
 intro p e s m below meth c s₁ hret hx hby hml hown hnm hlk hZ X0 e0
 have N0 := Fr.nil n0
 rw [ef_m23_79 m p1]
 refine w_iloadN X0 hx (d23_0 hby) rfl (pc' := 1) rfl ?_
 refine w_iloadN X0 hx (d23_1 hby) rfl (pc' := 2) rfl ?_
 refine w_getS X0 hx "" hZ hown (Or.inl (wd_99 hw)) Via.refl e0 (zz2.ext O0.2) (d23_2 hby) (pc' := 5) rfl ?_
 intro T20 X20 e20
 refine w_static X20 hx (y := yn_24) hown (mvT hZ (wd_101 hw)) (mvT hZ (wd_102 hw)) (mvT hZ (wd_100 hw)) (mvT hZ (wd_103 hw)) (by decide) (backOf (W := 0) (rm_m24_80 l Z aZ hw [] p1 jj0 h0 n0 Z0 zz1 hP_3) hZ (wd_103 hw) (wd_100 hw) (by decide) (by decide)) (by rw [hml]; rfl) [(.int (2 : Int32)), (.int p1), jj0] (lenOf pd_16 rfl) rfl (Nat.le_of_eq rfl) (d23_5 hby) (fun _ _ => ⟨rfl, e20, (by decide : 0 + 0 ≤ _), (by decide : 0 + 0 ≤ _)⟩) (pc' := 8) rfl ?_
 rintro _ _ ⟨T21, L21, k21, n21⟩ X21 ⟨Lc21, hQ21, l21, y21, z21⟩
 dsimp only [Pt.U, Pt.locs, Pt.cells, Pt.slots] at X21 l21 y21 z21 hQ21 ⊢
 rw [l21, y21, z21] at X21
 obtain ⟨rfl, N21q, e21⟩ := hQ21
 have N22 := Fr.app N0 N21q
 show Runs _ _ _ _ (T21.setTop (mkF m 8 #[.val (.int (2 : Int32)), .val (.int p1)] [(.int (2 : Int32))]))
 refine w_pop X21 hx (d23_8 hby) rfl (pc' := 9) rfl ?_
 exact w_done X21 hlk (v := none) e21 (fun _ => rfl) (fun fs hr => X21.returnOut hx hret (d23_9 hby) hr) (by decide) (by decide) (⟨rfl, N22, rfl⟩)
theorem ef_m27_78 (m : MethodId) (a0 : Addr)  : entryFrame m #[(.ref a0), (.int (2 : Int32))] 2 = mkF m 0 #[.val (.ref a0), .val (.int (2 : Int32))] [] := by first | (simp [entryFrame, mkF, argsToLocals, Value.category]; done) | rfl
def Q_m27_78 (Z : State) (a0 : Addr) (k_a0 : ClassId) (jj0 : Int32) (l_a0 : List Int32) (jj1 : Value) (h0 : Heap) (n0 : Nat) (v : Option Value) (h : Heap) (L : List Loc) : Prop := v = some (.int (((gI l_a0 (2 : Int32)) &&& (255 : Int32)).toUInt32.toUInt16.toUInt32.toInt32)) ∧ Fr n0 L ∧ h = h0
theorem rm_m27_78 (l : Launch) (Z : State) (aZ : Array Value) (hw : ∀ d ∈ tables_1, d.before aZ Z = true) (ws : List Jvm.Cond) (a0 : Addr) (k_a0 : ClassId) (jj0 : Int32) (l_a0 : List Int32) (jj1 : Value) (h0 : Heap) (n0 : Nat) (Z0 : n0 ≤ h0.size) (V_a0 : Arv Z h0 a0 k_a0 .byte jj0 (mI l_a0) (.int (0 : Int32))) (hP_1 : (2 : Int32) < jj0) (zz2 : jj1.isRef = true) (zz3 : Sta Z Z.heap kc2 "SIOOBE_FORMATTER" "Ljava/util/function/BiFunction;" jj1) (O0 : Old Z n0 h0) :
    MetN l Z yn_27 jdk_43_method_2_code 2 (some .char) ws ({ frames := 2, cells := 0, slots := 0, locals := 27 } : Room) #[(.ref a0), (.int (2 : Int32))] h0 (Q_m27_78 Z a0 k_a0 jj0 l_a0 jj1 h0 n0) := by
 refine MetN.of (plainFor_of_name pn_5) ?_
 intro p e s m below meth c s₁ hret hx hby hml hown hnm hlk hZ X0 e0
 have N0 := Fr.nil n0
 rw [ef_m27_78 m a0]
 refine w_iloadN X0 hx (d27_0 hby) rfl (pc' := 1) rfl ?_
 refine w_aloadN X0 hx (d27_1 hby) rfl rfl (pc' := 2) rfl ?_
 refine w_alen X0 hx hZ e0 V_a0 (d27_2 hby) (pc' := 3) rfl ?_
 refine w_static X0 hx (y := yn_23) hown (mvT hZ (wd_114 hw)) (mvT hZ (wd_97 hw)) (mvT hZ (wd_14 hw)) (mvT hZ (wd_98 hw)) (by decide) (backOf (W := 0) (rm_m23_79 l Z aZ hw [] jj0 jj1 h0 n0 Z0 zz2 zz3 O0 hP_1) hZ (wd_98 hw) (wd_14 hw) (by decide) (by decide)) (by rw [hml]; rfl) [(.int (2 : Int32)), (.int jj0)] (lenOf pd_17 rfl) rfl (Nat.le_of_eq rfl) (d27_3 hby) (fun _ _ => ⟨rfl, e0, (by decide : 0 + 0 ≤ _), (by decide : 0 + 0 ≤ _)⟩) (pc' := 6) rfl ?_
 rintro _ _ ⟨T20, L20, k20, n20⟩ X20 ⟨Lc20, hQ20, l20, y20, z20⟩
 dsimp only [Pt.U, Pt.locs, Pt.cells, Pt.slots] at X20 l20 y20 z20 hQ20 ⊢
 rw [l20, y20, z20] at X20
 obtain ⟨rfl, N20q, e20⟩ := hQ20
 have N21 := Fr.app N0 N20q
 show Runs _ _ _ _ (T20.setTop (mkF m 6 #[.val (.ref a0), .val (.int (2 : Int32))] []))
 refine w_aloadN X20 hx (d27_6 hby) rfl rfl (pc' := 7) rfl ?_
 refine w_iloadN X20 hx (d27_7 hby) rfl (pc' := 8) rfl ?_
 obtain ⟨clu22, Aru22, qu22, Su22, Nu22, Hu22, Gu22⟩ := id V_a0
 have hinu22 := inb_of (j := (2 : Int32)) Su22 ⟨(by decide : ¬ ((2 : Int32) < (0 : Int32))), hP_1⟩
 refine w_baload X20 hx hZ e20 Aru22 hinu22 (Hu22.at hinu22 (own_gI l_a0 (2 : Int32))) (d27_8 hby) (pc' := 9) rfl ?_
 refine w_sipush X20 hx (d27_9 hby) (v := (255 : Int32)) rfl (pc' := 12) rfl ?_
 refine w_iand X20 hx (d27_12 hby) (pc' := 13) rfl ?_
 refine w_i2c X20 hx (d27_13 hby) (pc' := 14) rfl ?_
 exact w_done X20 hlk (v := some (.int (((gI l_a0 (2 : Int32)) &&& (255 : Int32)).toUInt32.toUInt16.toUInt32.toInt32))) e20 (fun h => by rw [hret] at h; cases h) (fun fs hr => retOut X20 hx hret (t := .char) (XT.narrow_c _) (Or.inl ⟨rfl, by simp, _, rfl⟩) (d27_14 hby) hr) (by decide) (by decide) (⟨rfl, N21, rfl⟩)
theorem ef_m21_82 (m : MethodId) (a1 : Addr)  : entryFrame m #[(.int (2 : Int32)), (.ref a1)] 2 = mkF m 0 #[.val (.int (2 : Int32)), .val (.ref a1)] [] := by first | (simp [entryFrame, mkF, argsToLocals, Value.category]; done) | rfl
def Q_m21_82 (Z : State) (a1 : Addr) (k_a1 : ClassId) (jj0 : Int32) (l_a1 : List Int32) (jj1 : Value) (h0 : Heap) (n0 : Nat) (v : Option Value) (h : Heap) (L : List Loc) : Prop := v = none ∧ Fr n0 L ∧ h = h0
theorem rm_m21_82 (l : Launch) (Z : State) (aZ : Array Value) (hw : ∀ d ∈ tables_1, d.before aZ Z = true) (ws : List Jvm.Cond) (a1 : Addr) (k_a1 : ClassId) (jj0 : Int32) (l_a1 : List Int32) (jj1 : Value) (h0 : Heap) (n0 : Nat) (Z0 : n0 ≤ h0.size) (V_a1 : Arv Z h0 a1 k_a1 .byte jj0 (mI l_a1) (.int (0 : Int32))) (zz2 : jj1.isRef = true) (zz3 : Sta Z Z.heap kc2 "SIOOBE_FORMATTER" "Ljava/util/function/BiFunction;" jj1) (O0 : Old Z n0 h0) (hP_4 : (2 : Int32) < (jj0 >>> ((1 : Int32) &&& 31))) :
    MetN l Z yn_21 jdk_52_method_91_code 2 none ws ({ frames := 2, cells := 0, slots := 0, locals := 27 } : Room) #[(.int (2 : Int32)), (.ref a1)] h0 (Q_m21_82 Z a1 k_a1 jj0 l_a1 jj1 h0 n0) := by
 refine MetN.of (plainFor_of_name pn_3) ?_
 intro p e s m below meth c s₁ hret hx hby hml hown hnm hlk hZ X0 e0
 have N0 := Fr.nil n0
 rw [ef_m21_82 m a1]
 refine w_iloadN X0 hx (d21_0 hby) rfl (pc' := 1) rfl ?_
 refine w_aloadN X0 hx (d21_1 hby) rfl rfl (pc' := 2) rfl ?_
 refine w_static X0 hx (y := yn_22) hown (mvT hZ (wd_93 hw)) (mvT hZ (wd_94 hw)) (mvT hZ (wd_40 hw)) (mvT hZ (wd_95 hw)) (by decide) (backOf (W := 1) (rm_m22_68 l Z aZ hw [] a1 k_a1 jj0 l_a1 h0 n0 Z0 V_a1) hZ (wd_95 hw) (wd_40 hw) (by decide) (by decide)) (by rw [hml]; rfl) [(.ref a1)] (lenOf pd_18 rfl) rfl (Nat.le_of_eq rfl) (d21_2 hby) (fun _ _ => ⟨rfl, e0, (by decide : 0 + 0 ≤ _), (by decide : 0 + 0 ≤ _)⟩) (pc' := 5) rfl ?_
 rintro _ _ ⟨T20, L20, k20, n20⟩ X20 ⟨Lc20, hQ20, l20, y20, z20⟩
 dsimp only [Pt.U, Pt.locs, Pt.cells, Pt.slots] at X20 l20 y20 z20 hQ20 ⊢
 rw [l20, y20, z20] at X20
 obtain ⟨rfl, N20q, e20⟩ := hQ20
 have N21 := Fr.app N0 N20q
 show Runs _ _ _ _ (T20.setTop (mkF m 5 #[.val (.int (2 : Int32)), .val (.ref a1)] [(.int (jj0 >>> ((1 : Int32) &&& 31))), (.int (2 : Int32))]))
 refine w_static X20 hx (y := yn_23) hown (mvT hZ (wd_96 hw)) (mvT hZ (wd_97 hw)) (mvT hZ (wd_14 hw)) (mvT hZ (wd_98 hw)) (by decide) (backOf (W := 0) (rm_m23_79 l Z aZ hw [] (jj0 >>> ((1 : Int32) &&& 31)) jj1 h0 n0 Z0 zz2 zz3 O0 hP_4) hZ (wd_98 hw) (wd_14 hw) (by decide) (by decide)) (by rw [hml]; rfl) [(.int (2 : Int32)), (.int (jj0 >>> ((1 : Int32) &&& 31)))] (lenOf pd_17 rfl) rfl (Nat.le_of_eq rfl) (d21_5 hby) (fun _ _ => ⟨rfl, e20, (by decide : 0 + 0 ≤ _), (by decide : 0 + 0 ≤ _)⟩) (pc' := 8) rfl ?_
 rintro _ _ ⟨T22, L22, k22, n22⟩ X22 ⟨Lc22, hQ22, l22, y22, z22⟩
 dsimp only [Pt.U, Pt.locs, Pt.cells, Pt.slots] at X22 l22 y22 z22 hQ22 ⊢
 rw [l22, y22, z22] at X22
 obtain ⟨rfl, N22q, e22⟩ := hQ22
 have N23 := Fr.app N21 N22q
 show Runs _ _ _ _ (T22.setTop (mkF m 8 #[.val (.int (2 : Int32)), .val (.ref a1)] []))
 exact w_done X22 hlk (v := none) e22 (fun _ => rfl) (fun fs hr => X22.returnOut hx hret (d21_8 hby) hr) (by decide) (by decide) (⟨rfl, N23, rfl⟩)
theorem ef_m15_83 (m : MethodId) (a0 : Addr)  : entryFrame m #[(.ref a0), (.int (2 : Int32))] 2 = mkF m 0 #[.val (.ref a0), .val (.int (2 : Int32))] [] := by first | (simp [entryFrame, mkF, argsToLocals, Value.category]; done) | rfl
def Q_m15_83 (Z : State) (a0 : Addr) (k_a0 : ClassId) (jj0 : Int32) (l_a0 : List Int32) (h0 : Heap) (n0 : Nat) (v : Option Value) (h : Heap) (L : List Loc) : Prop := v = some (.int (((((gI l_a0 (4 : Int32)) &&& (255 : Int32)) <<< ((0 : Int32) &&& 31)) ||| (((gI l_a0 (5 : Int32)) &&& (255 : Int32)) <<< ((8 : Int32) &&& 31))).toUInt32.toUInt16.toUInt32.toInt32)) ∧ Fr n0 L ∧ h = h0
theorem rm_m15_83 (l : Launch) (Z : State) (aZ : Array Value) (hw : ∀ d ∈ tables_1, d.before aZ Z = true) (ws : List Jvm.Cond) (a0 : Addr) (k_a0 : ClassId) (jj0 : Int32) (l_a0 : List Int32) (h0 : Heap) (n0 : Nat) (Z0 : n0 ≤ h0.size) (zz1 : Sta Z Z.heap kc1 "$assertionsDisabled" "Z" (.int (1 : Int32))) (O0 : Old Z n0 h0) (V_a0 : Arv Z h0 a0 k_a0 .byte jj0 (mI l_a0) (.int (0 : Int32))) (hP_3 : (4 : Int32) < jj0) (zz2 : Sta Z Z.heap kc1 "HI_BYTE_SHIFT" "I" (.int (0 : Int32))) (hP_5 : (5 : Int32) < jj0) (zz3 : Sta Z Z.heap kc1 "LO_BYTE_SHIFT" "I" (.int (8 : Int32))) :
    MetN l Z yn_15 jdk_52_method_5_code 2 (some .char) ws ({ frames := 0, cells := 0, slots := 0, locals := 0 } : Room) #[(.ref a0), (.int (2 : Int32))] h0 (Q_m15_83 Z a0 k_a0 jj0 l_a0 h0 n0) := by
 refine MetN.of (plainFor_of_name pn_3) ?_
 intro p e s m below meth c s₁ hret hx hby hml hown hnm hlk hZ X0 e0
 have N0 := Fr.nil n0
 rw [ef_m15_83 m a0]
 refine w_getS X0 hx "" hZ hown (Or.inl (wd_61 hw)) Via.refl e0 (zz1.ext O0.2) (d15_0 hby) (pc' := 3) rfl ?_
 intro T20 X20 e20
 refine w_ifY X20 hx (d15_3 hby) (feq (by decide : ¬ ((1 : Int32) = (0 : Int32)))).2 (pc' := 28) (by decide) (by decide) ?_
 refine w_iloadN X20 hx (d15_28 hby) rfl (pc' := 29) rfl ?_
 refine w_iconst X20 hx (d15_29 hby) (v := (1 : Int32)) rfl (pc' := 30) rfl ?_
 refine w_ishl X20 hx (d15_30 hby) (pc' := 31) rfl ?_
 rw [show ((2 : Int32) <<< ((1 : Int32) &&& 31)) = (4 : Int32) from by decide]
 refine w_istoreN X20 hx (d15_31 hby) (L' := #[.val (.ref a0), .val (.int (4 : Int32))]) rfl (pc' := 32) rfl ?_
 refine w_aloadN X20 hx (d15_32 hby) rfl rfl (pc' := 33) rfl ?_
 refine w_iloadN X20 hx (d15_33 hby) rfl (pc' := 34) rfl ?_
 refine w_iinc X20 hx (d15_34 hby) (v := (1 : Int32)) rfl rfl (L' := #[.val (.ref a0), .val (.int ((4 : Int32) + (1 : Int32)))]) rfl (pc' := 37) rfl ?_
 rw [show ((4 : Int32) + (1 : Int32)) = (5 : Int32) from by decide]
 obtain ⟨clu21, Aru21, qu21, Su21, Nu21, Hu21, Gu21⟩ := id V_a0
 have hinu21 := inb_of (j := (4 : Int32)) Su21 ⟨(by decide : ¬ ((4 : Int32) < (0 : Int32))), hP_3⟩
 refine w_baload X20 hx hZ e20 Aru21 hinu21 (Hu21.at hinu21 (own_gI l_a0 (4 : Int32))) (d15_37 hby) (pc' := 38) rfl ?_
 refine w_sipush X20 hx (d15_38 hby) (v := (255 : Int32)) rfl (pc' := 41) rfl ?_
 refine w_iand X20 hx (d15_41 hby) (pc' := 42) rfl ?_
 refine w_getS X20 hx "" hZ hown (Or.inl (wd_62 hw)) Via.refl e20 (zz2.ext O0.2) (d15_42 hby) (pc' := 45) rfl ?_
 intro T22 X22 e22
 refine w_ishl X22 hx (d15_45 hby) (pc' := 46) rfl ?_
 refine w_aloadN X22 hx (d15_46 hby) rfl rfl (pc' := 47) rfl ?_
 refine w_iloadN X22 hx (d15_47 hby) rfl (pc' := 48) rfl ?_
 obtain ⟨clu23, Aru23, qu23, Su23, Nu23, Hu23, Gu23⟩ := id V_a0
 have hinu23 := inb_of (j := (5 : Int32)) Su23 ⟨(by decide : ¬ ((5 : Int32) < (0 : Int32))), hP_5⟩
 refine w_baload X22 hx hZ e22 Aru23 hinu23 (Hu23.at hinu23 (own_gI l_a0 (5 : Int32))) (d15_48 hby) (pc' := 49) rfl ?_
 refine w_sipush X22 hx (d15_49 hby) (v := (255 : Int32)) rfl (pc' := 52) rfl ?_
 refine w_iand X22 hx (d15_52 hby) (pc' := 53) rfl ?_
 refine w_getS X22 hx "" hZ hown (Or.inl (wd_63 hw)) Via.refl e22 (zz3.ext O0.2) (d15_53 hby) (pc' := 56) rfl ?_
 intro T24 X24 e24
 refine w_ishl X24 hx (d15_56 hby) (pc' := 57) rfl ?_
 refine w_ior X24 hx (d15_57 hby) (pc' := 58) rfl ?_
 refine w_i2c X24 hx (d15_58 hby) (pc' := 59) rfl ?_
 exact w_done X24 hlk (v := some (.int (((((gI l_a0 (4 : Int32)) &&& (255 : Int32)) <<< ((0 : Int32) &&& 31)) ||| (((gI l_a0 (5 : Int32)) &&& (255 : Int32)) <<< ((8 : Int32) &&& 31))).toUInt32.toUInt16.toUInt32.toInt32))) e24 (fun h => by rw [hret] at h; cases h) (fun fs hr => retOut X24 hx hret (t := .char) (XT.narrow_c _) (Or.inl ⟨rfl, by simp, _, rfl⟩) (d15_59 hby) hr) (by decide) (by decide) (⟨rfl, N0, rfl⟩)
theorem ef_m20_81 (m : MethodId) (a0 : Addr)  : entryFrame m #[(.ref a0), (.int (2 : Int32))] 2 = mkF m 0 #[.val (.ref a0), .val (.int (2 : Int32))] [] := by first | (simp [entryFrame, mkF, argsToLocals, Value.category]; done) | rfl
def Q_m20_81 (Z : State) (a0 : Addr) (k_a0 : ClassId) (jj0 : Int32) (l_a0 : List Int32) (jj1 : Value) (h0 : Heap) (n0 : Nat) (v : Option Value) (h : Heap) (L : List Loc) : Prop := v = some (.int (((((gI l_a0 (4 : Int32)) &&& (255 : Int32)) <<< ((0 : Int32) &&& 31)) ||| (((gI l_a0 (5 : Int32)) &&& (255 : Int32)) <<< ((8 : Int32) &&& 31))).toUInt32.toUInt16.toUInt32.toInt32)) ∧ Fr n0 L ∧ h = h0
theorem rm_m20_81 (l : Launch) (Z : State) (aZ : Array Value) (hw : ∀ d ∈ tables_1, d.before aZ Z = true) (ws : List Jvm.Cond) (a0 : Addr) (k_a0 : ClassId) (jj0 : Int32) (l_a0 : List Int32) (jj1 : Value) (h0 : Heap) (n0 : Nat) (Z0 : n0 ≤ h0.size) (V_a0 : Arv Z h0 a0 k_a0 .byte jj0 (mI l_a0) (.int (0 : Int32))) (hP_1 : (2 : Int32) < (jj0 >>> ((1 : Int32) &&& 31))) (zz2 : jj1.isRef = true) (zz3 : Sta Z Z.heap kc2 "SIOOBE_FORMATTER" "Ljava/util/function/BiFunction;" jj1) (O0 : Old Z n0 h0) (hP_5 : (4 : Int32) < jj0) (hP_6 : (5 : Int32) < jj0) (zz4 : Sta Z Z.heap kc1 "$assertionsDisabled" "Z" (.int (1 : Int32))) (zz5 : Sta Z Z.heap kc1 "HI_BYTE_SHIFT" "I" (.int (0 : Int32))) (zz6 : Sta Z Z.heap kc1 "LO_BYTE_SHIFT" "I" (.int (8 : Int32))) :
    MetN l Z yn_20 jdk_52_method_83_code 2 (some .char) ws ({ frames := 3, cells := 0, slots := 0, locals := 40 } : Room) #[(.ref a0), (.int (2 : Int32))] h0 (Q_m20_81 Z a0 k_a0 jj0 l_a0 jj1 h0 n0) := by
 refine MetN.of (plainFor_of_name pn_3) ?_
 intro p e s m below meth c s₁ hret hx hby hml hown hnm hlk hZ X0 e0
 have N0 := Fr.nil n0
 rw [ef_m20_81 m a0]
 refine w_iloadN X0 hx (d20_0 hby) rfl (pc' := 1) rfl ?_
 refine w_aloadN X0 hx (d20_1 hby) rfl rfl (pc' := 2) rfl ?_
 refine w_static X0 hx (y := yn_21) hown (mvT hZ (wd_90 hw)) (mvT hZ (wd_91 hw)) (mvT hZ (wd_40 hw)) (mvT hZ (wd_92 hw)) (by decide) (backOf (W := 0) (rm_m21_82 l Z aZ hw [] a0 k_a0 jj0 l_a0 jj1 h0 n0 Z0 V_a0 zz2 zz3 O0 hP_1) hZ (wd_92 hw) (wd_40 hw) (by decide) (by decide)) (by rw [hml]; rfl) [(.int (2 : Int32)), (.ref a0)] (lenOf pd_19 rfl) rfl (Nat.le_of_eq rfl) (d20_2 hby) (fun _ _ => ⟨rfl, e0, (by decide : 0 + 0 ≤ _), (by decide : 0 + 0 ≤ _)⟩) (pc' := 5) rfl ?_
 rintro _ _ ⟨T20, L20, k20, n20⟩ X20 ⟨Lc20, hQ20, l20, y20, z20⟩
 dsimp only [Pt.U, Pt.locs, Pt.cells, Pt.slots] at X20 l20 y20 z20 hQ20 ⊢
 rw [l20, y20, z20] at X20
 obtain ⟨rfl, N20q, e20⟩ := hQ20
 have N21 := Fr.app N0 N20q
 show Runs _ _ _ _ (T20.setTop (mkF m 5 #[.val (.ref a0), .val (.int (2 : Int32))] []))
 refine w_aloadN X20 hx (d20_5 hby) rfl rfl (pc' := 6) rfl ?_
 refine w_iloadN X20 hx (d20_6 hby) rfl (pc' := 7) rfl ?_
 refine w_static X20 hx (y := yn_15) hown (mvT hZ (wd_64 hw)) (mvT hZ (wd_65 hw)) (mvT hZ (wd_40 hw)) (mvT hZ (wd_66 hw)) (by decide) (backOf (W := 0) (rm_m15_83 l Z aZ hw [] a0 k_a0 jj0 l_a0 h0 n0 Z0 zz4 O0 V_a0 hP_5 zz5 hP_6 zz6) hZ (wd_66 hw) (wd_40 hw) (by decide) (by decide)) (by rw [hml]; rfl) [(.ref a0), (.int (2 : Int32))] (lenOf pd_9 rfl) rfl (Nat.le_of_eq rfl) (d20_7 hby) (fun _ _ => ⟨rfl, e20, (by decide : 0 + 0 ≤ _), (by decide : 0 + 0 ≤ _)⟩) (pc' := 10) rfl ?_
 rintro _ _ ⟨T22, L22, k22, n22⟩ X22 ⟨Lc22, hQ22, l22, y22, z22⟩
 dsimp only [Pt.U, Pt.locs, Pt.cells, Pt.slots] at X22 l22 y22 z22 hQ22 ⊢
 rw [l22, y22, z22] at X22
 obtain ⟨rfl, N22q, e22⟩ := hQ22
 have N23 := Fr.app N21 N22q
 show Runs _ _ _ _ (T22.setTop (mkF m 10 #[.val (.ref a0), .val (.int (2 : Int32))] [(.int (((((gI l_a0 (4 : Int32)) &&& (255 : Int32)) <<< ((0 : Int32) &&& 31)) ||| (((gI l_a0 (5 : Int32)) &&& (255 : Int32)) <<< ((8 : Int32) &&& 31))).toUInt32.toUInt16.toUInt32.toInt32))]))
 exact w_done X22 hlk (v := some (.int (((((gI l_a0 (4 : Int32)) &&& (255 : Int32)) <<< ((0 : Int32) &&& 31)) ||| (((gI l_a0 (5 : Int32)) &&& (255 : Int32)) <<< ((8 : Int32) &&& 31))).toUInt32.toUInt16.toUInt32.toInt32))) e22 (fun h => by rw [hret] at h; cases h) (fun fs hr => retOut X22 hx hret (t := .char) (XT.narrow_c _) (Or.inl ⟨rfl, by simp, _, rfl⟩) (d20_10 hby) hr) (by decide) (by decide) (⟨rfl, N23, rfl⟩)
theorem ef_m18_77 (m : MethodId) (a0 : Addr)  : entryFrame m #[(.ref a0), (.int (2 : Int32))] 2 = mkF m 0 #[.val (.ref a0), .val (.int (2 : Int32))] [] := by first | (simp [entryFrame, mkF, argsToLocals, Value.category]; done) | rfl
def Q_m18_77 (Z : State) (a0 : Addr) (jj0 : Int32) (jj1 : Int32) (jj2 : Addr) (jj3 : ClassId) (jj4 : Int32) (jj5 : List Int32) (jj6 : Value) (h0 : Heap) (n0 : Nat) (v : Option Value) (h : Heap) (L : List Loc) : Prop := v = some (.int (chA jj1 jj5 (2 : Int32) (4 : Int32) (5 : Int32))) ∧ Fr n0 L ∧ h = h0
theorem rm_m18_77 (l : Launch) (Z : State) (aZ : Array Value) (hw : ∀ d ∈ tables_1, d.before aZ Z = true) (ws : List Jvm.Cond) (a0 : Addr) (jj0 : Int32) (jj1 : Int32) (jj2 : Addr) (jj3 : ClassId) (jj4 : Int32) (jj5 : List Int32) (jj6 : Value) (h0 : Heap) (n0 : Nat) (Z0 : n0 ≤ h0.size) (E_a0 : Exa Z h0 a0 kc0) (zz7 : Sta Z Z.heap kc0 "COMPACT_STRINGS" "Z" (.int jj0)) (O0 : Old Z n0 h0) (zz8 : Fld Z h0 a0 kc0 "coder" "B" (.int jj1)) (hP_4 : ¬ (jj0 = (0 : Int32))) (zz9 : Fld Z h0 a0 kc0 "value" "[B" (.ref jj2)) (zz10 : Arv Z h0 jj2 jj3 .byte jj4 (mI jj5) (.int (0 : Int32))) (hP_7 : (2 : Int32) < (jj4 >>> (jj1 &&& 31))) (zz11 : jj6.isRef = true) (zz12 : Sta Z Z.heap kc2 "SIOOBE_FORMATTER" "Ljava/util/function/BiFunction;" jj6) (zz13 : jj1 < (2 : Int32)) (zz14 : ¬ (jj1 < (0 : Int32))) (zz15 : Sta Z Z.heap kc1 "$assertionsDisabled" "Z" (.int (1 : Int32))) (zz16 : Sta Z Z.heap kc1 "HI_BYTE_SHIFT" "I" (.int (0 : Int32))) (zz17 : Sta Z Z.heap kc1 "LO_BYTE_SHIFT" "I" (.int (8 : Int32))) :
    MetN l Z yn_18 jdk_42_method_56_code 2 (some .char) ws ({ frames := 4, cells := 0, slots := 0, locals := 53 } : Room) #[(.ref a0), (.int (2 : Int32))] h0 (Q_m18_77 Z a0 jj0 jj1 jj2 jj3 jj4 jj5 jj6 h0 n0) := by
 refine MetN.of (plainFor_of_name pn_2) ?_
 intro p e s m below meth c s₁ hret hx hby hml hown hnm hlk hZ X0 e0
 have N0 := Fr.nil n0
 rw [ef_m18_77 m a0]
 refine w_aloadN X0 hx (d18_0 hby) rfl rfl (pc' := 1) rfl ?_
 obtain ⟨cq20, kq20, q20a, q20b, q20c⟩ := isOf hZ e0 E_a0
 refine w_virtual X0 hx (y := yn_19) (z := yn_19) hown (mvT hZ (wd_82 hw)) (mvT hZ (wd_83 hw)) (notFace_of_selects (args := #[]) (mvT hZ (wd_85 hw))) (mvT hZ (wd_85 hw)) (mvT hZ (wd_84 hw)) (by decide) (backOf (W := 0) (rm_m19_62 l Z aZ hw [] a0 jj0 jj1 h0 n0 Z0 zz7 O0 hP_4 zz8) hZ (wd_86 hw) (wd_14 hw) (by decide) (by decide)) q20a q20c (by rw [hml]; rfl) [] (lenOf pd_15 rfl) rfl (Nat.le_of_eq rfl) (d18_1 hby) (fun _ _ => ⟨rfl, e0, (by decide : 0 + 0 ≤ _), (by decide : 0 + 0 ≤ _)⟩) (pc' := 4) rfl ?_
 rintro _ _ ⟨T20, L20, k20, n20⟩ X20 ⟨Lc20, hQ20, l20, y20, z20⟩
 dsimp only [Pt.U, Pt.locs, Pt.cells, Pt.slots] at X20 l20 y20 z20 hQ20 ⊢
 rw [l20, y20, z20] at X20
 obtain ⟨rfl, N20q, e20⟩ := hQ20
 have N21 := Fr.app N0 N20q
 show Runs _ _ _ _ (T20.setTop (mkF m 4 #[.val (.ref a0), .val (.int (2 : Int32))] [(.int (if jj1 = (0 : Int32) then (1 : Int32) else (0 : Int32)))]))
 by_cases hc22 : jj1 = (0 : Int32)
 · have v23 : (if jj1 = (0 : Int32) then (1 : Int32) else (0 : Int32)) = (1 : Int32) := if_pos hc22
   refine w_ifN X20 hx (d18_4 hby) (feq (fun q => absurd (v23.symm.trans q) (by decide))).1 (pc' := 7) rfl ?_
   refine w_aloadN X20 hx (d18_7 hby) rfl rfl (pc' := 8) rfl ?_
   refine w_getF X20 hx "" hZ hown (Or.inl (wd_31 hw)) Via.refl e20 zz9 (d18_8 hby) (pc' := 11) rfl ?_
   intro T24 X24 e24
   refine w_iloadN X24 hx (d18_11 hby) rfl (pc' := 12) rfl ?_
   refine w_static X24 hx (y := yn_27) hown (mvT hZ (wd_110 hw)) (mvT hZ (wd_111 hw)) (mvT hZ (wd_112 hw)) (mvT hZ (wd_113 hw)) (by decide) (backOf (W := 0) (rm_m27_78 l Z aZ hw [] jj2 jj3 jj4 jj5 jj6 h0 n0 Z0 zz10 (own_len0 hc22 hP_7) zz11 zz12 O0) hZ (wd_113 hw) (wd_112 hw) (by decide) (by decide)) (by rw [hml]; rfl) [(.ref jj2), (.int (2 : Int32))] (lenOf pd_9 rfl) rfl (Nat.le_of_eq rfl) (d18_12 hby) (fun _ _ => ⟨rfl, e24, (by decide : 0 + 0 ≤ _), (by decide : 0 + 0 ≤ _)⟩) (pc' := 15) rfl ?_
   rintro _ _ ⟨T25, L25, k25, n25⟩ X25 ⟨Lc25, hQ25, l25, y25, z25⟩
   dsimp only [Pt.U, Pt.locs, Pt.cells, Pt.slots] at X25 l25 y25 z25 hQ25 ⊢
   rw [l25, y25, z25] at X25
   obtain ⟨rfl, N25q, e25⟩ := hQ25
   have N26 := Fr.app N21 N25q
   show Runs _ _ _ _ (T25.setTop (mkF m 15 #[.val (.ref a0), .val (.int (2 : Int32))] [(.int (((gI jj5 (2 : Int32)) &&& (255 : Int32)).toUInt32.toUInt16.toUInt32.toInt32))]))
   exact w_done X25 hlk (v := some (.int (((gI jj5 (2 : Int32)) &&& (255 : Int32)).toUInt32.toUInt16.toUInt32.toInt32))) e25 (fun h => by rw [hret] at h; cases h) (fun fs hr => retOut X25 hx hret (t := .char) (XT.narrow_c _) (Or.inl ⟨rfl, by simp, _, rfl⟩) (d18_15 hby) hr) (by decide) (by decide) (⟨(congrArg (fun z => some (Value.int z)) (show (((gI jj5 (2 : Int32)) &&& (255 : Int32)).toUInt32.toUInt16.toUInt32.toInt32) = (chA jj1 jj5 (2 : Int32) (4 : Int32) (5 : Int32)) from (if_pos hc22).symm)), N26, rfl⟩)
 · have v27 : (if jj1 = (0 : Int32) then (1 : Int32) else (0 : Int32)) = (0 : Int32) := if_neg hc22
   refine w_ifY X20 hx (d18_4 hby) (teq (v27.trans (by decide))).1 (pc' := 16) (by decide) (by decide) ?_
   refine w_aloadN X20 hx (d18_16 hby) rfl rfl (pc' := 17) rfl ?_
   refine w_getF X20 hx "" hZ hown (Or.inl (wd_31 hw)) Via.refl e20 zz9 (d18_17 hby) (pc' := 20) rfl ?_
   intro T28 X28 e28
   refine w_iloadN X28 hx (d18_20 hby) rfl (pc' := 21) rfl ?_
   refine w_static X28 hx (y := yn_20) hown (mvT hZ (wd_87 hw)) (mvT hZ (wd_88 hw)) (mvT hZ (wd_40 hw)) (mvT hZ (wd_89 hw)) (by decide) (backOf (W := 0) (rm_m20_81 l Z aZ hw [] jj2 jj3 jj4 jj5 jj6 h0 n0 Z0 zz10 (own_len1 (own_cd1 hc22 zz13 zz14) hP_7) zz11 zz12 O0 (own_half4 (own_len1 (own_cd1 hc22 zz13 zz14) hP_7)) (own_half5 (own_len1 (own_cd1 hc22 zz13 zz14) hP_7)) zz15 zz16 zz17) hZ (wd_89 hw) (wd_40 hw) (by decide) (by decide)) (by rw [hml]; rfl) [(.ref jj2), (.int (2 : Int32))] (lenOf pd_9 rfl) rfl (Nat.le_of_eq rfl) (d18_21 hby) (fun _ _ => ⟨rfl, e28, (by decide : 0 + 0 ≤ _), (by decide : 0 + 0 ≤ _)⟩) (pc' := 24) rfl ?_
   rintro _ _ ⟨T29, L29, k29, n29⟩ X29 ⟨Lc29, hQ29, l29, y29, z29⟩
   dsimp only [Pt.U, Pt.locs, Pt.cells, Pt.slots] at X29 l29 y29 z29 hQ29 ⊢
   rw [l29, y29, z29] at X29
   obtain ⟨rfl, N29q, e29⟩ := hQ29
   have N30 := Fr.app N21 N29q
   show Runs _ _ _ _ (T29.setTop (mkF m 24 #[.val (.ref a0), .val (.int (2 : Int32))] [(.int (((((gI jj5 (4 : Int32)) &&& (255 : Int32)) <<< ((0 : Int32) &&& 31)) ||| (((gI jj5 (5 : Int32)) &&& (255 : Int32)) <<< ((8 : Int32) &&& 31))).toUInt32.toUInt16.toUInt32.toInt32))]))
   exact w_done X29 hlk (v := some (.int (((((gI jj5 (4 : Int32)) &&& (255 : Int32)) <<< ((0 : Int32) &&& 31)) ||| (((gI jj5 (5 : Int32)) &&& (255 : Int32)) <<< ((8 : Int32) &&& 31))).toUInt32.toUInt16.toUInt32.toInt32))) e29 (fun h => by rw [hret] at h; cases h) (fun fs hr => retOut X29 hx hret (t := .char) (XT.narrow_c _) (Or.inl ⟨rfl, by simp, _, rfl⟩) (d18_24 hby) hr) (by decide) (by decide) (⟨(congrArg (fun z => some (Value.int z)) (show (((((gI jj5 (4 : Int32)) &&& (255 : Int32)) <<< ((0 : Int32) &&& 31)) ||| (((gI jj5 (5 : Int32)) &&& (255 : Int32)) <<< ((8 : Int32) &&& 31))).toUInt32.toUInt16.toUInt32.toInt32) = (chA jj1 jj5 (2 : Int32) (4 : Int32) (5 : Int32)) from (if_neg hc22).symm)), N30, rfl⟩)
theorem ef_m24_87 (m : MethodId) (p1 : Int32) (v2 : Value) (r_v2 : v2.isRef = true) : entryFrame m #[(.int (3 : Int32)), (.int p1), v2] 3 = mkF m 0 #[.val (.int (3 : Int32)), .val (.int p1), .val v2] [] := by
  rcases XT.refc r_v2 with rfl | ⟨z_v2, rfl⟩ <;> first | (simp [entryFrame, mkF, argsToLocals, Value.category]; done) | rfl
def Q_m24_87 (Z : State) (p1 : Int32) (v2 : Value) (h0 : Heap) (n0 : Nat) (v : Option Value) (h : Heap) (L : List Loc) : Prop := v = some (.int (3 : Int32)) ∧ Fr n0 L ∧ h = h0
theorem rm_m24_87 (l : Launch) (Z : State) (aZ : Array Value) (hw : ∀ d ∈ tables_1, d.before aZ Z = true) (ws : List Jvm.Cond) (p1 : Int32) (v2 : Value) (h0 : Heap) (n0 : Nat) (Z0 : n0 ≤ h0.size) (r_v2 : v2.isRef = true) (hP_1 : (3 : Int32) < p1) :
    MetN l Z yn_24 jdk_41_method_11_code 3 (some .int) ws ({ frames := 0, cells := 0, slots := 0, locals := 0 } : Room) #[(.int (3 : Int32)), (.int p1), v2] h0 (Q_m24_87 Z p1 v2 h0 n0) := by
 refine MetN.of (plainFor_of_name pn_4) ?_
 intro p e s m below meth c s₁ hret hx hby hml hown hnm hlk hZ X0 e0
 have N0 := Fr.nil n0
 rw [ef_m24_87 m p1 v2 r_v2]
 refine w_iloadN X0 hx (d24_0 hby) rfl (pc' := 1) rfl ?_
 refine w_ifN X0 hx (d24_1 hby) (flt (by decide : ¬ ((3 : Int32) < (0 : Int32)))).1 (pc' := 4) rfl ?_
 refine w_iloadN X0 hx (d24_4 hby) rfl (pc' := 5) rfl ?_
 refine w_iloadN X0 hx (d24_5 hby) rfl (pc' := 6) rfl ?_
 refine w_icY X0 hx (d24_6 hby) (tlt hP_1).1 (pc' := 16) (by decide) (by decide) ?_
 refine w_iloadN X0 hx (d24_16 hby) rfl (pc' := 17) rfl ?_
 exact w_done X0 hlk (v := some (.int (3 : Int32))) e0 (fun h => by rw [hret] at h; cases h) (fun fs hr => retI X0 hx hret (d24_17 hby) hr) (by decide) (by decide) (⟨rfl, N0, rfl⟩)
theorem ef_m23_86 (m : MethodId) (p1 : Int32)  : entryFrame m #[(.int (3 : Int32)), (.int p1)] 2 = mkF m 0 #[.val (.int (3 : Int32)), .val (.int p1)] [] := by first | (simp [entryFrame, mkF, argsToLocals, Value.category]; done) | rfl
def Q_m23_86 (Z : State) (p1 : Int32) (jj0 : Value) (h0 : Heap) (n0 : Nat) (v : Option Value) (h : Heap) (L : List Loc) : Prop := v = none ∧ Fr n0 L ∧ h = h0
theorem rm_m23_86 (l : Launch) (Z : State) (aZ : Array Value) (hw : ∀ d ∈ tables_1, d.before aZ Z = true) (ws : List Jvm.Cond) (p1 : Int32) (jj0 : Value) (h0 : Heap) (n0 : Nat) (Z0 : n0 ≤ h0.size) (zz1 : jj0.isRef = true) (zz2 : Sta Z Z.heap kc2 "SIOOBE_FORMATTER" "Ljava/util/function/BiFunction;" jj0) (O0 : Old Z n0 h0) (hP_3 : (3 : Int32) < p1) :
    MetN l Z yn_23 jdk_42_method_155_code 2 none ws ({ frames := 1, cells := 0, slots := 0, locals := 14 } : Room) #[(.int (3 : Int32)), (.int p1)] h0 (Q_m23_86 Z p1 jj0 h0 n0) := by
 refine MetN.of (plainFor_of_name pn_2) ?_
 intro p e s m below meth c s₁ hret hx hby hml hown hnm hlk hZ X0 e0
 have N0 := Fr.nil n0
 rw [ef_m23_86 m p1]
 refine w_iloadN X0 hx (d23_0 hby) rfl (pc' := 1) rfl ?_
 refine w_iloadN X0 hx (d23_1 hby) rfl (pc' := 2) rfl ?_
 refine w_getS X0 hx "" hZ hown (Or.inl (wd_99 hw)) Via.refl e0 (zz2.ext O0.2) (d23_2 hby) (pc' := 5) rfl ?_
 intro T20 X20 e20
 refine w_static X20 hx (y := yn_24) hown (mvT hZ (wd_101 hw)) (mvT hZ (wd_102 hw)) (mvT hZ (wd_100 hw)) (mvT hZ (wd_103 hw)) (by decide) (backOf (W := 0) (rm_m24_87 l Z aZ hw [] p1 jj0 h0 n0 Z0 zz1 hP_3) hZ (wd_103 hw) (wd_100 hw) (by decide) (by decide)) (by rw [hml]; rfl) [(.int (3 : Int32)), (.int p1), jj0] (lenOf pd_16 rfl) rfl (Nat.le_of_eq rfl) (d23_5 hby) (fun _ _ => ⟨rfl, e20, (by decide : 0 + 0 ≤ _), (by decide : 0 + 0 ≤ _)⟩) (pc' := 8) rfl ?_
 rintro _ _ ⟨T21, L21, k21, n21⟩ X21 ⟨Lc21, hQ21, l21, y21, z21⟩
 dsimp only [Pt.U, Pt.locs, Pt.cells, Pt.slots] at X21 l21 y21 z21 hQ21 ⊢
 rw [l21, y21, z21] at X21
 obtain ⟨rfl, N21q, e21⟩ := hQ21
 have N22 := Fr.app N0 N21q
 show Runs _ _ _ _ (T21.setTop (mkF m 8 #[.val (.int (3 : Int32)), .val (.int p1)] [(.int (3 : Int32))]))
 refine w_pop X21 hx (d23_8 hby) rfl (pc' := 9) rfl ?_
 exact w_done X21 hlk (v := none) e21 (fun _ => rfl) (fun fs hr => X21.returnOut hx hret (d23_9 hby) hr) (by decide) (by decide) (⟨rfl, N22, rfl⟩)
theorem ef_m27_85 (m : MethodId) (a0 : Addr)  : entryFrame m #[(.ref a0), (.int (3 : Int32))] 2 = mkF m 0 #[.val (.ref a0), .val (.int (3 : Int32))] [] := by first | (simp [entryFrame, mkF, argsToLocals, Value.category]; done) | rfl
def Q_m27_85 (Z : State) (a0 : Addr) (k_a0 : ClassId) (jj0 : Int32) (l_a0 : List Int32) (jj1 : Value) (h0 : Heap) (n0 : Nat) (v : Option Value) (h : Heap) (L : List Loc) : Prop := v = some (.int (((gI l_a0 (3 : Int32)) &&& (255 : Int32)).toUInt32.toUInt16.toUInt32.toInt32)) ∧ Fr n0 L ∧ h = h0
theorem rm_m27_85 (l : Launch) (Z : State) (aZ : Array Value) (hw : ∀ d ∈ tables_1, d.before aZ Z = true) (ws : List Jvm.Cond) (a0 : Addr) (k_a0 : ClassId) (jj0 : Int32) (l_a0 : List Int32) (jj1 : Value) (h0 : Heap) (n0 : Nat) (Z0 : n0 ≤ h0.size) (V_a0 : Arv Z h0 a0 k_a0 .byte jj0 (mI l_a0) (.int (0 : Int32))) (hP_1 : (3 : Int32) < jj0) (zz2 : jj1.isRef = true) (zz3 : Sta Z Z.heap kc2 "SIOOBE_FORMATTER" "Ljava/util/function/BiFunction;" jj1) (O0 : Old Z n0 h0) :
    MetN l Z yn_27 jdk_43_method_2_code 2 (some .char) ws ({ frames := 2, cells := 0, slots := 0, locals := 27 } : Room) #[(.ref a0), (.int (3 : Int32))] h0 (Q_m27_85 Z a0 k_a0 jj0 l_a0 jj1 h0 n0) := by
 refine MetN.of (plainFor_of_name pn_5) ?_
 intro p e s m below meth c s₁ hret hx hby hml hown hnm hlk hZ X0 e0
 have N0 := Fr.nil n0
 rw [ef_m27_85 m a0]
 refine w_iloadN X0 hx (d27_0 hby) rfl (pc' := 1) rfl ?_
 refine w_aloadN X0 hx (d27_1 hby) rfl rfl (pc' := 2) rfl ?_
 refine w_alen X0 hx hZ e0 V_a0 (d27_2 hby) (pc' := 3) rfl ?_
 refine w_static X0 hx (y := yn_23) hown (mvT hZ (wd_114 hw)) (mvT hZ (wd_97 hw)) (mvT hZ (wd_14 hw)) (mvT hZ (wd_98 hw)) (by decide) (backOf (W := 0) (rm_m23_86 l Z aZ hw [] jj0 jj1 h0 n0 Z0 zz2 zz3 O0 hP_1) hZ (wd_98 hw) (wd_14 hw) (by decide) (by decide)) (by rw [hml]; rfl) [(.int (3 : Int32)), (.int jj0)] (lenOf pd_17 rfl) rfl (Nat.le_of_eq rfl) (d27_3 hby) (fun _ _ => ⟨rfl, e0, (by decide : 0 + 0 ≤ _), (by decide : 0 + 0 ≤ _)⟩) (pc' := 6) rfl ?_
 rintro _ _ ⟨T20, L20, k20, n20⟩ X20 ⟨Lc20, hQ20, l20, y20, z20⟩
 dsimp only [Pt.U, Pt.locs, Pt.cells, Pt.slots] at X20 l20 y20 z20 hQ20 ⊢
 rw [l20, y20, z20] at X20
 obtain ⟨rfl, N20q, e20⟩ := hQ20
 have N21 := Fr.app N0 N20q
 show Runs _ _ _ _ (T20.setTop (mkF m 6 #[.val (.ref a0), .val (.int (3 : Int32))] []))
 refine w_aloadN X20 hx (d27_6 hby) rfl rfl (pc' := 7) rfl ?_
 refine w_iloadN X20 hx (d27_7 hby) rfl (pc' := 8) rfl ?_
 obtain ⟨clu22, Aru22, qu22, Su22, Nu22, Hu22, Gu22⟩ := id V_a0
 have hinu22 := inb_of (j := (3 : Int32)) Su22 ⟨(by decide : ¬ ((3 : Int32) < (0 : Int32))), hP_1⟩
 refine w_baload X20 hx hZ e20 Aru22 hinu22 (Hu22.at hinu22 (own_gI l_a0 (3 : Int32))) (d27_8 hby) (pc' := 9) rfl ?_
 refine w_sipush X20 hx (d27_9 hby) (v := (255 : Int32)) rfl (pc' := 12) rfl ?_
 refine w_iand X20 hx (d27_12 hby) (pc' := 13) rfl ?_
 refine w_i2c X20 hx (d27_13 hby) (pc' := 14) rfl ?_
 exact w_done X20 hlk (v := some (.int (((gI l_a0 (3 : Int32)) &&& (255 : Int32)).toUInt32.toUInt16.toUInt32.toInt32))) e20 (fun h => by rw [hret] at h; cases h) (fun fs hr => retOut X20 hx hret (t := .char) (XT.narrow_c _) (Or.inl ⟨rfl, by simp, _, rfl⟩) (d27_14 hby) hr) (by decide) (by decide) (⟨rfl, N21, rfl⟩)
theorem ef_m21_89 (m : MethodId) (a1 : Addr)  : entryFrame m #[(.int (3 : Int32)), (.ref a1)] 2 = mkF m 0 #[.val (.int (3 : Int32)), .val (.ref a1)] [] := by first | (simp [entryFrame, mkF, argsToLocals, Value.category]; done) | rfl
def Q_m21_89 (Z : State) (a1 : Addr) (k_a1 : ClassId) (jj0 : Int32) (l_a1 : List Int32) (jj1 : Value) (h0 : Heap) (n0 : Nat) (v : Option Value) (h : Heap) (L : List Loc) : Prop := v = none ∧ Fr n0 L ∧ h = h0
theorem rm_m21_89 (l : Launch) (Z : State) (aZ : Array Value) (hw : ∀ d ∈ tables_1, d.before aZ Z = true) (ws : List Jvm.Cond) (a1 : Addr) (k_a1 : ClassId) (jj0 : Int32) (l_a1 : List Int32) (jj1 : Value) (h0 : Heap) (n0 : Nat) (Z0 : n0 ≤ h0.size) (V_a1 : Arv Z h0 a1 k_a1 .byte jj0 (mI l_a1) (.int (0 : Int32))) (zz2 : jj1.isRef = true) (zz3 : Sta Z Z.heap kc2 "SIOOBE_FORMATTER" "Ljava/util/function/BiFunction;" jj1) (O0 : Old Z n0 h0) (hP_4 : (3 : Int32) < (jj0 >>> ((1 : Int32) &&& 31))) :
    MetN l Z yn_21 jdk_52_method_91_code 2 none ws ({ frames := 2, cells := 0, slots := 0, locals := 27 } : Room) #[(.int (3 : Int32)), (.ref a1)] h0 (Q_m21_89 Z a1 k_a1 jj0 l_a1 jj1 h0 n0) := by
 refine MetN.of (plainFor_of_name pn_3) ?_
 intro p e s m below meth c s₁ hret hx hby hml hown hnm hlk hZ X0 e0
 have N0 := Fr.nil n0
 rw [ef_m21_89 m a1]
 refine w_iloadN X0 hx (d21_0 hby) rfl (pc' := 1) rfl ?_
 refine w_aloadN X0 hx (d21_1 hby) rfl rfl (pc' := 2) rfl ?_
 refine w_static X0 hx (y := yn_22) hown (mvT hZ (wd_93 hw)) (mvT hZ (wd_94 hw)) (mvT hZ (wd_40 hw)) (mvT hZ (wd_95 hw)) (by decide) (backOf (W := 1) (rm_m22_68 l Z aZ hw [] a1 k_a1 jj0 l_a1 h0 n0 Z0 V_a1) hZ (wd_95 hw) (wd_40 hw) (by decide) (by decide)) (by rw [hml]; rfl) [(.ref a1)] (lenOf pd_18 rfl) rfl (Nat.le_of_eq rfl) (d21_2 hby) (fun _ _ => ⟨rfl, e0, (by decide : 0 + 0 ≤ _), (by decide : 0 + 0 ≤ _)⟩) (pc' := 5) rfl ?_
 rintro _ _ ⟨T20, L20, k20, n20⟩ X20 ⟨Lc20, hQ20, l20, y20, z20⟩
 dsimp only [Pt.U, Pt.locs, Pt.cells, Pt.slots] at X20 l20 y20 z20 hQ20 ⊢
 rw [l20, y20, z20] at X20
 obtain ⟨rfl, N20q, e20⟩ := hQ20
 have N21 := Fr.app N0 N20q
 show Runs _ _ _ _ (T20.setTop (mkF m 5 #[.val (.int (3 : Int32)), .val (.ref a1)] [(.int (jj0 >>> ((1 : Int32) &&& 31))), (.int (3 : Int32))]))
 refine w_static X20 hx (y := yn_23) hown (mvT hZ (wd_96 hw)) (mvT hZ (wd_97 hw)) (mvT hZ (wd_14 hw)) (mvT hZ (wd_98 hw)) (by decide) (backOf (W := 0) (rm_m23_86 l Z aZ hw [] (jj0 >>> ((1 : Int32) &&& 31)) jj1 h0 n0 Z0 zz2 zz3 O0 hP_4) hZ (wd_98 hw) (wd_14 hw) (by decide) (by decide)) (by rw [hml]; rfl) [(.int (3 : Int32)), (.int (jj0 >>> ((1 : Int32) &&& 31)))] (lenOf pd_17 rfl) rfl (Nat.le_of_eq rfl) (d21_5 hby) (fun _ _ => ⟨rfl, e20, (by decide : 0 + 0 ≤ _), (by decide : 0 + 0 ≤ _)⟩) (pc' := 8) rfl ?_
 rintro _ _ ⟨T22, L22, k22, n22⟩ X22 ⟨Lc22, hQ22, l22, y22, z22⟩
 dsimp only [Pt.U, Pt.locs, Pt.cells, Pt.slots] at X22 l22 y22 z22 hQ22 ⊢
 rw [l22, y22, z22] at X22
 obtain ⟨rfl, N22q, e22⟩ := hQ22
 have N23 := Fr.app N21 N22q
 show Runs _ _ _ _ (T22.setTop (mkF m 8 #[.val (.int (3 : Int32)), .val (.ref a1)] []))
 exact w_done X22 hlk (v := none) e22 (fun _ => rfl) (fun fs hr => X22.returnOut hx hret (d21_8 hby) hr) (by decide) (by decide) (⟨rfl, N23, rfl⟩)
theorem ef_m15_90 (m : MethodId) (a0 : Addr)  : entryFrame m #[(.ref a0), (.int (3 : Int32))] 2 = mkF m 0 #[.val (.ref a0), .val (.int (3 : Int32))] [] := by first | (simp [entryFrame, mkF, argsToLocals, Value.category]; done) | rfl
def Q_m15_90 (Z : State) (a0 : Addr) (k_a0 : ClassId) (jj0 : Int32) (l_a0 : List Int32) (h0 : Heap) (n0 : Nat) (v : Option Value) (h : Heap) (L : List Loc) : Prop := v = some (.int (((((gI l_a0 (6 : Int32)) &&& (255 : Int32)) <<< ((0 : Int32) &&& 31)) ||| (((gI l_a0 (7 : Int32)) &&& (255 : Int32)) <<< ((8 : Int32) &&& 31))).toUInt32.toUInt16.toUInt32.toInt32)) ∧ Fr n0 L ∧ h = h0
theorem rm_m15_90 (l : Launch) (Z : State) (aZ : Array Value) (hw : ∀ d ∈ tables_1, d.before aZ Z = true) (ws : List Jvm.Cond) (a0 : Addr) (k_a0 : ClassId) (jj0 : Int32) (l_a0 : List Int32) (h0 : Heap) (n0 : Nat) (Z0 : n0 ≤ h0.size) (zz1 : Sta Z Z.heap kc1 "$assertionsDisabled" "Z" (.int (1 : Int32))) (O0 : Old Z n0 h0) (V_a0 : Arv Z h0 a0 k_a0 .byte jj0 (mI l_a0) (.int (0 : Int32))) (hP_3 : (6 : Int32) < jj0) (zz2 : Sta Z Z.heap kc1 "HI_BYTE_SHIFT" "I" (.int (0 : Int32))) (hP_5 : (7 : Int32) < jj0) (zz3 : Sta Z Z.heap kc1 "LO_BYTE_SHIFT" "I" (.int (8 : Int32))) :
    MetN l Z yn_15 jdk_52_method_5_code 2 (some .char) ws ({ frames := 0, cells := 0, slots := 0, locals := 0 } : Room) #[(.ref a0), (.int (3 : Int32))] h0 (Q_m15_90 Z a0 k_a0 jj0 l_a0 h0 n0) := by
 refine MetN.of (plainFor_of_name pn_3) ?_
 intro p e s m below meth c s₁ hret hx hby hml hown hnm hlk hZ X0 e0
 have N0 := Fr.nil n0
 rw [ef_m15_90 m a0]
 refine w_getS X0 hx "" hZ hown (Or.inl (wd_61 hw)) Via.refl e0 (zz1.ext O0.2) (d15_0 hby) (pc' := 3) rfl ?_
 intro T20 X20 e20
 refine w_ifY X20 hx (d15_3 hby) (feq (by decide : ¬ ((1 : Int32) = (0 : Int32)))).2 (pc' := 28) (by decide) (by decide) ?_
 refine w_iloadN X20 hx (d15_28 hby) rfl (pc' := 29) rfl ?_
 refine w_iconst X20 hx (d15_29 hby) (v := (1 : Int32)) rfl (pc' := 30) rfl ?_
 refine w_ishl X20 hx (d15_30 hby) (pc' := 31) rfl ?_
 rw [show ((3 : Int32) <<< ((1 : Int32) &&& 31)) = (6 : Int32) from by decide]
 refine w_istoreN X20 hx (d15_31 hby) (L' := #[.val (.ref a0), .val (.int (6 : Int32))]) rfl (pc' := 32) rfl ?_
 refine w_aloadN X20 hx (d15_32 hby) rfl rfl (pc' := 33) rfl ?_
 refine w_iloadN X20 hx (d15_33 hby) rfl (pc' := 34) rfl ?_
 refine w_iinc X20 hx (d15_34 hby) (v := (1 : Int32)) rfl rfl (L' := #[.val (.ref a0), .val (.int ((6 : Int32) + (1 : Int32)))]) rfl (pc' := 37) rfl ?_
 rw [show ((6 : Int32) + (1 : Int32)) = (7 : Int32) from by decide]
 obtain ⟨clu21, Aru21, qu21, Su21, Nu21, Hu21, Gu21⟩ := id V_a0
 have hinu21 := inb_of (j := (6 : Int32)) Su21 ⟨(by decide : ¬ ((6 : Int32) < (0 : Int32))), hP_3⟩
 refine w_baload X20 hx hZ e20 Aru21 hinu21 (Hu21.at hinu21 (own_gI l_a0 (6 : Int32))) (d15_37 hby) (pc' := 38) rfl ?_
 refine w_sipush X20 hx (d15_38 hby) (v := (255 : Int32)) rfl (pc' := 41) rfl ?_
 refine w_iand X20 hx (d15_41 hby) (pc' := 42) rfl ?_
 refine w_getS X20 hx "" hZ hown (Or.inl (wd_62 hw)) Via.refl e20 (zz2.ext O0.2) (d15_42 hby) (pc' := 45) rfl ?_
 intro T22 X22 e22
 refine w_ishl X22 hx (d15_45 hby) (pc' := 46) rfl ?_
 refine w_aloadN X22 hx (d15_46 hby) rfl rfl (pc' := 47) rfl ?_
 refine w_iloadN X22 hx (d15_47 hby) rfl (pc' := 48) rfl ?_
 obtain ⟨clu23, Aru23, qu23, Su23, Nu23, Hu23, Gu23⟩ := id V_a0
 have hinu23 := inb_of (j := (7 : Int32)) Su23 ⟨(by decide : ¬ ((7 : Int32) < (0 : Int32))), hP_5⟩
 refine w_baload X22 hx hZ e22 Aru23 hinu23 (Hu23.at hinu23 (own_gI l_a0 (7 : Int32))) (d15_48 hby) (pc' := 49) rfl ?_
 refine w_sipush X22 hx (d15_49 hby) (v := (255 : Int32)) rfl (pc' := 52) rfl ?_
 refine w_iand X22 hx (d15_52 hby) (pc' := 53) rfl ?_
 refine w_getS X22 hx "" hZ hown (Or.inl (wd_63 hw)) Via.refl e22 (zz3.ext O0.2) (d15_53 hby) (pc' := 56) rfl ?_
 intro T24 X24 e24
 refine w_ishl X24 hx (d15_56 hby) (pc' := 57) rfl ?_
 refine w_ior X24 hx (d15_57 hby) (pc' := 58) rfl ?_
 refine w_i2c X24 hx (d15_58 hby) (pc' := 59) rfl ?_
 exact w_done X24 hlk (v := some (.int (((((gI l_a0 (6 : Int32)) &&& (255 : Int32)) <<< ((0 : Int32) &&& 31)) ||| (((gI l_a0 (7 : Int32)) &&& (255 : Int32)) <<< ((8 : Int32) &&& 31))).toUInt32.toUInt16.toUInt32.toInt32))) e24 (fun h => by rw [hret] at h; cases h) (fun fs hr => retOut X24 hx hret (t := .char) (XT.narrow_c _) (Or.inl ⟨rfl, by simp, _, rfl⟩) (d15_59 hby) hr) (by decide) (by decide) (⟨rfl, N0, rfl⟩)
theorem ef_m20_88 (m : MethodId) (a0 : Addr)  : entryFrame m #[(.ref a0), (.int (3 : Int32))] 2 = mkF m 0 #[.val (.ref a0), .val (.int (3 : Int32))] [] := by first | (simp [entryFrame, mkF, argsToLocals, Value.category]; done) | rfl
def Q_m20_88 (Z : State) (a0 : Addr) (k_a0 : ClassId) (jj0 : Int32) (l_a0 : List Int32) (jj1 : Value) (h0 : Heap) (n0 : Nat) (v : Option Value) (h : Heap) (L : List Loc) : Prop := v = some (.int (((((gI l_a0 (6 : Int32)) &&& (255 : Int32)) <<< ((0 : Int32) &&& 31)) ||| (((gI l_a0 (7 : Int32)) &&& (255 : Int32)) <<< ((8 : Int32) &&& 31))).toUInt32.toUInt16.toUInt32.toInt32)) ∧ Fr n0 L ∧ h = h0
theorem rm_m20_88 (l : Launch) (Z : State) (aZ : Array Value) (hw : ∀ d ∈ tables_1, d.before aZ Z = true) (ws : List Jvm.Cond) (a0 : Addr) (k_a0 : ClassId) (jj0 : Int32) (l_a0 : List Int32) (jj1 : Value) (h0 : Heap) (n0 : Nat) (Z0 : n0 ≤ h0.size) (V_a0 : Arv Z h0 a0 k_a0 .byte jj0 (mI l_a0) (.int (0 : Int32))) (hP_1 : (3 : Int32) < (jj0 >>> ((1 : Int32) &&& 31))) (zz2 : jj1.isRef = true) (zz3 : Sta Z Z.heap kc2 "SIOOBE_FORMATTER" "Ljava/util/function/BiFunction;" jj1) (O0 : Old Z n0 h0) (hP_5 : (6 : Int32) < jj0) (hP_6 : (7 : Int32) < jj0) (zz4 : Sta Z Z.heap kc1 "$assertionsDisabled" "Z" (.int (1 : Int32))) (zz5 : Sta Z Z.heap kc1 "HI_BYTE_SHIFT" "I" (.int (0 : Int32))) (zz6 : Sta Z Z.heap kc1 "LO_BYTE_SHIFT" "I" (.int (8 : Int32))) :
    MetN l Z yn_20 jdk_52_method_83_code 2 (some .char) ws ({ frames := 3, cells := 0, slots := 0, locals := 40 } : Room) #[(.ref a0), (.int (3 : Int32))] h0 (Q_m20_88 Z a0 k_a0 jj0 l_a0 jj1 h0 n0) := by
 refine MetN.of (plainFor_of_name pn_3) ?_
 intro p e s m below meth c s₁ hret hx hby hml hown hnm hlk hZ X0 e0
 have N0 := Fr.nil n0
 rw [ef_m20_88 m a0]
 refine w_iloadN X0 hx (d20_0 hby) rfl (pc' := 1) rfl ?_
 refine w_aloadN X0 hx (d20_1 hby) rfl rfl (pc' := 2) rfl ?_
 refine w_static X0 hx (y := yn_21) hown (mvT hZ (wd_90 hw)) (mvT hZ (wd_91 hw)) (mvT hZ (wd_40 hw)) (mvT hZ (wd_92 hw)) (by decide) (backOf (W := 0) (rm_m21_89 l Z aZ hw [] a0 k_a0 jj0 l_a0 jj1 h0 n0 Z0 V_a0 zz2 zz3 O0 hP_1) hZ (wd_92 hw) (wd_40 hw) (by decide) (by decide)) (by rw [hml]; rfl) [(.int (3 : Int32)), (.ref a0)] (lenOf pd_19 rfl) rfl (Nat.le_of_eq rfl) (d20_2 hby) (fun _ _ => ⟨rfl, e0, (by decide : 0 + 0 ≤ _), (by decide : 0 + 0 ≤ _)⟩) (pc' := 5) rfl ?_
 rintro _ _ ⟨T20, L20, k20, n20⟩ X20 ⟨Lc20, hQ20, l20, y20, z20⟩
 dsimp only [Pt.U, Pt.locs, Pt.cells, Pt.slots] at X20 l20 y20 z20 hQ20 ⊢
 rw [l20, y20, z20] at X20
 obtain ⟨rfl, N20q, e20⟩ := hQ20
 have N21 := Fr.app N0 N20q
 show Runs _ _ _ _ (T20.setTop (mkF m 5 #[.val (.ref a0), .val (.int (3 : Int32))] []))
 refine w_aloadN X20 hx (d20_5 hby) rfl rfl (pc' := 6) rfl ?_
 refine w_iloadN X20 hx (d20_6 hby) rfl (pc' := 7) rfl ?_
 refine w_static X20 hx (y := yn_15) hown (mvT hZ (wd_64 hw)) (mvT hZ (wd_65 hw)) (mvT hZ (wd_40 hw)) (mvT hZ (wd_66 hw)) (by decide) (backOf (W := 0) (rm_m15_90 l Z aZ hw [] a0 k_a0 jj0 l_a0 h0 n0 Z0 zz4 O0 V_a0 hP_5 zz5 hP_6 zz6) hZ (wd_66 hw) (wd_40 hw) (by decide) (by decide)) (by rw [hml]; rfl) [(.ref a0), (.int (3 : Int32))] (lenOf pd_9 rfl) rfl (Nat.le_of_eq rfl) (d20_7 hby) (fun _ _ => ⟨rfl, e20, (by decide : 0 + 0 ≤ _), (by decide : 0 + 0 ≤ _)⟩) (pc' := 10) rfl ?_
 rintro _ _ ⟨T22, L22, k22, n22⟩ X22 ⟨Lc22, hQ22, l22, y22, z22⟩
 dsimp only [Pt.U, Pt.locs, Pt.cells, Pt.slots] at X22 l22 y22 z22 hQ22 ⊢
 rw [l22, y22, z22] at X22
 obtain ⟨rfl, N22q, e22⟩ := hQ22
 have N23 := Fr.app N21 N22q
 show Runs _ _ _ _ (T22.setTop (mkF m 10 #[.val (.ref a0), .val (.int (3 : Int32))] [(.int (((((gI l_a0 (6 : Int32)) &&& (255 : Int32)) <<< ((0 : Int32) &&& 31)) ||| (((gI l_a0 (7 : Int32)) &&& (255 : Int32)) <<< ((8 : Int32) &&& 31))).toUInt32.toUInt16.toUInt32.toInt32))]))
 exact w_done X22 hlk (v := some (.int (((((gI l_a0 (6 : Int32)) &&& (255 : Int32)) <<< ((0 : Int32) &&& 31)) ||| (((gI l_a0 (7 : Int32)) &&& (255 : Int32)) <<< ((8 : Int32) &&& 31))).toUInt32.toUInt16.toUInt32.toInt32))) e22 (fun h => by rw [hret] at h; cases h) (fun fs hr => retOut X22 hx hret (t := .char) (XT.narrow_c _) (Or.inl ⟨rfl, by simp, _, rfl⟩) (d20_10 hby) hr) (by decide) (by decide) (⟨rfl, N23, rfl⟩)
theorem ef_m18_84 (m : MethodId) (a0 : Addr)  : entryFrame m #[(.ref a0), (.int (3 : Int32))] 2 = mkF m 0 #[.val (.ref a0), .val (.int (3 : Int32))] [] := by first | (simp [entryFrame, mkF, argsToLocals, Value.category]; done) | rfl
def Q_m18_84 (Z : State) (a0 : Addr) (jj0 : Int32) (jj1 : Int32) (jj2 : Addr) (jj3 : ClassId) (jj4 : Int32) (jj5 : List Int32) (jj6 : Value) (h0 : Heap) (n0 : Nat) (v : Option Value) (h : Heap) (L : List Loc) : Prop := v = some (.int (chA jj1 jj5 (3 : Int32) (6 : Int32) (7 : Int32))) ∧ Fr n0 L ∧ h = h0
theorem rm_m18_84 (l : Launch) (Z : State) (aZ : Array Value) (hw : ∀ d ∈ tables_1, d.before aZ Z = true) (ws : List Jvm.Cond) (a0 : Addr) (jj0 : Int32) (jj1 : Int32) (jj2 : Addr) (jj3 : ClassId) (jj4 : Int32) (jj5 : List Int32) (jj6 : Value) (h0 : Heap) (n0 : Nat) (Z0 : n0 ≤ h0.size) (E_a0 : Exa Z h0 a0 kc0) (zz7 : Sta Z Z.heap kc0 "COMPACT_STRINGS" "Z" (.int jj0)) (O0 : Old Z n0 h0) (zz8 : Fld Z h0 a0 kc0 "coder" "B" (.int jj1)) (hP_4 : ¬ (jj0 = (0 : Int32))) (zz9 : Fld Z h0 a0 kc0 "value" "[B" (.ref jj2)) (zz10 : Arv Z h0 jj2 jj3 .byte jj4 (mI jj5) (.int (0 : Int32))) (hP_7 : (3 : Int32) < (jj4 >>> (jj1 &&& 31))) (zz11 : jj6.isRef = true) (zz12 : Sta Z Z.heap kc2 "SIOOBE_FORMATTER" "Ljava/util/function/BiFunction;" jj6) (zz13 : jj1 < (2 : Int32)) (zz14 : ¬ (jj1 < (0 : Int32))) (zz15 : Sta Z Z.heap kc1 "$assertionsDisabled" "Z" (.int (1 : Int32))) (zz16 : Sta Z Z.heap kc1 "HI_BYTE_SHIFT" "I" (.int (0 : Int32))) (zz17 : Sta Z Z.heap kc1 "LO_BYTE_SHIFT" "I" (.int (8 : Int32))) :
    MetN l Z yn_18 jdk_42_method_56_code 2 (some .char) ws ({ frames := 4, cells := 0, slots := 0, locals := 53 } : Room) #[(.ref a0), (.int (3 : Int32))] h0 (Q_m18_84 Z a0 jj0 jj1 jj2 jj3 jj4 jj5 jj6 h0 n0) := by
 refine MetN.of (plainFor_of_name pn_2) ?_
 intro p e s m below meth c s₁ hret hx hby hml hown hnm hlk hZ X0 e0
 have N0 := Fr.nil n0
 rw [ef_m18_84 m a0]
 refine w_aloadN X0 hx (d18_0 hby) rfl rfl (pc' := 1) rfl ?_
 obtain ⟨cq20, kq20, q20a, q20b, q20c⟩ := isOf hZ e0 E_a0
 refine w_virtual X0 hx (y := yn_19) (z := yn_19) hown (mvT hZ (wd_82 hw)) (mvT hZ (wd_83 hw)) (notFace_of_selects (args := #[]) (mvT hZ (wd_85 hw))) (mvT hZ (wd_85 hw)) (mvT hZ (wd_84 hw)) (by decide) (backOf (W := 0) (rm_m19_62 l Z aZ hw [] a0 jj0 jj1 h0 n0 Z0 zz7 O0 hP_4 zz8) hZ (wd_86 hw) (wd_14 hw) (by decide) (by decide)) q20a q20c (by rw [hml]; rfl) [] (lenOf pd_15 rfl) rfl (Nat.le_of_eq rfl) (d18_1 hby) (fun _ _ => ⟨rfl, e0, (by decide : 0 + 0 ≤ _), (by decide : 0 + 0 ≤ _)⟩) (pc' := 4) rfl ?_
 rintro _ _ ⟨T20, L20, k20, n20⟩ X20 ⟨Lc20, hQ20, l20, y20, z20⟩
 dsimp only [Pt.U, Pt.locs, Pt.cells, Pt.slots] at X20 l20 y20 z20 hQ20 ⊢
 rw [l20, y20, z20] at X20
 obtain ⟨rfl, N20q, e20⟩ := hQ20
 have N21 := Fr.app N0 N20q
 show Runs _ _ _ _ (T20.setTop (mkF m 4 #[.val (.ref a0), .val (.int (3 : Int32))] [(.int (if jj1 = (0 : Int32) then (1 : Int32) else (0 : Int32)))]))
 by_cases hc22 : jj1 = (0 : Int32)
 · have v23 : (if jj1 = (0 : Int32) then (1 : Int32) else (0 : Int32)) = (1 : Int32) := if_pos hc22
   refine w_ifN X20 hx (d18_4 hby) (feq (fun q => absurd (v23.symm.trans q) (by decide))).1 (pc' := 7) rfl ?_
   refine w_aloadN X20 hx (d18_7 hby) rfl rfl (pc' := 8) rfl ?_
   refine w_getF X20 hx "" hZ hown (Or.inl (wd_31 hw)) Via.refl e20 zz9 (d18_8 hby) (pc' := 11) rfl ?_
   intro T24 X24 e24
   refine w_iloadN X24 hx (d18_11 hby) rfl (pc' := 12) rfl ?_
   refine w_static X24 hx (y := yn_27) hown (mvT hZ (wd_110 hw)) (mvT hZ (wd_111 hw)) (mvT hZ (wd_112 hw)) (mvT hZ (wd_113 hw)) (by decide) (backOf (W := 0) (rm_m27_85 l Z aZ hw [] jj2 jj3 jj4 jj5 jj6 h0 n0 Z0 zz10 (own_len0 hc22 hP_7) zz11 zz12 O0) hZ (wd_113 hw) (wd_112 hw) (by decide) (by decide)) (by rw [hml]; rfl) [(.ref jj2), (.int (3 : Int32))] (lenOf pd_9 rfl) rfl (Nat.le_of_eq rfl) (d18_12 hby) (fun _ _ => ⟨rfl, e24, (by decide : 0 + 0 ≤ _), (by decide : 0 + 0 ≤ _)⟩) (pc' := 15) rfl ?_
   rintro _ _ ⟨T25, L25, k25, n25⟩ X25 ⟨Lc25, hQ25, l25, y25, z25⟩
   dsimp only [Pt.U, Pt.locs, Pt.cells, Pt.slots] at X25 l25 y25 z25 hQ25 ⊢
   rw [l25, y25, z25] at X25
   obtain ⟨rfl, N25q, e25⟩ := hQ25
   have N26 := Fr.app N21 N25q
   show Runs _ _ _ _ (T25.setTop (mkF m 15 #[.val (.ref a0), .val (.int (3 : Int32))] [(.int (((gI jj5 (3 : Int32)) &&& (255 : Int32)).toUInt32.toUInt16.toUInt32.toInt32))]))
   exact w_done X25 hlk (v := some (.int (((gI jj5 (3 : Int32)) &&& (255 : Int32)).toUInt32.toUInt16.toUInt32.toInt32))) e25 (fun h => by rw [hret] at h; cases h) (fun fs hr => retOut X25 hx hret (t := .char) (XT.narrow_c _) (Or.inl ⟨rfl, by simp, _, rfl⟩) (d18_15 hby) hr) (by decide) (by decide) (⟨(congrArg (fun z => some (Value.int z)) (show (((gI jj5 (3 : Int32)) &&& (255 : Int32)).toUInt32.toUInt16.toUInt32.toInt32) = (chA jj1 jj5 (3 : Int32) (6 : Int32) (7 : Int32)) from (if_pos hc22).symm)), N26, rfl⟩)
 · have v27 : (if jj1 = (0 : Int32) then (1 : Int32) else (0 : Int32)) = (0 : Int32) := if_neg hc22
   refine w_ifY X20 hx (d18_4 hby) (teq (v27.trans (by decide))).1 (pc' := 16) (by decide) (by decide) ?_
   refine w_aloadN X20 hx (d18_16 hby) rfl rfl (pc' := 17) rfl ?_
   refine w_getF X20 hx "" hZ hown (Or.inl (wd_31 hw)) Via.refl e20 zz9 (d18_17 hby) (pc' := 20) rfl ?_
   intro T28 X28 e28
   refine w_iloadN X28 hx (d18_20 hby) rfl (pc' := 21) rfl ?_
   refine w_static X28 hx (y := yn_20) hown (mvT hZ (wd_87 hw)) (mvT hZ (wd_88 hw)) (mvT hZ (wd_40 hw)) (mvT hZ (wd_89 hw)) (by decide) (backOf (W := 0) (rm_m20_88 l Z aZ hw [] jj2 jj3 jj4 jj5 jj6 h0 n0 Z0 zz10 (own_len1 (own_cd1 hc22 zz13 zz14) hP_7) zz11 zz12 O0 (own_half6 (own_len1 (own_cd1 hc22 zz13 zz14) hP_7)) (own_half7 (own_len1 (own_cd1 hc22 zz13 zz14) hP_7)) zz15 zz16 zz17) hZ (wd_89 hw) (wd_40 hw) (by decide) (by decide)) (by rw [hml]; rfl) [(.ref jj2), (.int (3 : Int32))] (lenOf pd_9 rfl) rfl (Nat.le_of_eq rfl) (d18_21 hby) (fun _ _ => ⟨rfl, e28, (by decide : 0 + 0 ≤ _), (by decide : 0 + 0 ≤ _)⟩) (pc' := 24) rfl ?_
   rintro _ _ ⟨T29, L29, k29, n29⟩ X29 ⟨Lc29, hQ29, l29, y29, z29⟩
   dsimp only [Pt.U, Pt.locs, Pt.cells, Pt.slots] at X29 l29 y29 z29 hQ29 ⊢
   rw [l29, y29, z29] at X29
   obtain ⟨rfl, N29q, e29⟩ := hQ29
   have N30 := Fr.app N21 N29q
   show Runs _ _ _ _ (T29.setTop (mkF m 24 #[.val (.ref a0), .val (.int (3 : Int32))] [(.int (((((gI jj5 (6 : Int32)) &&& (255 : Int32)) <<< ((0 : Int32) &&& 31)) ||| (((gI jj5 (7 : Int32)) &&& (255 : Int32)) <<< ((8 : Int32) &&& 31))).toUInt32.toUInt16.toUInt32.toInt32))]))
   exact w_done X29 hlk (v := some (.int (((((gI jj5 (6 : Int32)) &&& (255 : Int32)) <<< ((0 : Int32) &&& 31)) ||| (((gI jj5 (7 : Int32)) &&& (255 : Int32)) <<< ((8 : Int32) &&& 31))).toUInt32.toUInt16.toUInt32.toInt32))) e29 (fun h => by rw [hret] at h; cases h) (fun fs hr => retOut X29 hx hret (t := .char) (XT.narrow_c _) (Or.inl ⟨rfl, by simp, _, rfl⟩) (d18_24 hby) hr) (by decide) (by decide) (⟨(congrArg (fun z => some (Value.int z)) (show (((((gI jj5 (6 : Int32)) &&& (255 : Int32)) <<< ((0 : Int32) &&& 31)) ||| (((gI jj5 (7 : Int32)) &&& (255 : Int32)) <<< ((8 : Int32) &&& 31))).toUInt32.toUInt16.toUInt32.toInt32) = (chA jj1 jj5 (3 : Int32) (6 : Int32) (7 : Int32)) from (if_neg hc22).symm)), N30, rfl⟩)
theorem ef_m7_58 (m : MethodId) (a0 : Addr) (a1 : Addr)  : entryFrame m #[(.ref a0), (.ref a1)] 4 = mkF m 0 #[.val (.ref a0), .val (.ref a1), .unset, .unset] [] := by first | (simp [entryFrame, mkF, argsToLocals, Value.category]; done) | rfl
def Q_m7_58 (Z : State) (a0 : Addr) (a1 : Addr) (jj0 : Addr) (jj1 : ClassId) (jj2 : Int32) (jj3 : List Int32) (jj4 : Int32) (jj5 : Int32) (jj6 : Addr) (jj7 : ClassId) (jj8 : Int32) (jj9 : List Int32) (jj10 : Int32) (jj11 : Value) (h0 : Heap) (n0 : Nat) (v : Option Value) (h : Heap) (L : List Loc) : Prop := v = some (.int (eqS (jj2 >>> (jj4 &&& 31)) (jj8 >>> (jj10 &&& 31)) (lowF (chA jj4 jj3 (0 : Int32) (0 : Int32) (1 : Int32))) (lowF (chA jj4 jj3 (1 : Int32) (2 : Int32) (3 : Int32))) (lowF (chA jj4 jj3 (2 : Int32) (4 : Int32) (5 : Int32))) (lowF (chA jj4 jj3 (3 : Int32) (6 : Int32) (7 : Int32))) (lowF (chA jj10 jj9 (0 : Int32) (0 : Int32) (1 : Int32))) (lowF (chA jj10 jj9 (1 : Int32) (2 : Int32) (3 : Int32))) (lowF (chA jj10 jj9 (2 : Int32) (4 : Int32) (5 : Int32))) (lowF (chA jj10 jj9 (3 : Int32) (6 : Int32) (7 : Int32))))) ∧ Fr n0 L ∧ h = h0
theorem rm_m7_58 (l : Launch) (Z : State) (aZ : Array Value) (hw : ∀ d ∈ tables_1, d.before aZ Z = true) (ws : List Jvm.Cond) (a0 : Addr) (a1 : Addr) (jj0 : Addr) (jj1 : ClassId) (jj2 : Int32) (jj3 : List Int32) (jj4 : Int32) (jj5 : Int32) (jj6 : Addr) (jj7 : ClassId) (jj8 : Int32) (jj9 : List Int32) (jj10 : Int32) (jj11 : Value) (h0 : Heap) (n0 : Nat) (Z0 : n0 ≤ h0.size) (E_a0 : Exa Z h0 a0 kc0) (zz12 : Fld Z h0 a0 kc0 "value" "[B" (.ref jj0)) (zz13 : Arv Z h0 jj0 jj1 .byte jj2 (mI jj3) (.int (0 : Int32))) (zz14 : Fld Z h0 a0 kc0 "coder" "B" (.int jj4)) (zz15 : nar .byte jj4 = jj4) (zz16 : Sta Z Z.heap kc0 "COMPACT_STRINGS" "Z" (.int jj5)) (O0 : Old Z n0 h0) (hP_7 : ¬ (jj5 = (0 : Int32))) (E_a1 : Exa Z h0 a1 kc0) (zz17 : Fld Z h0 a1 kc0 "value" "[B" (.ref jj6)) (zz18 : Arv Z h0 jj6 jj7 .byte jj8 (mI jj9) (.int (0 : Int32))) (zz19 : Fld Z h0 a1 kc0 "coder" "B" (.int jj10)) (zz20 : nar .byte jj10 = jj10) (zz21 : jj4 < (2 : Int32)) (zz22 : ¬ (jj4 < (0 : Int32))) (zz23 : jj11.isRef = true) (zz24 : Sta Z Z.heap kc2 "SIOOBE_FORMATTER" "Ljava/util/function/BiFunction;" jj11) (zz25 : Sta Z Z.heap kc1 "$assertionsDisabled" "Z" (.int (1 : Int32))) (zz26 : Sta Z Z.heap kc1 "HI_BYTE_SHIFT" "I" (.int (0 : Int32))) (zz27 : Sta Z Z.heap kc1 "LO_BYTE_SHIFT" "I" (.int (8 : Int32))) (zz28 : jj10 < (2 : Int32)) (zz29 : ¬ (jj10 < (0 : Int32))) (zz30 : ¬ ((4 : Int32) < (jj2 >>> (jj4 &&& 31)))) :
    MetN l Z yn_7 prog_12_method_2_code 4 (some .boolean) ws ({ frames := 5, cells := 0, slots := 0, locals := 67 } : Room) #[(.ref a0), (.ref a1)] h0 (Q_m7_58 Z a0 a1 jj0 jj1 jj2 jj3 jj4 jj5 jj6 jj7 jj8 jj9 jj10 jj11 h0 n0) := by
 refine MetN.of (plainFor_of_name pn_1) ?_
 intro p e s m below meth c s₁ hret hx hby hml hown hnm hlk hZ X0 e0
 have N0 := Fr.nil n0
 rw [ef_m7_58 m a0 a1]
 refine w_aloadN X0 hx (d7_0 hby) rfl rfl (pc' := 1) rfl ?_
 refine w_ifnullN X0 hx (d7_1 hby) (pc' := 4) rfl ?_
 refine w_aloadN X0 hx (d7_4 hby) rfl rfl (pc' := 5) rfl ?_
 obtain ⟨cq20, kq20, q20a, q20b, q20c⟩ := isOf hZ e0 E_a0
 refine w_virtual X0 hx (y := yn_16) (z := yn_16) hown (mvT hZ (wd_67 hw)) (mvT hZ (wd_68 hw)) (notFace_of_selects (args := #[]) (mvT hZ (wd_70 hw))) (mvT hZ (wd_70 hw)) (mvT hZ (wd_69 hw)) (by decide) (backOf (W := 0) (rm_m16_59 l Z aZ hw [] a0 jj0 jj1 jj2 jj3 jj4 jj5 h0 n0 Z0 zz12 zz13 E_a0 hP_7 zz14 zz15 zz16 O0) hZ (wd_71 hw) (wd_14 hw) (by decide) (by decide)) q20a q20c (by rw [hml]; rfl) [] (lenOf pd_14 rfl) rfl (Nat.le_of_eq rfl) (d7_5 hby) (fun _ _ => ⟨rfl, e0, (by decide : 0 + 0 ≤ _), (by decide : 0 + 0 ≤ _)⟩) (pc' := 8) rfl ?_
 rintro _ _ ⟨T20, L20, k20, n20⟩ X20 ⟨Lc20, hQ20, l20, y20, z20⟩
 dsimp only [Pt.U, Pt.locs, Pt.cells, Pt.slots] at X20 l20 y20 z20 hQ20 ⊢
 rw [l20, y20, z20] at X20
 obtain ⟨rfl, N20q, e20⟩ := hQ20
 have N21 := Fr.app N0 N20q
 show Runs _ _ _ _ (T20.setTop (mkF m 8 #[.val (.ref a0), .val (.ref a1), .unset, .unset] [(.int (jj2 >>> (jj4 &&& 31)))]))
 refine w_aloadN X20 hx (d7_8 hby) rfl rfl (pc' := 9) rfl ?_
 obtain ⟨cq22, kq22, q22a, q22b, q22c⟩ := isOf hZ e20 E_a1
 refine w_virtual X20 hx (y := yn_16) (z := yn_16) hown (mvT hZ (wd_67 hw)) (mvT hZ (wd_68 hw)) (notFace_of_selects (args := #[]) (mvT hZ (wd_70 hw))) (mvT hZ (wd_70 hw)) (mvT hZ (wd_69 hw)) (by decide) (backOf (W := 1) (rm_m16_59 l Z aZ hw [] a1 jj6 jj7 jj8 jj9 jj10 jj5 h0 n0 Z0 zz17 zz18 E_a1 hP_7 zz19 zz20 zz16 O0) hZ (wd_71 hw) (wd_14 hw) (by decide) (by decide)) q22a q22c (by rw [hml]; rfl) [] (lenOf pd_14 rfl) rfl (Nat.le_of_eq rfl) (d7_9 hby) (fun _ _ => ⟨rfl, e20, (by decide : 0 + 0 ≤ _), (by decide : 0 + 0 ≤ _)⟩) (pc' := 12) rfl ?_
 rintro _ _ ⟨T22, L22, k22, n22⟩ X22 ⟨Lc22, hQ22, l22, y22, z22⟩
 dsimp only [Pt.U, Pt.locs, Pt.cells, Pt.slots] at X22 l22 y22 z22 hQ22 ⊢
 rw [l22, y22, z22] at X22
 obtain ⟨rfl, N22q, e22⟩ := hQ22
 have N23 := Fr.app N21 N22q
 show Runs _ _ _ _ (T22.setTop (mkF m 12 #[.val (.ref a0), .val (.ref a1), .unset, .unset] [(.int (jj8 >>> (jj10 &&& 31))), (.int (jj2 >>> (jj4 &&& 31)))]))
 by_cases hc24 : (jj2 >>> (jj4 &&& 31)) = (jj8 >>> (jj10 &&& 31))
 · refine w_icY X22 hx (d7_12 hby) (teq hc24).1 (pc' := 17) (by decide) (by decide) ?_
   refine w_iconst X22 hx (d7_17 hby) (v := (1 : Int32)) rfl (pc' := 18) rfl ?_
   refine w_istoreN X22 hx (d7_18 hby) (L' := #[.val (.ref a0), .val (.ref a1), .val (.int (1 : Int32)), .unset]) rfl (pc' := 19) rfl ?_
   refine w_iconst X22 hx (d7_19 hby) (v := (0 : Int32)) rfl (pc' := 20) rfl ?_
   refine w_istoreN X22 hx (d7_20 hby) (L' := #[.val (.ref a0), .val (.ref a1), .val (.int (1 : Int32)), .val (.int (0 : Int32))]) rfl (pc' := 21) rfl ?_
   refine w_iloadN X22 hx (d7_21 hby) rfl (pc' := 22) rfl ?_
   refine w_ifN X22 hx (d7_22 hby) (feq (by decide : ¬ ((1 : Int32) = (0 : Int32)))).1 (pc' := 25) rfl ?_
   refine w_iloadN X22 hx (d7_25 hby) rfl (pc' := 26) rfl ?_
   refine w_aloadN X22 hx (d7_26 hby) rfl rfl (pc' := 27) rfl ?_
   obtain ⟨cq25, kq25, q25a, q25b, q25c⟩ := isOf hZ e22 E_a0
   refine w_virtual X22 hx (y := yn_16) (z := yn_16) hown (mvT hZ (wd_67 hw)) (mvT hZ (wd_68 hw)) (notFace_of_selects (args := #[]) (mvT hZ (wd_70 hw))) (mvT hZ (wd_70 hw)) (mvT hZ (wd_69 hw)) (by decide) (backOf (W := 1) (rm_m16_59 l Z aZ hw [] a0 jj0 jj1 jj2 jj3 jj4 jj5 h0 n0 Z0 zz12 zz13 E_a0 hP_7 zz14 zz15 zz16 O0) hZ (wd_71 hw) (wd_14 hw) (by decide) (by decide)) q25a q25c (by rw [hml]; rfl) [] (lenOf pd_14 rfl) rfl (Nat.le_of_eq rfl) (d7_27 hby) (fun _ _ => ⟨rfl, e22, (by decide : 0 + 0 ≤ _), (by decide : 0 + 0 ≤ _)⟩) (pc' := 30) rfl ?_
   rintro _ _ ⟨T25, L25, k25, n25⟩ X25 ⟨Lc25, hQ25, l25, y25, z25⟩
   dsimp only [Pt.U, Pt.locs, Pt.cells, Pt.slots] at X25 l25 y25 z25 hQ25 ⊢
   rw [l25, y25, z25] at X25
   obtain ⟨rfl, N25q, e25⟩ := hQ25
   have N26 := Fr.app N23 N25q
   show Runs _ _ _ _ (T25.setTop (mkF m 30 #[.val (.ref a0), .val (.ref a1), .val (.int (1 : Int32)), .val (.int (0 : Int32))] [(.int (jj2 >>> (jj4 &&& 31))), (.int (0 : Int32))]))
   by_cases hc27 : (0 : Int32) < (jj2 >>> (jj4 &&& 31))
   · refine w_icN X25 hx (d7_30 hby) (tlt hc27).2.1 (pc' := 33) rfl ?_
     refine w_aloadN X25 hx (d7_33 hby) rfl rfl (pc' := 34) rfl ?_
     refine w_iloadN X25 hx (d7_34 hby) rfl (pc' := 35) rfl ?_
     obtain ⟨cq28, kq28, q28a, q28b, q28c⟩ := isOf hZ e25 E_a0
     refine w_virtual X25 hx (y := yn_18) (z := yn_18) hown (mvT hZ (wd_77 hw)) (mvT hZ (wd_78 hw)) (notFace_of_selects (args := #[]) (mvT hZ (wd_80 hw))) (mvT hZ (wd_80 hw)) (mvT hZ (wd_79 hw)) (by decide) (backOf (W := 0) (rm_m18_61 l Z aZ hw [] a0 jj4 jj5 jj0 jj1 jj2 jj3 jj11 h0 n0 Z0 E_a0 hP_7 zz14 zz16 O0 zz12 zz13 hc27 zz23 zz24 zz21 zz22 zz25 zz26 zz27) hZ (wd_81 hw) (wd_14 hw) (by decide) (by decide)) q28a q28c (by rw [hml]; rfl) [(.int (0 : Int32))] (lenOf pd_20 rfl) rfl (Nat.le_of_eq rfl) (d7_35 hby) (fun _ _ => ⟨rfl, e25, (by decide : 0 + 0 ≤ _), (by decide : 0 + 0 ≤ _)⟩) (pc' := 38) rfl ?_
     rintro _ _ ⟨T28, L28, k28, n28⟩ X28 ⟨Lc28, hQ28, l28, y28, z28⟩
     dsimp only [Pt.U, Pt.locs, Pt.cells, Pt.slots] at X28 l28 y28 z28 hQ28 ⊢
     rw [l28, y28, z28] at X28
     obtain ⟨rfl, N28q, e28⟩ := hQ28
     have N29 := Fr.app N26 N28q
     show Runs _ _ _ _ (T28.setTop (mkF m 38 #[.val (.ref a0), .val (.ref a1), .val (.int (1 : Int32)), .val (.int (0 : Int32))] [(.int (chA jj4 jj3 (0 : Int32) (0 : Int32) (1 : Int32)))]))
     refine w_static X28 hx (y := yn_25) hown (mvT hZ (wd_104 hw)) (mvT hZ (wd_105 hw)) (mvT hZ (wd_35 hw)) (mvT hZ (wd_106 hw)) (by decide) (backOf (W := 0) (rm_lower l Z aZ hw [] (chA jj4 jj3 (0 : Int32) (0 : Int32) (1 : Int32)) h0 n0 Z0 own_chA_nar) hZ (wd_106 hw) (wd_35 hw) (by decide) (by decide)) (by rw [hml]; rfl) [(.int (chA jj4 jj3 (0 : Int32) (0 : Int32) (1 : Int32)))] (lenOf pd_21 rfl) rfl (Nat.le_of_eq rfl) (d7_38 hby) (fun _ _ => ⟨rfl, e28, (by decide : 0 + 0 ≤ _), (by decide : 0 + 0 ≤ _)⟩) (pc' := 41) rfl ?_
     rintro _ _ ⟨T30, L30, k30, n30⟩ X30 ⟨Lc30, hQ30, l30, y30, z30⟩
     dsimp only [Pt.U, Pt.locs, Pt.cells, Pt.slots] at X30 l30 y30 z30 hQ30 ⊢
     rw [l30, y30, z30] at X30
     obtain ⟨rfl, N30q, e30⟩ := hQ30
     have N31 := Fr.app N29 N30q
     show Runs _ _ _ _ (T30.setTop (mkF m 41 #[.val (.ref a0), .val (.ref a1), .val (.int (1 : Int32)), .val (.int (0 : Int32))] [(.int (lowF (chA jj4 jj3 (0 : Int32) (0 : Int32) (1 : Int32))))]))
     refine w_aloadN X30 hx (d7_41 hby) rfl rfl (pc' := 42) rfl ?_
     refine w_iloadN X30 hx (d7_42 hby) rfl (pc' := 43) rfl ?_
     obtain ⟨cq32, kq32, q32a, q32b, q32c⟩ := isOf hZ e30 E_a1
     refine w_virtual X30 hx (y := yn_18) (z := yn_18) hown (mvT hZ (wd_77 hw)) (mvT hZ (wd_78 hw)) (notFace_of_selects (args := #[]) (mvT hZ (wd_80 hw))) (mvT hZ (wd_80 hw)) (mvT hZ (wd_79 hw)) (by decide) (backOf (W := 1) (rm_m18_61 l Z aZ hw [] a1 jj10 jj5 jj6 jj7 jj8 jj9 jj11 h0 n0 Z0 E_a1 hP_7 zz19 zz16 O0 zz17 zz18 (Eq.mp (congrArg (fun z => (0 : Int32) < z) hc24) hc27) zz23 zz24 zz28 zz29 zz25 zz26 zz27) hZ (wd_81 hw) (wd_14 hw) (by decide) (by decide)) q32a q32c (by rw [hml]; rfl) [(.int (0 : Int32))] (lenOf pd_20 rfl) rfl (Nat.le_of_eq rfl) (d7_43 hby) (fun _ _ => ⟨rfl, e30, (by decide : 0 + 0 ≤ _), (by decide : 0 + 0 ≤ _)⟩) (pc' := 46) rfl ?_
     rintro _ _ ⟨T32, L32, k32, n32⟩ X32 ⟨Lc32, hQ32, l32, y32, z32⟩
     dsimp only [Pt.U, Pt.locs, Pt.cells, Pt.slots] at X32 l32 y32 z32 hQ32 ⊢
     rw [l32, y32, z32] at X32
     obtain ⟨rfl, N32q, e32⟩ := hQ32
     have N33 := Fr.app N31 N32q
     show Runs _ _ _ _ (T32.setTop (mkF m 46 #[.val (.ref a0), .val (.ref a1), .val (.int (1 : Int32)), .val (.int (0 : Int32))] [(.int (chA jj10 jj9 (0 : Int32) (0 : Int32) (1 : Int32))), (.int (lowF (chA jj4 jj3 (0 : Int32) (0 : Int32) (1 : Int32))))]))
     refine w_static X32 hx (y := yn_25) hown (mvT hZ (wd_104 hw)) (mvT hZ (wd_105 hw)) (mvT hZ (wd_35 hw)) (mvT hZ (wd_106 hw)) (by decide) (backOf (W := 1) (rm_lower l Z aZ hw [] (chA jj10 jj9 (0 : Int32) (0 : Int32) (1 : Int32)) h0 n0 Z0 own_chA_nar) hZ (wd_106 hw) (wd_35 hw) (by decide) (by decide)) (by rw [hml]; rfl) [(.int (chA jj10 jj9 (0 : Int32) (0 : Int32) (1 : Int32)))] (lenOf pd_21 rfl) rfl (Nat.le_of_eq rfl) (d7_46 hby) (fun _ _ => ⟨rfl, e32, (by decide : 0 + 0 ≤ _), (by decide : 0 + 0 ≤ _)⟩) (pc' := 49) rfl ?_
     rintro _ _ ⟨T34, L34, k34, n34⟩ X34 ⟨Lc34, hQ34, l34, y34, z34⟩
     dsimp only [Pt.U, Pt.locs, Pt.cells, Pt.slots] at X34 l34 y34 z34 hQ34 ⊢
     rw [l34, y34, z34] at X34
     obtain ⟨rfl, N34q, e34⟩ := hQ34
     have N35 := Fr.app N33 N34q
     show Runs _ _ _ _ (T34.setTop (mkF m 49 #[.val (.ref a0), .val (.ref a1), .val (.int (1 : Int32)), .val (.int (0 : Int32))] [(.int (lowF (chA jj10 jj9 (0 : Int32) (0 : Int32) (1 : Int32)))), (.int (lowF (chA jj4 jj3 (0 : Int32) (0 : Int32) (1 : Int32))))]))
     suffices key37 : Runs p e below (EndN s (Q_m7_58 Z a0 a1 jj0 jj1 jj2 jj3 jj4 jj5 jj6 jj7 jj8 jj9 jj10 jj11 h0 n0) ({ frames := 5, cells := 0, slots := 0, locals := 67 } : Room).cells ({ frames := 5, cells := 0, slots := 0, locals := 67 } : Room).slots) (T34.setTop (mkF m 57 #[.val (.ref a0), .val (.ref a1), .val (.int (1 : Int32)), .val (.int (0 : Int32))] [(.int (if (lowF (chA jj4 jj3 (0 : Int32) (0 : Int32) (1 : Int32))) = (lowF (chA jj10 jj9 (0 : Int32) (0 : Int32) (1 : Int32))) then (1 : Int32) else (0 : Int32)))])) by
      by_cases hc36 : (lowF (chA jj4 jj3 (0 : Int32) (0 : Int32) (1 : Int32))) = (lowF (chA jj10 jj9 (0 : Int32) (0 : Int32) (1 : Int32)))
      · rw [if_pos hc36] at key37
        refine w_icN X34 hx (d7_49 hby) (teq hc36).2 (pc' := 52) rfl ?_
        refine w_iconst X34 hx (d7_52 hby) (v := (1 : Int32)) rfl (pc' := 53) rfl ?_
        refine w_goto X34 hx (d7_53 hby) (pc' := 57) (by decide) (by decide) ?_
        exact key37
      · rw [if_neg hc36] at key37
        refine w_icY X34 hx (d7_49 hby) (feq hc36).2 (pc' := 56) (by decide) (by decide) ?_
        refine w_iconst X34 hx (d7_56 hby) (v := (0 : Int32)) rfl (pc' := 57) rfl ?_
        exact key37
     refine w_istoreN X34 hx (d7_57 hby) (L' := #[.val (.ref a0), .val (.ref a1), .val (.int (if (lowF (chA jj4 jj3 (0 : Int32) (0 : Int32) (1 : Int32))) = (lowF (chA jj10 jj9 (0 : Int32) (0 : Int32) (1 : Int32))) then (1 : Int32) else (0 : Int32))), .val (.int (0 : Int32))]) rfl (pc' := 58) rfl ?_
     refine w_iinc X34 hx (d7_58 hby) (v := (1 : Int32)) rfl rfl (L' := #[.val (.ref a0), .val (.ref a1), .val (.int (if (lowF (chA jj4 jj3 (0 : Int32) (0 : Int32) (1 : Int32))) = (lowF (chA jj10 jj9 (0 : Int32) (0 : Int32) (1 : Int32))) then (1 : Int32) else (0 : Int32))), .val (.int ((0 : Int32) + (1 : Int32)))]) rfl (pc' := 61) rfl ?_
     rw [show ((0 : Int32) + (1 : Int32)) = (1 : Int32) from by decide]
     refine w_goto X34 hx (d7_61 hby) (pc' := 21) (by decide) (by decide) ?_
     refine w_iloadN X34 hx (d7_21 hby) rfl (pc' := 22) rfl ?_
     by_cases hc38 : (lowF (chA jj4 jj3 (0 : Int32) (0 : Int32) (1 : Int32))) = (lowF (chA jj10 jj9 (0 : Int32) (0 : Int32) (1 : Int32)))
     · have v39 : (if (lowF (chA jj4 jj3 (0 : Int32) (0 : Int32) (1 : Int32))) = (lowF (chA jj10 jj9 (0 : Int32) (0 : Int32) (1 : Int32))) then (1 : Int32) else (0 : Int32)) = (1 : Int32) := if_pos hc38
       refine w_ifN X34 hx (d7_22 hby) (feq (fun q => absurd (v39.symm.trans q) (by decide))).1 (pc' := 25) rfl ?_
       refine w_iloadN X34 hx (d7_25 hby) rfl (pc' := 26) rfl ?_
       refine w_aloadN X34 hx (d7_26 hby) rfl rfl (pc' := 27) rfl ?_
       obtain ⟨cq40, kq40, q40a, q40b, q40c⟩ := isOf hZ e34 E_a0
       refine w_virtual X34 hx (y := yn_16) (z := yn_16) hown (mvT hZ (wd_67 hw)) (mvT hZ (wd_68 hw)) (notFace_of_selects (args := #[]) (mvT hZ (wd_70 hw))) (mvT hZ (wd_70 hw)) (mvT hZ (wd_69 hw)) (by decide) (backOf (W := 1) (rm_m16_59 l Z aZ hw [] a0 jj0 jj1 jj2 jj3 jj4 jj5 h0 n0 Z0 zz12 zz13 E_a0 hP_7 zz14 zz15 zz16 O0) hZ (wd_71 hw) (wd_14 hw) (by decide) (by decide)) q40a q40c (by rw [hml]; rfl) [] (lenOf pd_14 rfl) rfl (Nat.le_of_eq rfl) (d7_27 hby) (fun _ _ => ⟨rfl, e34, (by decide : 0 + 0 ≤ _), (by decide : 0 + 0 ≤ _)⟩) (pc' := 30) rfl ?_
       rintro _ _ ⟨T40, L40, k40, n40⟩ X40 ⟨Lc40, hQ40, l40, y40, z40⟩
       dsimp only [Pt.U, Pt.locs, Pt.cells, Pt.slots] at X40 l40 y40 z40 hQ40 ⊢
       rw [l40, y40, z40] at X40
       obtain ⟨rfl, N40q, e40⟩ := hQ40
       have N41 := Fr.app N35 N40q
       show Runs _ _ _ _ (T40.setTop (mkF m 30 #[.val (.ref a0), .val (.ref a1), .val (.int (if (lowF (chA jj4 jj3 (0 : Int32) (0 : Int32) (1 : Int32))) = (lowF (chA jj10 jj9 (0 : Int32) (0 : Int32) (1 : Int32))) then (1 : Int32) else (0 : Int32))), .val (.int (1 : Int32))] [(.int (jj2 >>> (jj4 &&& 31))), (.int (1 : Int32))]))
       by_cases hc42 : (1 : Int32) < (jj2 >>> (jj4 &&& 31))
       · refine w_icN X40 hx (d7_30 hby) (tlt hc42).2.1 (pc' := 33) rfl ?_
         refine w_aloadN X40 hx (d7_33 hby) rfl rfl (pc' := 34) rfl ?_
         refine w_iloadN X40 hx (d7_34 hby) rfl (pc' := 35) rfl ?_
         obtain ⟨cq43, kq43, q43a, q43b, q43c⟩ := isOf hZ e40 E_a0
         refine w_virtual X40 hx (y := yn_18) (z := yn_18) hown (mvT hZ (wd_77 hw)) (mvT hZ (wd_78 hw)) (notFace_of_selects (args := #[]) (mvT hZ (wd_80 hw))) (mvT hZ (wd_80 hw)) (mvT hZ (wd_79 hw)) (by decide) (backOf (W := 0) (rm_m18_70 l Z aZ hw [] a0 jj5 jj4 jj0 jj1 jj2 jj3 jj11 h0 n0 Z0 E_a0 zz16 O0 zz14 hP_7 zz12 zz13 hc42 zz23 zz24 zz21 zz22 zz25 zz26 zz27) hZ (wd_81 hw) (wd_14 hw) (by decide) (by decide)) q43a q43c (by rw [hml]; rfl) [(.int (1 : Int32))] (lenOf pd_20 rfl) rfl (Nat.le_of_eq rfl) (d7_35 hby) (fun _ _ => ⟨rfl, e40, (by decide : 0 + 0 ≤ _), (by decide : 0 + 0 ≤ _)⟩) (pc' := 38) rfl ?_
         rintro _ _ ⟨T43, L43, k43, n43⟩ X43 ⟨Lc43, hQ43, l43, y43, z43⟩
         dsimp only [Pt.U, Pt.locs, Pt.cells, Pt.slots] at X43 l43 y43 z43 hQ43 ⊢
         rw [l43, y43, z43] at X43
         obtain ⟨rfl, N43q, e43⟩ := hQ43
         have N44 := Fr.app N41 N43q
         show Runs _ _ _ _ (T43.setTop (mkF m 38 #[.val (.ref a0), .val (.ref a1), .val (.int (if (lowF (chA jj4 jj3 (0 : Int32) (0 : Int32) (1 : Int32))) = (lowF (chA jj10 jj9 (0 : Int32) (0 : Int32) (1 : Int32))) then (1 : Int32) else (0 : Int32))), .val (.int (1 : Int32))] [(.int (chA jj4 jj3 (1 : Int32) (2 : Int32) (3 : Int32)))]))
         refine w_static X43 hx (y := yn_25) hown (mvT hZ (wd_104 hw)) (mvT hZ (wd_105 hw)) (mvT hZ (wd_35 hw)) (mvT hZ (wd_106 hw)) (by decide) (backOf (W := 0) (rm_lower l Z aZ hw [] (chA jj4 jj3 (1 : Int32) (2 : Int32) (3 : Int32)) h0 n0 Z0 own_chA_nar) hZ (wd_106 hw) (wd_35 hw) (by decide) (by decide)) (by rw [hml]; rfl) [(.int (chA jj4 jj3 (1 : Int32) (2 : Int32) (3 : Int32)))] (lenOf pd_21 rfl) rfl (Nat.le_of_eq rfl) (d7_38 hby) (fun _ _ => ⟨rfl, e43, (by decide : 0 + 0 ≤ _), (by decide : 0 + 0 ≤ _)⟩) (pc' := 41) rfl ?_
         rintro _ _ ⟨T45, L45, k45, n45⟩ X45 ⟨Lc45, hQ45, l45, y45, z45⟩
         dsimp only [Pt.U, Pt.locs, Pt.cells, Pt.slots] at X45 l45 y45 z45 hQ45 ⊢
         rw [l45, y45, z45] at X45
         obtain ⟨rfl, N45q, e45⟩ := hQ45
         have N46 := Fr.app N44 N45q
         show Runs _ _ _ _ (T45.setTop (mkF m 41 #[.val (.ref a0), .val (.ref a1), .val (.int (if (lowF (chA jj4 jj3 (0 : Int32) (0 : Int32) (1 : Int32))) = (lowF (chA jj10 jj9 (0 : Int32) (0 : Int32) (1 : Int32))) then (1 : Int32) else (0 : Int32))), .val (.int (1 : Int32))] [(.int (lowF (chA jj4 jj3 (1 : Int32) (2 : Int32) (3 : Int32))))]))
         refine w_aloadN X45 hx (d7_41 hby) rfl rfl (pc' := 42) rfl ?_
         refine w_iloadN X45 hx (d7_42 hby) rfl (pc' := 43) rfl ?_
         obtain ⟨cq47, kq47, q47a, q47b, q47c⟩ := isOf hZ e45 E_a1
         refine w_virtual X45 hx (y := yn_18) (z := yn_18) hown (mvT hZ (wd_77 hw)) (mvT hZ (wd_78 hw)) (notFace_of_selects (args := #[]) (mvT hZ (wd_80 hw))) (mvT hZ (wd_80 hw)) (mvT hZ (wd_79 hw)) (by decide) (backOf (W := 1) (rm_m18_70 l Z aZ hw [] a1 jj5 jj10 jj6 jj7 jj8 jj9 jj11 h0 n0 Z0 E_a1 zz16 O0 zz19 hP_7 zz17 zz18 (Eq.mp (congrArg (fun z => (1 : Int32) < z) hc24) hc42) zz23 zz24 zz28 zz29 zz25 zz26 zz27) hZ (wd_81 hw) (wd_14 hw) (by decide) (by decide)) q47a q47c (by rw [hml]; rfl) [(.int (1 : Int32))] (lenOf pd_20 rfl) rfl (Nat.le_of_eq rfl) (d7_43 hby) (fun _ _ => ⟨rfl, e45, (by decide : 0 + 0 ≤ _), (by decide : 0 + 0 ≤ _)⟩) (pc' := 46) rfl ?_
         rintro _ _ ⟨T47, L47, k47, n47⟩ X47 ⟨Lc47, hQ47, l47, y47, z47⟩
         dsimp only [Pt.U, Pt.locs, Pt.cells, Pt.slots] at X47 l47 y47 z47 hQ47 ⊢
         rw [l47, y47, z47] at X47
         obtain ⟨rfl, N47q, e47⟩ := hQ47
         have N48 := Fr.app N46 N47q
         show Runs _ _ _ _ (T47.setTop (mkF m 46 #[.val (.ref a0), .val (.ref a1), .val (.int (if (lowF (chA jj4 jj3 (0 : Int32) (0 : Int32) (1 : Int32))) = (lowF (chA jj10 jj9 (0 : Int32) (0 : Int32) (1 : Int32))) then (1 : Int32) else (0 : Int32))), .val (.int (1 : Int32))] [(.int (chA jj10 jj9 (1 : Int32) (2 : Int32) (3 : Int32))), (.int (lowF (chA jj4 jj3 (1 : Int32) (2 : Int32) (3 : Int32))))]))
         refine w_static X47 hx (y := yn_25) hown (mvT hZ (wd_104 hw)) (mvT hZ (wd_105 hw)) (mvT hZ (wd_35 hw)) (mvT hZ (wd_106 hw)) (by decide) (backOf (W := 1) (rm_lower l Z aZ hw [] (chA jj10 jj9 (1 : Int32) (2 : Int32) (3 : Int32)) h0 n0 Z0 own_chA_nar) hZ (wd_106 hw) (wd_35 hw) (by decide) (by decide)) (by rw [hml]; rfl) [(.int (chA jj10 jj9 (1 : Int32) (2 : Int32) (3 : Int32)))] (lenOf pd_21 rfl) rfl (Nat.le_of_eq rfl) (d7_46 hby) (fun _ _ => ⟨rfl, e47, (by decide : 0 + 0 ≤ _), (by decide : 0 + 0 ≤ _)⟩) (pc' := 49) rfl ?_
         rintro _ _ ⟨T49, L49, k49, n49⟩ X49 ⟨Lc49, hQ49, l49, y49, z49⟩
         dsimp only [Pt.U, Pt.locs, Pt.cells, Pt.slots] at X49 l49 y49 z49 hQ49 ⊢
         rw [l49, y49, z49] at X49
         obtain ⟨rfl, N49q, e49⟩ := hQ49
         have N50 := Fr.app N48 N49q
         show Runs _ _ _ _ (T49.setTop (mkF m 49 #[.val (.ref a0), .val (.ref a1), .val (.int (if (lowF (chA jj4 jj3 (0 : Int32) (0 : Int32) (1 : Int32))) = (lowF (chA jj10 jj9 (0 : Int32) (0 : Int32) (1 : Int32))) then (1 : Int32) else (0 : Int32))), .val (.int (1 : Int32))] [(.int (lowF (chA jj10 jj9 (1 : Int32) (2 : Int32) (3 : Int32)))), (.int (lowF (chA jj4 jj3 (1 : Int32) (2 : Int32) (3 : Int32))))]))
         suffices key52 : Runs p e below (EndN s (Q_m7_58 Z a0 a1 jj0 jj1 jj2 jj3 jj4 jj5 jj6 jj7 jj8 jj9 jj10 jj11 h0 n0) ({ frames := 5, cells := 0, slots := 0, locals := 67 } : Room).cells ({ frames := 5, cells := 0, slots := 0, locals := 67 } : Room).slots) (T49.setTop (mkF m 57 #[.val (.ref a0), .val (.ref a1), .val (.int (if (lowF (chA jj4 jj3 (0 : Int32) (0 : Int32) (1 : Int32))) = (lowF (chA jj10 jj9 (0 : Int32) (0 : Int32) (1 : Int32))) then (1 : Int32) else (0 : Int32))), .val (.int (1 : Int32))] [(.int (if (lowF (chA jj4 jj3 (1 : Int32) (2 : Int32) (3 : Int32))) = (lowF (chA jj10 jj9 (1 : Int32) (2 : Int32) (3 : Int32))) then (1 : Int32) else (0 : Int32)))])) by
          by_cases hc51 : (lowF (chA jj4 jj3 (1 : Int32) (2 : Int32) (3 : Int32))) = (lowF (chA jj10 jj9 (1 : Int32) (2 : Int32) (3 : Int32)))
          · rw [if_pos hc51] at key52
            refine w_icN X49 hx (d7_49 hby) (teq hc51).2 (pc' := 52) rfl ?_
            refine w_iconst X49 hx (d7_52 hby) (v := (1 : Int32)) rfl (pc' := 53) rfl ?_
            refine w_goto X49 hx (d7_53 hby) (pc' := 57) (by decide) (by decide) ?_
            exact key52
          · rw [if_neg hc51] at key52
            refine w_icY X49 hx (d7_49 hby) (feq hc51).2 (pc' := 56) (by decide) (by decide) ?_
            refine w_iconst X49 hx (d7_56 hby) (v := (0 : Int32)) rfl (pc' := 57) rfl ?_
            exact key52
         refine w_istoreN X49 hx (d7_57 hby) (L' := #[.val (.ref a0), .val (.ref a1), .val (.int (if (lowF (chA jj4 jj3 (1 : Int32) (2 : Int32) (3 : Int32))) = (lowF (chA jj10 jj9 (1 : Int32) (2 : Int32) (3 : Int32))) then (1 : Int32) else (0 : Int32))), .val (.int (1 : Int32))]) rfl (pc' := 58) rfl ?_
         refine w_iinc X49 hx (d7_58 hby) (v := (1 : Int32)) rfl rfl (L' := #[.val (.ref a0), .val (.ref a1), .val (.int (if (lowF (chA jj4 jj3 (1 : Int32) (2 : Int32) (3 : Int32))) = (lowF (chA jj10 jj9 (1 : Int32) (2 : Int32) (3 : Int32))) then (1 : Int32) else (0 : Int32))), .val (.int ((1 : Int32) + (1 : Int32)))]) rfl (pc' := 61) rfl ?_
         rw [show ((1 : Int32) + (1 : Int32)) = (2 : Int32) from by decide]
         refine w_goto X49 hx (d7_61 hby) (pc' := 21) (by decide) (by decide) ?_
         refine w_iloadN X49 hx (d7_21 hby) rfl (pc' := 22) rfl ?_
         by_cases hc53 : (lowF (chA jj4 jj3 (1 : Int32) (2 : Int32) (3 : Int32))) = (lowF (chA jj10 jj9 (1 : Int32) (2 : Int32) (3 : Int32)))
         · have v54 : (if (lowF (chA jj4 jj3 (1 : Int32) (2 : Int32) (3 : Int32))) = (lowF (chA jj10 jj9 (1 : Int32) (2 : Int32) (3 : Int32))) then (1 : Int32) else (0 : Int32)) = (1 : Int32) := if_pos hc53
           refine w_ifN X49 hx (d7_22 hby) (feq (fun q => absurd (v54.symm.trans q) (by decide))).1 (pc' := 25) rfl ?_
           refine w_iloadN X49 hx (d7_25 hby) rfl (pc' := 26) rfl ?_
           refine w_aloadN X49 hx (d7_26 hby) rfl rfl (pc' := 27) rfl ?_
           obtain ⟨cq55, kq55, q55a, q55b, q55c⟩ := isOf hZ e49 E_a0
           refine w_virtual X49 hx (y := yn_16) (z := yn_16) hown (mvT hZ (wd_67 hw)) (mvT hZ (wd_68 hw)) (notFace_of_selects (args := #[]) (mvT hZ (wd_70 hw))) (mvT hZ (wd_70 hw)) (mvT hZ (wd_69 hw)) (by decide) (backOf (W := 1) (rm_m16_59 l Z aZ hw [] a0 jj0 jj1 jj2 jj3 jj4 jj5 h0 n0 Z0 zz12 zz13 E_a0 hP_7 zz14 zz15 zz16 O0) hZ (wd_71 hw) (wd_14 hw) (by decide) (by decide)) q55a q55c (by rw [hml]; rfl) [] (lenOf pd_14 rfl) rfl (Nat.le_of_eq rfl) (d7_27 hby) (fun _ _ => ⟨rfl, e49, (by decide : 0 + 0 ≤ _), (by decide : 0 + 0 ≤ _)⟩) (pc' := 30) rfl ?_
           rintro _ _ ⟨T55, L55, k55, n55⟩ X55 ⟨Lc55, hQ55, l55, y55, z55⟩
           dsimp only [Pt.U, Pt.locs, Pt.cells, Pt.slots] at X55 l55 y55 z55 hQ55 ⊢
           rw [l55, y55, z55] at X55
           obtain ⟨rfl, N55q, e55⟩ := hQ55
           have N56 := Fr.app N50 N55q
           show Runs _ _ _ _ (T55.setTop (mkF m 30 #[.val (.ref a0), .val (.ref a1), .val (.int (if (lowF (chA jj4 jj3 (1 : Int32) (2 : Int32) (3 : Int32))) = (lowF (chA jj10 jj9 (1 : Int32) (2 : Int32) (3 : Int32))) then (1 : Int32) else (0 : Int32))), .val (.int (2 : Int32))] [(.int (jj2 >>> (jj4 &&& 31))), (.int (2 : Int32))]))
           by_cases hc57 : (2 : Int32) < (jj2 >>> (jj4 &&& 31))
           · refine w_icN X55 hx (d7_30 hby) (tlt hc57).2.1 (pc' := 33) rfl ?_
             refine w_aloadN X55 hx (d7_33 hby) rfl rfl (pc' := 34) rfl ?_
             refine w_iloadN X55 hx (d7_34 hby) rfl (pc' := 35) rfl ?_
             obtain ⟨cq58, kq58, q58a, q58b, q58c⟩ := isOf hZ e55 E_a0
             refine w_virtual X55 hx (y := yn_18) (z := yn_18) hown (mvT hZ (wd_77 hw)) (mvT hZ (wd_78 hw)) (notFace_of_selects (args := #[]) (mvT hZ (wd_80 hw))) (mvT hZ (wd_80 hw)) (mvT hZ (wd_79 hw)) (by decide) (backOf (W := 0) (rm_m18_77 l Z aZ hw [] a0 jj5 jj4 jj0 jj1 jj2 jj3 jj11 h0 n0 Z0 E_a0 zz16 O0 zz14 hP_7 zz12 zz13 hc57 zz23 zz24 zz21 zz22 zz25 zz26 zz27) hZ (wd_81 hw) (wd_14 hw) (by decide) (by decide)) q58a q58c (by rw [hml]; rfl) [(.int (2 : Int32))] (lenOf pd_20 rfl) rfl (Nat.le_of_eq rfl) (d7_35 hby) (fun _ _ => ⟨rfl, e55, (by decide : 0 + 0 ≤ _), (by decide : 0 + 0 ≤ _)⟩) (pc' := 38) rfl ?_
             rintro _ _ ⟨T58, L58, k58, n58⟩ X58 ⟨Lc58, hQ58, l58, y58, z58⟩
             dsimp only [Pt.U, Pt.locs, Pt.cells, Pt.slots] at X58 l58 y58 z58 hQ58 ⊢
             rw [l58, y58, z58] at X58
             obtain ⟨rfl, N58q, e58⟩ := hQ58
             have N59 := Fr.app N56 N58q
             show Runs _ _ _ _ (T58.setTop (mkF m 38 #[.val (.ref a0), .val (.ref a1), .val (.int (if (lowF (chA jj4 jj3 (1 : Int32) (2 : Int32) (3 : Int32))) = (lowF (chA jj10 jj9 (1 : Int32) (2 : Int32) (3 : Int32))) then (1 : Int32) else (0 : Int32))), .val (.int (2 : Int32))] [(.int (chA jj4 jj3 (2 : Int32) (4 : Int32) (5 : Int32)))]))
             refine w_static X58 hx (y := yn_25) hown (mvT hZ (wd_104 hw)) (mvT hZ (wd_105 hw)) (mvT hZ (wd_35 hw)) (mvT hZ (wd_106 hw)) (by decide) (backOf (W := 0) (rm_lower l Z aZ hw [] (chA jj4 jj3 (2 : Int32) (4 : Int32) (5 : Int32)) h0 n0 Z0 own_chA_nar) hZ (wd_106 hw) (wd_35 hw) (by decide) (by decide)) (by rw [hml]; rfl) [(.int (chA jj4 jj3 (2 : Int32) (4 : Int32) (5 : Int32)))] (lenOf pd_21 rfl) rfl (Nat.le_of_eq rfl) (d7_38 hby) (fun _ _ => ⟨rfl, e58, (by decide : 0 + 0 ≤ _), (by decide : 0 + 0 ≤ _)⟩) (pc' := 41) rfl ?_
             rintro _ _ ⟨T60, L60, k60, n60⟩ X60 ⟨Lc60, hQ60, l60, y60, z60⟩
             dsimp only [Pt.U, Pt.locs, Pt.cells, Pt.slots] at X60 l60 y60 z60 hQ60 ⊢
             rw [l60, y60, z60] at X60
             obtain ⟨rfl, N60q, e60⟩ := hQ60
             have N61 := Fr.app N59 N60q
             show Runs _ _ _ _ (T60.setTop (mkF m 41 #[.val (.ref a0), .val (.ref a1), .val (.int (if (lowF (chA jj4 jj3 (1 : Int32) (2 : Int32) (3 : Int32))) = (lowF (chA jj10 jj9 (1 : Int32) (2 : Int32) (3 : Int32))) then (1 : Int32) else (0 : Int32))), .val (.int (2 : Int32))] [(.int (lowF (chA jj4 jj3 (2 : Int32) (4 : Int32) (5 : Int32))))]))
             refine w_aloadN X60 hx (d7_41 hby) rfl rfl (pc' := 42) rfl ?_
             refine w_iloadN X60 hx (d7_42 hby) rfl (pc' := 43) rfl ?_
             obtain ⟨cq62, kq62, q62a, q62b, q62c⟩ := isOf hZ e60 E_a1
             refine w_virtual X60 hx (y := yn_18) (z := yn_18) hown (mvT hZ (wd_77 hw)) (mvT hZ (wd_78 hw)) (notFace_of_selects (args := #[]) (mvT hZ (wd_80 hw))) (mvT hZ (wd_80 hw)) (mvT hZ (wd_79 hw)) (by decide) (backOf (W := 1) (rm_m18_77 l Z aZ hw [] a1 jj5 jj10 jj6 jj7 jj8 jj9 jj11 h0 n0 Z0 E_a1 zz16 O0 zz19 hP_7 zz17 zz18 (Eq.mp (congrArg (fun z => (2 : Int32) < z) hc24) hc57) zz23 zz24 zz28 zz29 zz25 zz26 zz27) hZ (wd_81 hw) (wd_14 hw) (by decide) (by decide)) q62a q62c (by rw [hml]; rfl) [(.int (2 : Int32))] (lenOf pd_20 rfl) rfl (Nat.le_of_eq rfl) (d7_43 hby) (fun _ _ => ⟨rfl, e60, (by decide : 0 + 0 ≤ _), (by decide : 0 + 0 ≤ _)⟩) (pc' := 46) rfl ?_
             rintro _ _ ⟨T62, L62, k62, n62⟩ X62 ⟨Lc62, hQ62, l62, y62, z62⟩
             dsimp only [Pt.U, Pt.locs, Pt.cells, Pt.slots] at X62 l62 y62 z62 hQ62 ⊢
             rw [l62, y62, z62] at X62
             obtain ⟨rfl, N62q, e62⟩ := hQ62
             have N63 := Fr.app N61 N62q
             show Runs _ _ _ _ (T62.setTop (mkF m 46 #[.val (.ref a0), .val (.ref a1), .val (.int (if (lowF (chA jj4 jj3 (1 : Int32) (2 : Int32) (3 : Int32))) = (lowF (chA jj10 jj9 (1 : Int32) (2 : Int32) (3 : Int32))) then (1 : Int32) else (0 : Int32))), .val (.int (2 : Int32))] [(.int (chA jj10 jj9 (2 : Int32) (4 : Int32) (5 : Int32))), (.int (lowF (chA jj4 jj3 (2 : Int32) (4 : Int32) (5 : Int32))))]))
             refine w_static X62 hx (y := yn_25) hown (mvT hZ (wd_104 hw)) (mvT hZ (wd_105 hw)) (mvT hZ (wd_35 hw)) (mvT hZ (wd_106 hw)) (by decide) (backOf (W := 1) (rm_lower l Z aZ hw [] (chA jj10 jj9 (2 : Int32) (4 : Int32) (5 : Int32)) h0 n0 Z0 own_chA_nar) hZ (wd_106 hw) (wd_35 hw) (by decide) (by decide)) (by rw [hml]; rfl) [(.int (chA jj10 jj9 (2 : Int32) (4 : Int32) (5 : Int32)))] (lenOf pd_21 rfl) rfl (Nat.le_of_eq rfl) (d7_46 hby) (fun _ _ => ⟨rfl, e62, (by decide : 0 + 0 ≤ _), (by decide : 0 + 0 ≤ _)⟩) (pc' := 49) rfl ?_
             rintro _ _ ⟨T64, L64, k64, n64⟩ X64 ⟨Lc64, hQ64, l64, y64, z64⟩
             dsimp only [Pt.U, Pt.locs, Pt.cells, Pt.slots] at X64 l64 y64 z64 hQ64 ⊢
             rw [l64, y64, z64] at X64
             obtain ⟨rfl, N64q, e64⟩ := hQ64
             have N65 := Fr.app N63 N64q
             show Runs _ _ _ _ (T64.setTop (mkF m 49 #[.val (.ref a0), .val (.ref a1), .val (.int (if (lowF (chA jj4 jj3 (1 : Int32) (2 : Int32) (3 : Int32))) = (lowF (chA jj10 jj9 (1 : Int32) (2 : Int32) (3 : Int32))) then (1 : Int32) else (0 : Int32))), .val (.int (2 : Int32))] [(.int (lowF (chA jj10 jj9 (2 : Int32) (4 : Int32) (5 : Int32)))), (.int (lowF (chA jj4 jj3 (2 : Int32) (4 : Int32) (5 : Int32))))]))
             suffices key67 : Runs p e below (EndN s (Q_m7_58 Z a0 a1 jj0 jj1 jj2 jj3 jj4 jj5 jj6 jj7 jj8 jj9 jj10 jj11 h0 n0) ({ frames := 5, cells := 0, slots := 0, locals := 67 } : Room).cells ({ frames := 5, cells := 0, slots := 0, locals := 67 } : Room).slots) (T64.setTop (mkF m 57 #[.val (.ref a0), .val (.ref a1), .val (.int (if (lowF (chA jj4 jj3 (1 : Int32) (2 : Int32) (3 : Int32))) = (lowF (chA jj10 jj9 (1 : Int32) (2 : Int32) (3 : Int32))) then (1 : Int32) else (0 : Int32))), .val (.int (2 : Int32))] [(.int (if (lowF (chA jj4 jj3 (2 : Int32) (4 : Int32) (5 : Int32))) = (lowF (chA jj10 jj9 (2 : Int32) (4 : Int32) (5 : Int32))) then (1 : Int32) else (0 : Int32)))])) by
              by_cases hc66 : (lowF (chA jj4 jj3 (2 : Int32) (4 : Int32) (5 : Int32))) = (lowF (chA jj10 jj9 (2 : Int32) (4 : Int32) (5 : Int32)))
              · rw [if_pos hc66] at key67
                refine w_icN X64 hx (d7_49 hby) (teq hc66).2 (pc' := 52) rfl ?_
                refine w_iconst X64 hx (d7_52 hby) (v := (1 : Int32)) rfl (pc' := 53) rfl ?_
                refine w_goto X64 hx (d7_53 hby) (pc' := 57) (by decide) (by decide) ?_
                exact key67
              · rw [if_neg hc66] at key67
                refine w_icY X64 hx (d7_49 hby) (feq hc66).2 (pc' := 56) (by decide) (by decide) ?_
                refine w_iconst X64 hx (d7_56 hby) (v := (0 : Int32)) rfl (pc' := 57) rfl ?_
                exact key67
             refine w_istoreN X64 hx (d7_57 hby) (L' := #[.val (.ref a0), .val (.ref a1), .val (.int (if (lowF (chA jj4 jj3 (2 : Int32) (4 : Int32) (5 : Int32))) = (lowF (chA jj10 jj9 (2 : Int32) (4 : Int32) (5 : Int32))) then (1 : Int32) else (0 : Int32))), .val (.int (2 : Int32))]) rfl (pc' := 58) rfl ?_
             refine w_iinc X64 hx (d7_58 hby) (v := (1 : Int32)) rfl rfl (L' := #[.val (.ref a0), .val (.ref a1), .val (.int (if (lowF (chA jj4 jj3 (2 : Int32) (4 : Int32) (5 : Int32))) = (lowF (chA jj10 jj9 (2 : Int32) (4 : Int32) (5 : Int32))) then (1 : Int32) else (0 : Int32))), .val (.int ((2 : Int32) + (1 : Int32)))]) rfl (pc' := 61) rfl ?_
             rw [show ((2 : Int32) + (1 : Int32)) = (3 : Int32) from by decide]
             refine w_goto X64 hx (d7_61 hby) (pc' := 21) (by decide) (by decide) ?_
             refine w_iloadN X64 hx (d7_21 hby) rfl (pc' := 22) rfl ?_
             by_cases hc68 : (lowF (chA jj4 jj3 (2 : Int32) (4 : Int32) (5 : Int32))) = (lowF (chA jj10 jj9 (2 : Int32) (4 : Int32) (5 : Int32)))
             · have v69 : (if (lowF (chA jj4 jj3 (2 : Int32) (4 : Int32) (5 : Int32))) = (lowF (chA jj10 jj9 (2 : Int32) (4 : Int32) (5 : Int32))) then (1 : Int32) else (0 : Int32)) = (1 : Int32) := if_pos hc68
               refine w_ifN X64 hx (d7_22 hby) (feq (fun q => absurd (v69.symm.trans q) (by decide))).1 (pc' := 25) rfl ?_
               refine w_iloadN X64 hx (d7_25 hby) rfl (pc' := 26) rfl ?_
               refine w_aloadN X64 hx (d7_26 hby) rfl rfl (pc' := 27) rfl ?_
               obtain ⟨cq70, kq70, q70a, q70b, q70c⟩ := isOf hZ e64 E_a0
               refine w_virtual X64 hx (y := yn_16) (z := yn_16) hown (mvT hZ (wd_67 hw)) (mvT hZ (wd_68 hw)) (notFace_of_selects (args := #[]) (mvT hZ (wd_70 hw))) (mvT hZ (wd_70 hw)) (mvT hZ (wd_69 hw)) (by decide) (backOf (W := 1) (rm_m16_59 l Z aZ hw [] a0 jj0 jj1 jj2 jj3 jj4 jj5 h0 n0 Z0 zz12 zz13 E_a0 hP_7 zz14 zz15 zz16 O0) hZ (wd_71 hw) (wd_14 hw) (by decide) (by decide)) q70a q70c (by rw [hml]; rfl) [] (lenOf pd_14 rfl) rfl (Nat.le_of_eq rfl) (d7_27 hby) (fun _ _ => ⟨rfl, e64, (by decide : 0 + 0 ≤ _), (by decide : 0 + 0 ≤ _)⟩) (pc' := 30) rfl ?_
               rintro _ _ ⟨T70, L70, k70, n70⟩ X70 ⟨Lc70, hQ70, l70, y70, z70⟩
               dsimp only [Pt.U, Pt.locs, Pt.cells, Pt.slots] at X70 l70 y70 z70 hQ70 ⊢
               rw [l70, y70, z70] at X70
               obtain ⟨rfl, N70q, e70⟩ := hQ70
               have N71 := Fr.app N65 N70q
               show Runs _ _ _ _ (T70.setTop (mkF m 30 #[.val (.ref a0), .val (.ref a1), .val (.int (if (lowF (chA jj4 jj3 (2 : Int32) (4 : Int32) (5 : Int32))) = (lowF (chA jj10 jj9 (2 : Int32) (4 : Int32) (5 : Int32))) then (1 : Int32) else (0 : Int32))), .val (.int (3 : Int32))] [(.int (jj2 >>> (jj4 &&& 31))), (.int (3 : Int32))]))
               by_cases hc72 : (3 : Int32) < (jj2 >>> (jj4 &&& 31))
               · refine w_icN X70 hx (d7_30 hby) (tlt hc72).2.1 (pc' := 33) rfl ?_
                 refine w_aloadN X70 hx (d7_33 hby) rfl rfl (pc' := 34) rfl ?_
                 refine w_iloadN X70 hx (d7_34 hby) rfl (pc' := 35) rfl ?_
                 obtain ⟨cq73, kq73, q73a, q73b, q73c⟩ := isOf hZ e70 E_a0
                 refine w_virtual X70 hx (y := yn_18) (z := yn_18) hown (mvT hZ (wd_77 hw)) (mvT hZ (wd_78 hw)) (notFace_of_selects (args := #[]) (mvT hZ (wd_80 hw))) (mvT hZ (wd_80 hw)) (mvT hZ (wd_79 hw)) (by decide) (backOf (W := 0) (rm_m18_84 l Z aZ hw [] a0 jj5 jj4 jj0 jj1 jj2 jj3 jj11 h0 n0 Z0 E_a0 zz16 O0 zz14 hP_7 zz12 zz13 hc72 zz23 zz24 zz21 zz22 zz25 zz26 zz27) hZ (wd_81 hw) (wd_14 hw) (by decide) (by decide)) q73a q73c (by rw [hml]; rfl) [(.int (3 : Int32))] (lenOf pd_20 rfl) rfl (Nat.le_of_eq rfl) (d7_35 hby) (fun _ _ => ⟨rfl, e70, (by decide : 0 + 0 ≤ _), (by decide : 0 + 0 ≤ _)⟩) (pc' := 38) rfl ?_
                 rintro _ _ ⟨T73, L73, k73, n73⟩ X73 ⟨Lc73, hQ73, l73, y73, z73⟩
                 dsimp only [Pt.U, Pt.locs, Pt.cells, Pt.slots] at X73 l73 y73 z73 hQ73 ⊢
                 rw [l73, y73, z73] at X73
                 obtain ⟨rfl, N73q, e73⟩ := hQ73
                 have N74 := Fr.app N71 N73q
                 show Runs _ _ _ _ (T73.setTop (mkF m 38 #[.val (.ref a0), .val (.ref a1), .val (.int (if (lowF (chA jj4 jj3 (2 : Int32) (4 : Int32) (5 : Int32))) = (lowF (chA jj10 jj9 (2 : Int32) (4 : Int32) (5 : Int32))) then (1 : Int32) else (0 : Int32))), .val (.int (3 : Int32))] [(.int (chA jj4 jj3 (3 : Int32) (6 : Int32) (7 : Int32)))]))
                 refine w_static X73 hx (y := yn_25) hown (mvT hZ (wd_104 hw)) (mvT hZ (wd_105 hw)) (mvT hZ (wd_35 hw)) (mvT hZ (wd_106 hw)) (by decide) (backOf (W := 0) (rm_lower l Z aZ hw [] (chA jj4 jj3 (3 : Int32) (6 : Int32) (7 : Int32)) h0 n0 Z0 own_chA_nar) hZ (wd_106 hw) (wd_35 hw) (by decide) (by decide)) (by rw [hml]; rfl) [(.int (chA jj4 jj3 (3 : Int32) (6 : Int32) (7 : Int32)))] (lenOf pd_21 rfl) rfl (Nat.le_of_eq rfl) (d7_38 hby) (fun _ _ => ⟨rfl, e73, (by decide : 0 + 0 ≤ _), (by decide : 0 + 0 ≤ _)⟩) (pc' := 41) rfl ?_
                 rintro _ _ ⟨T75, L75, k75, n75⟩ X75 ⟨Lc75, hQ75, l75, y75, z75⟩
                 dsimp only [Pt.U, Pt.locs, Pt.cells, Pt.slots] at X75 l75 y75 z75 hQ75 ⊢
                 rw [l75, y75, z75] at X75
                 obtain ⟨rfl, N75q, e75⟩ := hQ75
                 have N76 := Fr.app N74 N75q
                 show Runs _ _ _ _ (T75.setTop (mkF m 41 #[.val (.ref a0), .val (.ref a1), .val (.int (if (lowF (chA jj4 jj3 (2 : Int32) (4 : Int32) (5 : Int32))) = (lowF (chA jj10 jj9 (2 : Int32) (4 : Int32) (5 : Int32))) then (1 : Int32) else (0 : Int32))), .val (.int (3 : Int32))] [(.int (lowF (chA jj4 jj3 (3 : Int32) (6 : Int32) (7 : Int32))))]))
                 refine w_aloadN X75 hx (d7_41 hby) rfl rfl (pc' := 42) rfl ?_
                 refine w_iloadN X75 hx (d7_42 hby) rfl (pc' := 43) rfl ?_
                 obtain ⟨cq77, kq77, q77a, q77b, q77c⟩ := isOf hZ e75 E_a1
                 refine w_virtual X75 hx (y := yn_18) (z := yn_18) hown (mvT hZ (wd_77 hw)) (mvT hZ (wd_78 hw)) (notFace_of_selects (args := #[]) (mvT hZ (wd_80 hw))) (mvT hZ (wd_80 hw)) (mvT hZ (wd_79 hw)) (by decide) (backOf (W := 1) (rm_m18_84 l Z aZ hw [] a1 jj5 jj10 jj6 jj7 jj8 jj9 jj11 h0 n0 Z0 E_a1 zz16 O0 zz19 hP_7 zz17 zz18 (Eq.mp (congrArg (fun z => (3 : Int32) < z) hc24) hc72) zz23 zz24 zz28 zz29 zz25 zz26 zz27) hZ (wd_81 hw) (wd_14 hw) (by decide) (by decide)) q77a q77c (by rw [hml]; rfl) [(.int (3 : Int32))] (lenOf pd_20 rfl) rfl (Nat.le_of_eq rfl) (d7_43 hby) (fun _ _ => ⟨rfl, e75, (by decide : 0 + 0 ≤ _), (by decide : 0 + 0 ≤ _)⟩) (pc' := 46) rfl ?_
                 rintro _ _ ⟨T77, L77, k77, n77⟩ X77 ⟨Lc77, hQ77, l77, y77, z77⟩
                 dsimp only [Pt.U, Pt.locs, Pt.cells, Pt.slots] at X77 l77 y77 z77 hQ77 ⊢
                 rw [l77, y77, z77] at X77
                 obtain ⟨rfl, N77q, e77⟩ := hQ77
                 have N78 := Fr.app N76 N77q
                 show Runs _ _ _ _ (T77.setTop (mkF m 46 #[.val (.ref a0), .val (.ref a1), .val (.int (if (lowF (chA jj4 jj3 (2 : Int32) (4 : Int32) (5 : Int32))) = (lowF (chA jj10 jj9 (2 : Int32) (4 : Int32) (5 : Int32))) then (1 : Int32) else (0 : Int32))), .val (.int (3 : Int32))] [(.int (chA jj10 jj9 (3 : Int32) (6 : Int32) (7 : Int32))), (.int (lowF (chA jj4 jj3 (3 : Int32) (6 : Int32) (7 : Int32))))]))
                 refine w_static X77 hx (y := yn_25) hown (mvT hZ (wd_104 hw)) (mvT hZ (wd_105 hw)) (mvT hZ (wd_35 hw)) (mvT hZ (wd_106 hw)) (by decide) (backOf (W := 1) (rm_lower l Z aZ hw [] (chA jj10 jj9 (3 : Int32) (6 : Int32) (7 : Int32)) h0 n0 Z0 own_chA_nar) hZ (wd_106 hw) (wd_35 hw) (by decide) (by decide)) (by rw [hml]; rfl) [(.int (chA jj10 jj9 (3 : Int32) (6 : Int32) (7 : Int32)))] (lenOf pd_21 rfl) rfl (Nat.le_of_eq rfl) (d7_46 hby) (fun _ _ => ⟨rfl, e77, (by decide : 0 + 0 ≤ _), (by decide : 0 + 0 ≤ _)⟩) (pc' := 49) rfl ?_
                 rintro _ _ ⟨T79, L79, k79, n79⟩ X79 ⟨Lc79, hQ79, l79, y79, z79⟩
                 dsimp only [Pt.U, Pt.locs, Pt.cells, Pt.slots] at X79 l79 y79 z79 hQ79 ⊢
                 rw [l79, y79, z79] at X79
                 obtain ⟨rfl, N79q, e79⟩ := hQ79
                 have N80 := Fr.app N78 N79q
                 show Runs _ _ _ _ (T79.setTop (mkF m 49 #[.val (.ref a0), .val (.ref a1), .val (.int (if (lowF (chA jj4 jj3 (2 : Int32) (4 : Int32) (5 : Int32))) = (lowF (chA jj10 jj9 (2 : Int32) (4 : Int32) (5 : Int32))) then (1 : Int32) else (0 : Int32))), .val (.int (3 : Int32))] [(.int (lowF (chA jj10 jj9 (3 : Int32) (6 : Int32) (7 : Int32)))), (.int (lowF (chA jj4 jj3 (3 : Int32) (6 : Int32) (7 : Int32))))]))
                 suffices key82 : Runs p e below (EndN s (Q_m7_58 Z a0 a1 jj0 jj1 jj2 jj3 jj4 jj5 jj6 jj7 jj8 jj9 jj10 jj11 h0 n0) ({ frames := 5, cells := 0, slots := 0, locals := 67 } : Room).cells ({ frames := 5, cells := 0, slots := 0, locals := 67 } : Room).slots) (T79.setTop (mkF m 57 #[.val (.ref a0), .val (.ref a1), .val (.int (if (lowF (chA jj4 jj3 (2 : Int32) (4 : Int32) (5 : Int32))) = (lowF (chA jj10 jj9 (2 : Int32) (4 : Int32) (5 : Int32))) then (1 : Int32) else (0 : Int32))), .val (.int (3 : Int32))] [(.int (if (lowF (chA jj4 jj3 (3 : Int32) (6 : Int32) (7 : Int32))) = (lowF (chA jj10 jj9 (3 : Int32) (6 : Int32) (7 : Int32))) then (1 : Int32) else (0 : Int32)))])) by
                  by_cases hc81 : (lowF (chA jj4 jj3 (3 : Int32) (6 : Int32) (7 : Int32))) = (lowF (chA jj10 jj9 (3 : Int32) (6 : Int32) (7 : Int32)))
                  · rw [if_pos hc81] at key82
                    refine w_icN X79 hx (d7_49 hby) (teq hc81).2 (pc' := 52) rfl ?_
                    refine w_iconst X79 hx (d7_52 hby) (v := (1 : Int32)) rfl (pc' := 53) rfl ?_
                    refine w_goto X79 hx (d7_53 hby) (pc' := 57) (by decide) (by decide) ?_
                    exact key82
                  · rw [if_neg hc81] at key82
                    refine w_icY X79 hx (d7_49 hby) (feq hc81).2 (pc' := 56) (by decide) (by decide) ?_
                    refine w_iconst X79 hx (d7_56 hby) (v := (0 : Int32)) rfl (pc' := 57) rfl ?_
                    exact key82
                 refine w_istoreN X79 hx (d7_57 hby) (L' := #[.val (.ref a0), .val (.ref a1), .val (.int (if (lowF (chA jj4 jj3 (3 : Int32) (6 : Int32) (7 : Int32))) = (lowF (chA jj10 jj9 (3 : Int32) (6 : Int32) (7 : Int32))) then (1 : Int32) else (0 : Int32))), .val (.int (3 : Int32))]) rfl (pc' := 58) rfl ?_
                 refine w_iinc X79 hx (d7_58 hby) (v := (1 : Int32)) rfl rfl (L' := #[.val (.ref a0), .val (.ref a1), .val (.int (if (lowF (chA jj4 jj3 (3 : Int32) (6 : Int32) (7 : Int32))) = (lowF (chA jj10 jj9 (3 : Int32) (6 : Int32) (7 : Int32))) then (1 : Int32) else (0 : Int32))), .val (.int ((3 : Int32) + (1 : Int32)))]) rfl (pc' := 61) rfl ?_
                 rw [show ((3 : Int32) + (1 : Int32)) = (4 : Int32) from by decide]
                 refine w_goto X79 hx (d7_61 hby) (pc' := 21) (by decide) (by decide) ?_
                 refine w_iloadN X79 hx (d7_21 hby) rfl (pc' := 22) rfl ?_
                 by_cases hc83 : (lowF (chA jj4 jj3 (3 : Int32) (6 : Int32) (7 : Int32))) = (lowF (chA jj10 jj9 (3 : Int32) (6 : Int32) (7 : Int32)))
                 · have v84 : (if (lowF (chA jj4 jj3 (3 : Int32) (6 : Int32) (7 : Int32))) = (lowF (chA jj10 jj9 (3 : Int32) (6 : Int32) (7 : Int32))) then (1 : Int32) else (0 : Int32)) = (1 : Int32) := if_pos hc83
                   refine w_ifN X79 hx (d7_22 hby) (feq (fun q => absurd (v84.symm.trans q) (by decide))).1 (pc' := 25) rfl ?_
                   refine w_iloadN X79 hx (d7_25 hby) rfl (pc' := 26) rfl ?_
                   refine w_aloadN X79 hx (d7_26 hby) rfl rfl (pc' := 27) rfl ?_
                   obtain ⟨cq85, kq85, q85a, q85b, q85c⟩ := isOf hZ e79 E_a0
                   refine w_virtual X79 hx (y := yn_16) (z := yn_16) hown (mvT hZ (wd_67 hw)) (mvT hZ (wd_68 hw)) (notFace_of_selects (args := #[]) (mvT hZ (wd_70 hw))) (mvT hZ (wd_70 hw)) (mvT hZ (wd_69 hw)) (by decide) (backOf (W := 1) (rm_m16_59 l Z aZ hw [] a0 jj0 jj1 jj2 jj3 jj4 jj5 h0 n0 Z0 zz12 zz13 E_a0 hP_7 zz14 zz15 zz16 O0) hZ (wd_71 hw) (wd_14 hw) (by decide) (by decide)) q85a q85c (by rw [hml]; rfl) [] (lenOf pd_14 rfl) rfl (Nat.le_of_eq rfl) (d7_27 hby) (fun _ _ => ⟨rfl, e79, (by decide : 0 + 0 ≤ _), (by decide : 0 + 0 ≤ _)⟩) (pc' := 30) rfl ?_
                   rintro _ _ ⟨T85, L85, k85, n85⟩ X85 ⟨Lc85, hQ85, l85, y85, z85⟩
                   dsimp only [Pt.U, Pt.locs, Pt.cells, Pt.slots] at X85 l85 y85 z85 hQ85 ⊢
                   rw [l85, y85, z85] at X85
                   obtain ⟨rfl, N85q, e85⟩ := hQ85
                   have N86 := Fr.app N80 N85q
                   show Runs _ _ _ _ (T85.setTop (mkF m 30 #[.val (.ref a0), .val (.ref a1), .val (.int (if (lowF (chA jj4 jj3 (3 : Int32) (6 : Int32) (7 : Int32))) = (lowF (chA jj10 jj9 (3 : Int32) (6 : Int32) (7 : Int32))) then (1 : Int32) else (0 : Int32))), .val (.int (4 : Int32))] [(.int (jj2 >>> (jj4 &&& 31))), (.int (4 : Int32))]))
                   refine w_icY X85 hx (d7_30 hby) (flt zz30).2.1 (pc' := 64) (by decide) (by decide) ?_
                   refine w_iloadN X85 hx (d7_64 hby) rfl (pc' := 65) rfl ?_
                   exact w_done X85 hlk (v := some (.int (if (lowF (chA jj4 jj3 (3 : Int32) (6 : Int32) (7 : Int32))) = (lowF (chA jj10 jj9 (3 : Int32) (6 : Int32) (7 : Int32))) then (1 : Int32) else (0 : Int32)))) e85 (fun h => by rw [hret] at h; cases h) (fun fs hr => retOut X85 hx hret (t := .boolean) (narrow_nar (t := .boolean) (by simp) nar_ite) (Or.inl ⟨rfl, by simp, _, rfl⟩) (d7_65 hby) hr) (by decide) (by decide) (⟨(congrArg (fun z => some (Value.int z)) (show (if (lowF (chA jj4 jj3 (3 : Int32) (6 : Int32) (7 : Int32))) = (lowF (chA jj10 jj9 (3 : Int32) (6 : Int32) (7 : Int32))) then (1 : Int32) else (0 : Int32)) = (eqS (jj2 >>> (jj4 &&& 31)) (jj8 >>> (jj10 &&& 31)) (lowF (chA jj4 jj3 (0 : Int32) (0 : Int32) (1 : Int32))) (lowF (chA jj4 jj3 (1 : Int32) (2 : Int32) (3 : Int32))) (lowF (chA jj4 jj3 (2 : Int32) (4 : Int32) (5 : Int32))) (lowF (chA jj4 jj3 (3 : Int32) (6 : Int32) (7 : Int32))) (lowF (chA jj10 jj9 (0 : Int32) (0 : Int32) (1 : Int32))) (lowF (chA jj10 jj9 (1 : Int32) (2 : Int32) (3 : Int32))) (lowF (chA jj10 jj9 (2 : Int32) (4 : Int32) (5 : Int32))) (lowF (chA jj10 jj9 (3 : Int32) (6 : Int32) (7 : Int32)))) from by unfold eqS; simp only [if_pos hc24, if_pos hc27, if_pos hc38, if_pos hc42, if_pos hc53, if_pos hc57, if_pos hc68, if_pos hc72, if_pos hc83])), N86, rfl⟩)
                 · have v87 : (if (lowF (chA jj4 jj3 (3 : Int32) (6 : Int32) (7 : Int32))) = (lowF (chA jj10 jj9 (3 : Int32) (6 : Int32) (7 : Int32))) then (1 : Int32) else (0 : Int32)) = (0 : Int32) := if_neg hc83
                   refine w_ifY X79 hx (d7_22 hby) (teq (v87.trans (by decide))).1 (pc' := 64) (by decide) (by decide) ?_
                   refine w_iloadN X79 hx (d7_64 hby) rfl (pc' := 65) rfl ?_
                   exact w_done X79 hlk (v := some (.int (if (lowF (chA jj4 jj3 (3 : Int32) (6 : Int32) (7 : Int32))) = (lowF (chA jj10 jj9 (3 : Int32) (6 : Int32) (7 : Int32))) then (1 : Int32) else (0 : Int32)))) e79 (fun h => by rw [hret] at h; cases h) (fun fs hr => retOut X79 hx hret (t := .boolean) (narrow_nar (t := .boolean) (by simp) nar_ite) (Or.inl ⟨rfl, by simp, _, rfl⟩) (d7_65 hby) hr) (by decide) (by decide) (⟨(congrArg (fun z => some (Value.int z)) (show (if (lowF (chA jj4 jj3 (3 : Int32) (6 : Int32) (7 : Int32))) = (lowF (chA jj10 jj9 (3 : Int32) (6 : Int32) (7 : Int32))) then (1 : Int32) else (0 : Int32)) = (eqS (jj2 >>> (jj4 &&& 31)) (jj8 >>> (jj10 &&& 31)) (lowF (chA jj4 jj3 (0 : Int32) (0 : Int32) (1 : Int32))) (lowF (chA jj4 jj3 (1 : Int32) (2 : Int32) (3 : Int32))) (lowF (chA jj4 jj3 (2 : Int32) (4 : Int32) (5 : Int32))) (lowF (chA jj4 jj3 (3 : Int32) (6 : Int32) (7 : Int32))) (lowF (chA jj10 jj9 (0 : Int32) (0 : Int32) (1 : Int32))) (lowF (chA jj10 jj9 (1 : Int32) (2 : Int32) (3 : Int32))) (lowF (chA jj10 jj9 (2 : Int32) (4 : Int32) (5 : Int32))) (lowF (chA jj10 jj9 (3 : Int32) (6 : Int32) (7 : Int32)))) from by unfold eqS; simp only [if_pos hc24, if_pos hc27, if_pos hc38, if_pos hc42, if_pos hc53, if_pos hc57, if_pos hc68, if_pos hc72, if_neg hc83])), N80, rfl⟩)
               · refine w_icY X70 hx (d7_30 hby) (flt hc72).2.1 (pc' := 64) (by decide) (by decide) ?_
                 refine w_iloadN X70 hx (d7_64 hby) rfl (pc' := 65) rfl ?_
                 exact w_done X70 hlk (v := some (.int (if (lowF (chA jj4 jj3 (2 : Int32) (4 : Int32) (5 : Int32))) = (lowF (chA jj10 jj9 (2 : Int32) (4 : Int32) (5 : Int32))) then (1 : Int32) else (0 : Int32)))) e70 (fun h => by rw [hret] at h; cases h) (fun fs hr => retOut X70 hx hret (t := .boolean) (narrow_nar (t := .boolean) (by simp) nar_ite) (Or.inl ⟨rfl, by simp, _, rfl⟩) (d7_65 hby) hr) (by decide) (by decide) (⟨(congrArg (fun z => some (Value.int z)) (show (if (lowF (chA jj4 jj3 (2 : Int32) (4 : Int32) (5 : Int32))) = (lowF (chA jj10 jj9 (2 : Int32) (4 : Int32) (5 : Int32))) then (1 : Int32) else (0 : Int32)) = (eqS (jj2 >>> (jj4 &&& 31)) (jj8 >>> (jj10 &&& 31)) (lowF (chA jj4 jj3 (0 : Int32) (0 : Int32) (1 : Int32))) (lowF (chA jj4 jj3 (1 : Int32) (2 : Int32) (3 : Int32))) (lowF (chA jj4 jj3 (2 : Int32) (4 : Int32) (5 : Int32))) (lowF (chA jj4 jj3 (3 : Int32) (6 : Int32) (7 : Int32))) (lowF (chA jj10 jj9 (0 : Int32) (0 : Int32) (1 : Int32))) (lowF (chA jj10 jj9 (1 : Int32) (2 : Int32) (3 : Int32))) (lowF (chA jj10 jj9 (2 : Int32) (4 : Int32) (5 : Int32))) (lowF (chA jj10 jj9 (3 : Int32) (6 : Int32) (7 : Int32)))) from by unfold eqS; simp only [if_pos hc24, if_pos hc27, if_pos hc38, if_pos hc42, if_pos hc53, if_pos hc57, if_pos hc68, if_neg hc72])), N71, rfl⟩)
             · have v88 : (if (lowF (chA jj4 jj3 (2 : Int32) (4 : Int32) (5 : Int32))) = (lowF (chA jj10 jj9 (2 : Int32) (4 : Int32) (5 : Int32))) then (1 : Int32) else (0 : Int32)) = (0 : Int32) := if_neg hc68
               refine w_ifY X64 hx (d7_22 hby) (teq (v88.trans (by decide))).1 (pc' := 64) (by decide) (by decide) ?_
               refine w_iloadN X64 hx (d7_64 hby) rfl (pc' := 65) rfl ?_
               exact w_done X64 hlk (v := some (.int (if (lowF (chA jj4 jj3 (2 : Int32) (4 : Int32) (5 : Int32))) = (lowF (chA jj10 jj9 (2 : Int32) (4 : Int32) (5 : Int32))) then (1 : Int32) else (0 : Int32)))) e64 (fun h => by rw [hret] at h; cases h) (fun fs hr => retOut X64 hx hret (t := .boolean) (narrow_nar (t := .boolean) (by simp) nar_ite) (Or.inl ⟨rfl, by simp, _, rfl⟩) (d7_65 hby) hr) (by decide) (by decide) (⟨(congrArg (fun z => some (Value.int z)) (show (if (lowF (chA jj4 jj3 (2 : Int32) (4 : Int32) (5 : Int32))) = (lowF (chA jj10 jj9 (2 : Int32) (4 : Int32) (5 : Int32))) then (1 : Int32) else (0 : Int32)) = (eqS (jj2 >>> (jj4 &&& 31)) (jj8 >>> (jj10 &&& 31)) (lowF (chA jj4 jj3 (0 : Int32) (0 : Int32) (1 : Int32))) (lowF (chA jj4 jj3 (1 : Int32) (2 : Int32) (3 : Int32))) (lowF (chA jj4 jj3 (2 : Int32) (4 : Int32) (5 : Int32))) (lowF (chA jj4 jj3 (3 : Int32) (6 : Int32) (7 : Int32))) (lowF (chA jj10 jj9 (0 : Int32) (0 : Int32) (1 : Int32))) (lowF (chA jj10 jj9 (1 : Int32) (2 : Int32) (3 : Int32))) (lowF (chA jj10 jj9 (2 : Int32) (4 : Int32) (5 : Int32))) (lowF (chA jj10 jj9 (3 : Int32) (6 : Int32) (7 : Int32)))) from by unfold eqS; simp only [if_pos hc24, if_pos hc27, if_pos hc38, if_pos hc42, if_pos hc53, if_pos hc57, if_neg hc68])), N65, rfl⟩)
           · refine w_icY X55 hx (d7_30 hby) (flt hc57).2.1 (pc' := 64) (by decide) (by decide) ?_
             refine w_iloadN X55 hx (d7_64 hby) rfl (pc' := 65) rfl ?_
             exact w_done X55 hlk (v := some (.int (if (lowF (chA jj4 jj3 (1 : Int32) (2 : Int32) (3 : Int32))) = (lowF (chA jj10 jj9 (1 : Int32) (2 : Int32) (3 : Int32))) then (1 : Int32) else (0 : Int32)))) e55 (fun h => by rw [hret] at h; cases h) (fun fs hr => retOut X55 hx hret (t := .boolean) (narrow_nar (t := .boolean) (by simp) nar_ite) (Or.inl ⟨rfl, by simp, _, rfl⟩) (d7_65 hby) hr) (by decide) (by decide) (⟨(congrArg (fun z => some (Value.int z)) (show (if (lowF (chA jj4 jj3 (1 : Int32) (2 : Int32) (3 : Int32))) = (lowF (chA jj10 jj9 (1 : Int32) (2 : Int32) (3 : Int32))) then (1 : Int32) else (0 : Int32)) = (eqS (jj2 >>> (jj4 &&& 31)) (jj8 >>> (jj10 &&& 31)) (lowF (chA jj4 jj3 (0 : Int32) (0 : Int32) (1 : Int32))) (lowF (chA jj4 jj3 (1 : Int32) (2 : Int32) (3 : Int32))) (lowF (chA jj4 jj3 (2 : Int32) (4 : Int32) (5 : Int32))) (lowF (chA jj4 jj3 (3 : Int32) (6 : Int32) (7 : Int32))) (lowF (chA jj10 jj9 (0 : Int32) (0 : Int32) (1 : Int32))) (lowF (chA jj10 jj9 (1 : Int32) (2 : Int32) (3 : Int32))) (lowF (chA jj10 jj9 (2 : Int32) (4 : Int32) (5 : Int32))) (lowF (chA jj10 jj9 (3 : Int32) (6 : Int32) (7 : Int32)))) from by unfold eqS; simp only [if_pos hc24, if_pos hc27, if_pos hc38, if_pos hc42, if_pos hc53, if_neg hc57])), N56, rfl⟩)
         · have v89 : (if (lowF (chA jj4 jj3 (1 : Int32) (2 : Int32) (3 : Int32))) = (lowF (chA jj10 jj9 (1 : Int32) (2 : Int32) (3 : Int32))) then (1 : Int32) else (0 : Int32)) = (0 : Int32) := if_neg hc53
           refine w_ifY X49 hx (d7_22 hby) (teq (v89.trans (by decide))).1 (pc' := 64) (by decide) (by decide) ?_
           refine w_iloadN X49 hx (d7_64 hby) rfl (pc' := 65) rfl ?_
           exact w_done X49 hlk (v := some (.int (if (lowF (chA jj4 jj3 (1 : Int32) (2 : Int32) (3 : Int32))) = (lowF (chA jj10 jj9 (1 : Int32) (2 : Int32) (3 : Int32))) then (1 : Int32) else (0 : Int32)))) e49 (fun h => by rw [hret] at h; cases h) (fun fs hr => retOut X49 hx hret (t := .boolean) (narrow_nar (t := .boolean) (by simp) nar_ite) (Or.inl ⟨rfl, by simp, _, rfl⟩) (d7_65 hby) hr) (by decide) (by decide) (⟨(congrArg (fun z => some (Value.int z)) (show (if (lowF (chA jj4 jj3 (1 : Int32) (2 : Int32) (3 : Int32))) = (lowF (chA jj10 jj9 (1 : Int32) (2 : Int32) (3 : Int32))) then (1 : Int32) else (0 : Int32)) = (eqS (jj2 >>> (jj4 &&& 31)) (jj8 >>> (jj10 &&& 31)) (lowF (chA jj4 jj3 (0 : Int32) (0 : Int32) (1 : Int32))) (lowF (chA jj4 jj3 (1 : Int32) (2 : Int32) (3 : Int32))) (lowF (chA jj4 jj3 (2 : Int32) (4 : Int32) (5 : Int32))) (lowF (chA jj4 jj3 (3 : Int32) (6 : Int32) (7 : Int32))) (lowF (chA jj10 jj9 (0 : Int32) (0 : Int32) (1 : Int32))) (lowF (chA jj10 jj9 (1 : Int32) (2 : Int32) (3 : Int32))) (lowF (chA jj10 jj9 (2 : Int32) (4 : Int32) (5 : Int32))) (lowF (chA jj10 jj9 (3 : Int32) (6 : Int32) (7 : Int32)))) from by unfold eqS; simp only [if_pos hc24, if_pos hc27, if_pos hc38, if_pos hc42, if_neg hc53])), N50, rfl⟩)
       · refine w_icY X40 hx (d7_30 hby) (flt hc42).2.1 (pc' := 64) (by decide) (by decide) ?_
         refine w_iloadN X40 hx (d7_64 hby) rfl (pc' := 65) rfl ?_
         exact w_done X40 hlk (v := some (.int (if (lowF (chA jj4 jj3 (0 : Int32) (0 : Int32) (1 : Int32))) = (lowF (chA jj10 jj9 (0 : Int32) (0 : Int32) (1 : Int32))) then (1 : Int32) else (0 : Int32)))) e40 (fun h => by rw [hret] at h; cases h) (fun fs hr => retOut X40 hx hret (t := .boolean) (narrow_nar (t := .boolean) (by simp) nar_ite) (Or.inl ⟨rfl, by simp, _, rfl⟩) (d7_65 hby) hr) (by decide) (by decide) (⟨(congrArg (fun z => some (Value.int z)) (show (if (lowF (chA jj4 jj3 (0 : Int32) (0 : Int32) (1 : Int32))) = (lowF (chA jj10 jj9 (0 : Int32) (0 : Int32) (1 : Int32))) then (1 : Int32) else (0 : Int32)) = (eqS (jj2 >>> (jj4 &&& 31)) (jj8 >>> (jj10 &&& 31)) (lowF (chA jj4 jj3 (0 : Int32) (0 : Int32) (1 : Int32))) (lowF (chA jj4 jj3 (1 : Int32) (2 : Int32) (3 : Int32))) (lowF (chA jj4 jj3 (2 : Int32) (4 : Int32) (5 : Int32))) (lowF (chA jj4 jj3 (3 : Int32) (6 : Int32) (7 : Int32))) (lowF (chA jj10 jj9 (0 : Int32) (0 : Int32) (1 : Int32))) (lowF (chA jj10 jj9 (1 : Int32) (2 : Int32) (3 : Int32))) (lowF (chA jj10 jj9 (2 : Int32) (4 : Int32) (5 : Int32))) (lowF (chA jj10 jj9 (3 : Int32) (6 : Int32) (7 : Int32)))) from by unfold eqS; simp only [if_pos hc24, if_pos hc27, if_pos hc38, if_neg hc42])), N41, rfl⟩)
     · have v90 : (if (lowF (chA jj4 jj3 (0 : Int32) (0 : Int32) (1 : Int32))) = (lowF (chA jj10 jj9 (0 : Int32) (0 : Int32) (1 : Int32))) then (1 : Int32) else (0 : Int32)) = (0 : Int32) := if_neg hc38
       refine w_ifY X34 hx (d7_22 hby) (teq (v90.trans (by decide))).1 (pc' := 64) (by decide) (by decide) ?_
       refine w_iloadN X34 hx (d7_64 hby) rfl (pc' := 65) rfl ?_
       exact w_done X34 hlk (v := some (.int (if (lowF (chA jj4 jj3 (0 : Int32) (0 : Int32) (1 : Int32))) = (lowF (chA jj10 jj9 (0 : Int32) (0 : Int32) (1 : Int32))) then (1 : Int32) else (0 : Int32)))) e34 (fun h => by rw [hret] at h; cases h) (fun fs hr => retOut X34 hx hret (t := .boolean) (narrow_nar (t := .boolean) (by simp) nar_ite) (Or.inl ⟨rfl, by simp, _, rfl⟩) (d7_65 hby) hr) (by decide) (by decide) (⟨(congrArg (fun z => some (Value.int z)) (show (if (lowF (chA jj4 jj3 (0 : Int32) (0 : Int32) (1 : Int32))) = (lowF (chA jj10 jj9 (0 : Int32) (0 : Int32) (1 : Int32))) then (1 : Int32) else (0 : Int32)) = (eqS (jj2 >>> (jj4 &&& 31)) (jj8 >>> (jj10 &&& 31)) (lowF (chA jj4 jj3 (0 : Int32) (0 : Int32) (1 : Int32))) (lowF (chA jj4 jj3 (1 : Int32) (2 : Int32) (3 : Int32))) (lowF (chA jj4 jj3 (2 : Int32) (4 : Int32) (5 : Int32))) (lowF (chA jj4 jj3 (3 : Int32) (6 : Int32) (7 : Int32))) (lowF (chA jj10 jj9 (0 : Int32) (0 : Int32) (1 : Int32))) (lowF (chA jj10 jj9 (1 : Int32) (2 : Int32) (3 : Int32))) (lowF (chA jj10 jj9 (2 : Int32) (4 : Int32) (5 : Int32))) (lowF (chA jj10 jj9 (3 : Int32) (6 : Int32) (7 : Int32)))) from by unfold eqS; simp only [if_pos hc24, if_pos hc27, if_neg hc38])), N35, rfl⟩)
   · refine w_icY X25 hx (d7_30 hby) (flt hc27).2.1 (pc' := 64) (by decide) (by decide) ?_
     refine w_iloadN X25 hx (d7_64 hby) rfl (pc' := 65) rfl ?_
     exact w_done X25 hlk (v := some (.int (1 : Int32))) e25 (fun h => by rw [hret] at h; cases h) (fun fs hr => retN X25 hx (t := .boolean) hret (by simp) (d7_65 hby) hr) (by decide) (by decide) (⟨(congrArg (fun z => some (Value.int z)) (show (1 : Int32) = (eqS (jj2 >>> (jj4 &&& 31)) (jj8 >>> (jj10 &&& 31)) (lowF (chA jj4 jj3 (0 : Int32) (0 : Int32) (1 : Int32))) (lowF (chA jj4 jj3 (1 : Int32) (2 : Int32) (3 : Int32))) (lowF (chA jj4 jj3 (2 : Int32) (4 : Int32) (5 : Int32))) (lowF (chA jj4 jj3 (3 : Int32) (6 : Int32) (7 : Int32))) (lowF (chA jj10 jj9 (0 : Int32) (0 : Int32) (1 : Int32))) (lowF (chA jj10 jj9 (1 : Int32) (2 : Int32) (3 : Int32))) (lowF (chA jj10 jj9 (2 : Int32) (4 : Int32) (5 : Int32))) (lowF (chA jj10 jj9 (3 : Int32) (6 : Int32) (7 : Int32)))) from by unfold eqS; simp only [if_pos hc24, if_neg hc27])), N26, rfl⟩)
 · refine w_icN X22 hx (d7_12 hby) (feq hc24).1 (pc' := 15) rfl ?_
   refine w_iconst X22 hx (d7_15 hby) (v := (0 : Int32)) rfl (pc' := 16) rfl ?_
   exact w_done X22 hlk (v := some (.int (0 : Int32))) e22 (fun h => by rw [hret] at h; cases h) (fun fs hr => retN X22 hx (t := .boolean) hret (by simp) (d7_16 hby) hr) (by decide) (by decide) (⟨(congrArg (fun z => some (Value.int z)) (show (0 : Int32) = (eqS (jj2 >>> (jj4 &&& 31)) (jj8 >>> (jj10 &&& 31)) (lowF (chA jj4 jj3 (0 : Int32) (0 : Int32) (1 : Int32))) (lowF (chA jj4 jj3 (1 : Int32) (2 : Int32) (3 : Int32))) (lowF (chA jj4 jj3 (2 : Int32) (4 : Int32) (5 : Int32))) (lowF (chA jj4 jj3 (3 : Int32) (6 : Int32) (7 : Int32))) (lowF (chA jj10 jj9 (0 : Int32) (0 : Int32) (1 : Int32))) (lowF (chA jj10 jj9 (1 : Int32) (2 : Int32) (3 : Int32))) (lowF (chA jj10 jj9 (2 : Int32) (4 : Int32) (5 : Int32))) (lowF (chA jj10 jj9 (3 : Int32) (6 : Int32) (7 : Int32)))) from by unfold eqS; simp only [if_neg hc24])), N23, rfl⟩)
theorem ef_law (m : MethodId) (p0 : Int32) (p1 : Int32) (p2 : Int32) (p3 : Int32) (p4 : Int32)  : entryFrame m #[(.int p0), (.int p1), (.int p2), (.int p3), (.int p4)] maxLocals = mkF m 0 #[.val (.int p0), .val (.int p1), .val (.int p2), .val (.int p3), .val (.int p4), .unset, .unset, .unset, .unset, .unset, .unset, .unset, .unset, .unset] [] := by first | (simp [entryFrame, mkF, argsToLocals, Value.category, maxLocals]; done) | rfl
def Q_law (Z : State) (p0 : Int32) (p1 : Int32) (p2 : Int32) (p3 : Int32) (p4 : Int32) (G_COMPACT_STRINGS : Int32) (G_SIOOBE_FORMATTER : Value) (h0 : Heap) (n0 : Nat) (v : Option Value) (h : Heap) (L : List Loc) (S : Addr → Prop) : Prop := v = some (.int (1 : Int32)) ∧ Fr n0 L
theorem rm_law (l : Launch) (Z : State) (aZ : Array Value) (hw : ∀ d ∈ tables_1, d.before aZ Z = true) (ws : List Jvm.Cond) (p0 : Int32) (p1 : Int32) (p2 : Int32) (p3 : Int32) (p4 : Int32) (G_COMPACT_STRINGS : Int32) (G_SIOOBE_FORMATTER : Value) (h0 : Heap) (n0 : Nat) (Z0 : n0 ≤ h0.size) (S_COMPACT_STRINGS : Sta Z Z.heap kc0 "COMPACT_STRINGS" "Z" (.int G_COMPACT_STRINGS)) (O0 : Old Z n0 h0) (S__assertionsDisabled : Sta Z Z.heap kc1 "$assertionsDisabled" "Z" (.int (1 : Int32))) (S_HI_BYTE_SHIFT : Sta Z Z.heap kc1 "HI_BYTE_SHIFT" "I" (.int (0 : Int32))) (S_LO_BYTE_SHIFT : Sta Z Z.heap kc1 "LO_BYTE_SHIFT" "I" (.int (8 : Int32))) (hP_5 : ¬ (G_COMPACT_STRINGS = (0 : Int32))) (r_G_SIOOBE_FORMATTER : G_SIOOBE_FORMATTER.isRef = true) (S_SIOOBE_FORMATTER : Sta Z Z.heap kc2 "SIOOBE_FORMATTER" "Ljava/util/function/BiFunction;" G_SIOOBE_FORMATTER) :
    MetH l Z EL x code maxLocals ret ws room_1 #[(.int p0), (.int p1), (.int p2), (.int p3), (.int p4)] h0 (Q_law Z p0 p1 p2 p3 p4 G_COMPACT_STRINGS G_SIOOBE_FORMATTER h0 n0) [] := by
 refine MetH.of (plainFor_of_name pn_0) ?_
 intro p e s m below meth c s₁ hret hx hby hml hown hnm hlk hZ X0 e0 hh hH hsf hS0 C0
 have N0 := Fr.nil n0
 rw [ef_law m p0 p1 p2 p3 p4]
 refine w_iconst X0 hx (hb hby at_0) (v := (4 : Int32)) rfl (pc' := 1) rfl ?_
 refine w_newP X0 hx .char .char 4 rfl hZ (wd_0 hw) e0 (hb hby at_1) (by decide) (by decide) (by decide) (by decide) (by decide) (pc' := 3) rfl ?_
 intro T20 h20 k20 b20 X20 e20 E20 g20 A20
 have ge21 : n0 ≤ b20 := Nat.le_trans Z0 (Nat.le_of_eq g20.symm)
 have sz22 : h0.size ≤ b20 := Nat.le_trans (Nat.le_refl _) (Nat.le_of_eq g20.symm)
 have C23 : CHr Z EL s.vm h0 s.vm h20 := C0.trans (CHr.ext E20 C0.1)
 have K24 : Keep h0 h20 [] := (Keep.refl h0 []).ext E20
 have V25 : Arv Z h20 b20 k20 .char (4 : Int32) [(.int (0 : Int32)), (.int (0 : Int32)), (.int (0 : Int32)), (.int (0 : Int32))] (.int (0 : Int32)) := (Arv.new A20 (by decide)).pad (pad_rep [] (.int (0 : Int32)) 4)
 refine w_astore X20 hx (hb hby at_3) rfl (L' := #[.val (.int p0), .val (.int p1), .val (.int p2), .val (.int p3), .val (.int p4), .val (.ref b20), .unset, .unset, .unset, .unset, .unset, .unset, .unset, .unset]) rfl (pc' := 5) rfl ?_
 refine w_aload X20 hx (hb hby at_5) rfl rfl (pc' := 7) rfl ?_
 refine w_iconst X20 hx (hb hby at_7) (v := (0 : Int32)) rfl (pc' := 8) rfl ?_
 refine w_iloadN X20 hx (hb hby at_8) rfl (pc' := 9) rfl ?_
 refine w_ldcI X20 hx hZ hown (wd_1 hw) (hb hby at_9) (pc' := 11) rfl ?_
 refine w_iand X20 hx (hb hby at_11) (pc' := 12) rfl ?_
 refine w_iload X20 hx (hb hby at_12) rfl (pc' := 14) rfl ?_
 refine w_bipush X20 hx (hb hby at_14) (v := (18 : Int32)) rfl (pc' := 16) rfl ?_
 refine w_static X20 hx (y := yn_1) hown (mvT hZ (wd_2 hw)) (mvT hZ (wd_3 hw)) (mvT hZ (wd_4 hw)) (mvT hZ (wd_5 hw)) (by decide) (backOf (W := 2) (rm_draw l Z aZ hw [] (p0 &&& (65535 : Int32)) p4 (18 : Int32) h20 n0 (Nat.le_trans Z0 E20.1) ) hZ (wd_5 hw) (wd_4 hw) (by decide) (by decide)) (by rw [hml]; rfl) [(.int (p0 &&& (65535 : Int32))), (.int p4), (.int (18 : Int32))] (lenOf pd_0 rfl) rfl (Nat.le_of_eq rfl) (hb hby at_16) (fun _ _ => ⟨rfl, e20, (by decide : 1 + 0 ≤ _), (by decide : 4 + 0 ≤ _)⟩) (pc' := 19) rfl ?_
 rintro _ _ ⟨T26, L26, k26, n26⟩ X26 ⟨Lc26, hQ26, l26, y26, z26⟩
 dsimp only [Pt.U, Pt.locs, Pt.cells, Pt.slots] at X26 l26 y26 z26 hQ26 ⊢
 rw [l26, y26, z26] at X26
 obtain ⟨c_26, rfl, N26q, e26, g26_0⟩ := hQ26
 have N27 := Fr.app N0 N26q
 show Runs _ _ _ _ (T26.setTop (mkF m 19 #[.val (.int p0), .val (.int p1), .val (.int p2), .val (.int p3), .val (.int p4), .val (.ref b20), .unset, .unset, .unset, .unset, .unset, .unset, .unset, .unset] [(.int c_26), (.int (0 : Int32)), (.ref b20)]))
 obtain ⟨clu28, Aru28, qu28, Su28, Nu28, Hu28, Gu28⟩ := id V25
 have hinu28 := inb_of (j := (0 : Int32)) Su28 ⟨by decide, by decide⟩
 refine w_stC X26 hx hZ e26 Aru28 hinu28 (hb hby at_19) (pc' := 20) rfl ?_
 intro T29 h29 X29 e29 W29
 have C30 : CHr Z EL s.vm h0 s.vm h29 := C23.trans (CHr.wr W29 (Safe.arv hZ.alike V25 (by decide)) C23.1)
 have V31 : Arv Z h29 b20 k20 .char (4 : Int32) [(.int (nar .char c_26)), (.int (0 : Int32)), (.int (0 : Int32)), (.int (0 : Int32))] (.int (0 : Int32)) := Arv.set Aru28 qu28 Su28 Nu28 Hu28 Gu28 (fits_nar_char _) W29 0 rfl (Nat.le_of_ble_eq_true rfl)
 have V32 : Arv Z h29 b20 k20 .char (4 : Int32) [(.int c_26), (.int (0 : Int32)), (.int (0 : Int32)), (.int (0 : Int32))] (.int (0 : Int32)) := by rw [g26_0] at V31; exact V31
 have K33 : Keep h0 h29 [] := K24.wr W29 (Or.inr sz22)
 have N34 := Fr.snoc X29 N27 ge21
 refine w_aload X29 hx (hb hby at_20) rfl rfl (pc' := 22) rfl ?_
 refine w_iconst X29 hx (hb hby at_22) (v := (1 : Int32)) rfl (pc' := 23) rfl ?_
 refine w_iloadN X29 hx (hb hby at_23) rfl (pc' := 24) rfl ?_
 refine w_bipush X29 hx (hb hby at_24) (v := (16 : Int32)) rfl (pc' := 26) rfl ?_
 refine w_iushr X29 hx (hb hby at_26) (pc' := 27) rfl ?_
 refine w_iload X29 hx (hb hby at_27) rfl (pc' := 29) rfl ?_
 refine w_bipush X29 hx (hb hby at_29) (v := (19 : Int32)) rfl (pc' := 31) rfl ?_
 have le35 : h0.size ≤ h29.size := (Nat.le_trans E20.1 (Keep.of_wr W29).1)
 refine w_static X29 hx (y := yn_1) hown (mvT hZ (wd_2 hw)) (mvT hZ (wd_3 hw)) (mvT hZ (wd_4 hw)) (mvT hZ (wd_5 hw)) (by decide) (backOf (W := 2) (rm_draw l Z aZ hw [] ((p0.toUInt32 >>> ((16 : Int32) &&& 31).toUInt32).toInt32) p4 (19 : Int32) h29 n0 (Nat.le_trans Z0 le35) ) hZ (wd_5 hw) (wd_4 hw) (by decide) (by decide)) (by rw [hml]; rfl) [(.int ((p0.toUInt32 >>> ((16 : Int32) &&& 31).toUInt32).toInt32)), (.int p4), (.int (19 : Int32))] (lenOf pd_0 rfl) rfl (Nat.le_of_eq rfl) (hb hby at_31) (fun _ _ => ⟨rfl, e29, (by decide : 1 + 0 ≤ _), (by decide : 4 + 0 ≤ _)⟩) (pc' := 34) rfl ?_
 rintro _ _ ⟨T36, L36, k36, n36⟩ X36 ⟨Lc36, hQ36, l36, y36, z36⟩
 dsimp only [Pt.U, Pt.locs, Pt.cells, Pt.slots] at X36 l36 y36 z36 hQ36 ⊢
 rw [l36, y36, z36] at X36
 obtain ⟨c_36, rfl, N36q, e36, g36_0⟩ := hQ36
 have N37 := Fr.app N34 N36q
 show Runs _ _ _ _ (T36.setTop (mkF m 34 #[.val (.int p0), .val (.int p1), .val (.int p2), .val (.int p3), .val (.int p4), .val (.ref b20), .unset, .unset, .unset, .unset, .unset, .unset, .unset, .unset] [(.int c_36), (.int (1 : Int32)), (.ref b20)]))
 obtain ⟨clu38, Aru38, qu38, Su38, Nu38, Hu38, Gu38⟩ := id V32
 have hinu38 := inb_of (j := (1 : Int32)) Su38 ⟨by decide, by decide⟩
 refine w_stC X36 hx hZ e36 Aru38 hinu38 (hb hby at_34) (pc' := 35) rfl ?_
 intro T39 h39 X39 e39 W39
 have C40 : CHr Z EL s.vm h0 s.vm h39 := C30.trans (CHr.wr W39 (Safe.arv hZ.alike V32 (by decide)) C30.1)
 have V41 : Arv Z h39 b20 k20 .char (4 : Int32) [(.int c_26), (.int (nar .char c_36)), (.int (0 : Int32)), (.int (0 : Int32))] (.int (0 : Int32)) := Arv.set Aru38 qu38 Su38 Nu38 Hu38 Gu38 (fits_nar_char _) W39 1 rfl (Nat.le_of_ble_eq_true rfl)
 have V42 : Arv Z h39 b20 k20 .char (4 : Int32) [(.int c_26), (.int c_36), (.int (0 : Int32)), (.int (0 : Int32))] (.int (0 : Int32)) := by rw [g36_0] at V41; exact V41
 have K43 : Keep h0 h39 [] := K33.wr W39 (Or.inr sz22)
 have N44 := Fr.snoc X39 N37 ge21
 refine w_aload X39 hx (hb hby at_35) rfl rfl (pc' := 37) rfl ?_
 refine w_iconst X39 hx (hb hby at_37) (v := (2 : Int32)) rfl (pc' := 38) rfl ?_
 refine w_iloadN X39 hx (hb hby at_38) rfl (pc' := 39) rfl ?_
 refine w_ldcI X39 hx hZ hown (wd_1 hw) (hb hby at_39) (pc' := 41) rfl ?_
 refine w_iand X39 hx (hb hby at_41) (pc' := 42) rfl ?_
 refine w_iload X39 hx (hb hby at_42) rfl (pc' := 44) rfl ?_
 refine w_bipush X39 hx (hb hby at_44) (v := (20 : Int32)) rfl (pc' := 46) rfl ?_
 have le45 : h0.size ≤ h39.size := (Nat.le_trans le35 (Keep.of_wr W39).1)
 refine w_static X39 hx (y := yn_1) hown (mvT hZ (wd_2 hw)) (mvT hZ (wd_3 hw)) (mvT hZ (wd_4 hw)) (mvT hZ (wd_5 hw)) (by decide) (backOf (W := 2) (rm_draw l Z aZ hw [] (p1 &&& (65535 : Int32)) p4 (20 : Int32) h39 n0 (Nat.le_trans Z0 le45) ) hZ (wd_5 hw) (wd_4 hw) (by decide) (by decide)) (by rw [hml]; rfl) [(.int (p1 &&& (65535 : Int32))), (.int p4), (.int (20 : Int32))] (lenOf pd_0 rfl) rfl (Nat.le_of_eq rfl) (hb hby at_46) (fun _ _ => ⟨rfl, e39, (by decide : 1 + 0 ≤ _), (by decide : 4 + 0 ≤ _)⟩) (pc' := 49) rfl ?_
 rintro _ _ ⟨T46, L46, k46, n46⟩ X46 ⟨Lc46, hQ46, l46, y46, z46⟩
 dsimp only [Pt.U, Pt.locs, Pt.cells, Pt.slots] at X46 l46 y46 z46 hQ46 ⊢
 rw [l46, y46, z46] at X46
 obtain ⟨c_46, rfl, N46q, e46, g46_0⟩ := hQ46
 have N47 := Fr.app N44 N46q
 show Runs _ _ _ _ (T46.setTop (mkF m 49 #[.val (.int p0), .val (.int p1), .val (.int p2), .val (.int p3), .val (.int p4), .val (.ref b20), .unset, .unset, .unset, .unset, .unset, .unset, .unset, .unset] [(.int c_46), (.int (2 : Int32)), (.ref b20)]))
 obtain ⟨clu48, Aru48, qu48, Su48, Nu48, Hu48, Gu48⟩ := id V42
 have hinu48 := inb_of (j := (2 : Int32)) Su48 ⟨by decide, by decide⟩
 refine w_stC X46 hx hZ e46 Aru48 hinu48 (hb hby at_49) (pc' := 50) rfl ?_
 intro T49 h49 X49 e49 W49
 have C50 : CHr Z EL s.vm h0 s.vm h49 := C40.trans (CHr.wr W49 (Safe.arv hZ.alike V42 (by decide)) C40.1)
 have V51 : Arv Z h49 b20 k20 .char (4 : Int32) [(.int c_26), (.int c_36), (.int (nar .char c_46)), (.int (0 : Int32))] (.int (0 : Int32)) := Arv.set Aru48 qu48 Su48 Nu48 Hu48 Gu48 (fits_nar_char _) W49 2 rfl (Nat.le_of_ble_eq_true rfl)
 have V52 : Arv Z h49 b20 k20 .char (4 : Int32) [(.int c_26), (.int c_36), (.int c_46), (.int (0 : Int32))] (.int (0 : Int32)) := by rw [g46_0] at V51; exact V51
 have K53 : Keep h0 h49 [] := K43.wr W49 (Or.inr sz22)
 have N54 := Fr.snoc X49 N47 ge21
 refine w_aload X49 hx (hb hby at_50) rfl rfl (pc' := 52) rfl ?_
 refine w_iconst X49 hx (hb hby at_52) (v := (3 : Int32)) rfl (pc' := 53) rfl ?_
 refine w_iloadN X49 hx (hb hby at_53) rfl (pc' := 54) rfl ?_
 refine w_bipush X49 hx (hb hby at_54) (v := (16 : Int32)) rfl (pc' := 56) rfl ?_
 refine w_iushr X49 hx (hb hby at_56) (pc' := 57) rfl ?_
 refine w_iload X49 hx (hb hby at_57) rfl (pc' := 59) rfl ?_
 refine w_bipush X49 hx (hb hby at_59) (v := (21 : Int32)) rfl (pc' := 61) rfl ?_
 have le55 : h0.size ≤ h49.size := (Nat.le_trans le45 (Keep.of_wr W49).1)
 refine w_static X49 hx (y := yn_1) hown (mvT hZ (wd_2 hw)) (mvT hZ (wd_3 hw)) (mvT hZ (wd_4 hw)) (mvT hZ (wd_5 hw)) (by decide) (backOf (W := 2) (rm_draw l Z aZ hw [] ((p1.toUInt32 >>> ((16 : Int32) &&& 31).toUInt32).toInt32) p4 (21 : Int32) h49 n0 (Nat.le_trans Z0 le55) ) hZ (wd_5 hw) (wd_4 hw) (by decide) (by decide)) (by rw [hml]; rfl) [(.int ((p1.toUInt32 >>> ((16 : Int32) &&& 31).toUInt32).toInt32)), (.int p4), (.int (21 : Int32))] (lenOf pd_0 rfl) rfl (Nat.le_of_eq rfl) (hb hby at_61) (fun _ _ => ⟨rfl, e49, (by decide : 1 + 0 ≤ _), (by decide : 4 + 0 ≤ _)⟩) (pc' := 64) rfl ?_
 rintro _ _ ⟨T56, L56, k56, n56⟩ X56 ⟨Lc56, hQ56, l56, y56, z56⟩
 dsimp only [Pt.U, Pt.locs, Pt.cells, Pt.slots] at X56 l56 y56 z56 hQ56 ⊢
 rw [l56, y56, z56] at X56
 obtain ⟨c_56, rfl, N56q, e56, g56_0⟩ := hQ56
 have N57 := Fr.app N54 N56q
 show Runs _ _ _ _ (T56.setTop (mkF m 64 #[.val (.int p0), .val (.int p1), .val (.int p2), .val (.int p3), .val (.int p4), .val (.ref b20), .unset, .unset, .unset, .unset, .unset, .unset, .unset, .unset] [(.int c_56), (.int (3 : Int32)), (.ref b20)]))
 obtain ⟨clu58, Aru58, qu58, Su58, Nu58, Hu58, Gu58⟩ := id V52
 have hinu58 := inb_of (j := (3 : Int32)) Su58 ⟨by decide, by decide⟩
 refine w_stC X56 hx hZ e56 Aru58 hinu58 (hb hby at_64) (pc' := 65) rfl ?_
 intro T59 h59 X59 e59 W59
 have C60 : CHr Z EL s.vm h0 s.vm h59 := C50.trans (CHr.wr W59 (Safe.arv hZ.alike V52 (by decide)) C50.1)
 have V61 : Arv Z h59 b20 k20 .char (4 : Int32) [(.int c_26), (.int c_36), (.int c_46), (.int (nar .char c_56))] (.int (0 : Int32)) := Arv.set Aru58 qu58 Su58 Nu58 Hu58 Gu58 (fits_nar_char _) W59 3 rfl (Nat.le_of_ble_eq_true rfl)
 have V62 : Arv Z h59 b20 k20 .char (4 : Int32) [(.int c_26), (.int c_36), (.int c_46), (.int c_56)] (.int (0 : Int32)) := by rw [g56_0] at V61; exact V61
 have K63 : Keep h0 h59 [] := K53.wr W59 (Or.inr sz22)
 have N64 := Fr.snoc X59 N57 ge21
 refine w_iconst X59 hx (hb hby at_65) (v := (4 : Int32)) rfl (pc' := 66) rfl ?_
 refine w_newP X59 hx .char .char 4 rfl hZ (wd_0 hw) e59 (hb hby at_66) (by decide) (by decide) (by decide) (by decide) (by decide) (pc' := 68) rfl ?_
 intro T65 h65 k65 b65 X65 e65 E65 g65 A65
 have le67 : h0.size ≤ h59.size := (Nat.le_trans le55 (Keep.of_wr W59).1)
 have ge66 : n0 ≤ b65 := Nat.le_trans (Nat.le_trans Z0 le67) (Nat.le_of_eq g65.symm)
 have sz68 : h0.size ≤ b65 := Nat.le_trans le67 (Nat.le_of_eq g65.symm)
 have C69 : CHr Z EL s.vm h0 s.vm h65 := C60.trans (CHr.ext E65 C60.1)
 have K70 : Keep h0 h65 [] := K63.ext E65
 have V71 : Arv Z h65 b65 k65 .char (4 : Int32) [(.int (0 : Int32)), (.int (0 : Int32)), (.int (0 : Int32)), (.int (0 : Int32))] (.int (0 : Int32)) := (Arv.new A65 (by decide)).pad (pad_rep [] (.int (0 : Int32)) 4)
 refine w_astore X65 hx (hb hby at_68) rfl (L' := #[.val (.int p0), .val (.int p1), .val (.int p2), .val (.int p3), .val (.int p4), .val (.ref b20), .val (.ref b65), .unset, .unset, .unset, .unset, .unset, .unset, .unset]) rfl (pc' := 70) rfl ?_
 refine w_aload X65 hx (hb hby at_70) rfl rfl (pc' := 72) rfl ?_
 refine w_iconst X65 hx (hb hby at_72) (v := (0 : Int32)) rfl (pc' := 73) rfl ?_
 refine w_aload X65 hx (hb hby at_73) rfl rfl (pc' := 75) rfl ?_
 refine w_iconst X65 hx (hb hby at_75) (v := (0 : Int32)) rfl (pc' := 76) rfl ?_
 have f72 : Arv Z h65 b20 k20 .char (4 : Int32) [(.int c_26), (.int c_36), (.int c_46), (.int c_56)] (.int (0 : Int32)) := (V62.ext E65)
 obtain ⟨clu73, Aru73, qu73, Su73, Nu73, Hu73, Gu73⟩ := id f72
 have hinu73 := inb_of (j := (0 : Int32)) Su73 ⟨by decide, by decide⟩
 refine w_caload X65 hx hZ e65 Aru73 hinu73 (Hu73.at hinu73 rfl) (hb hby at_76) (pc' := 77) rfl ?_
 refine w_iloadN X65 hx (hb hby at_77) rfl (pc' := 78) rfl ?_
 refine w_ldcI X65 hx hZ hown (wd_1 hw) (hb hby at_78) (pc' := 80) rfl ?_
 refine w_iand X65 hx (hb hby at_80) (pc' := 81) rfl ?_
 refine w_iload X65 hx (hb hby at_81) rfl (pc' := 83) rfl ?_
 refine w_bipush X65 hx (hb hby at_83) (v := (10 : Int32)) rfl (pc' := 85) rfl ?_
 have le74 : h0.size ≤ h65.size := (Nat.le_trans le67 E65.1)
 refine w_static X65 hx (y := yn_2) hown (mvT hZ (wd_6 hw)) (mvT hZ (wd_7 hw)) (mvT hZ (wd_4 hw)) (mvT hZ (wd_8 hw)) (by decide) (backOf (W := 2) (rm_derive l Z aZ hw [] c_26 (p2 &&& (65535 : Int32)) p4 (10 : Int32) h65 n0 (Nat.le_trans Z0 le74) g26_0) hZ (wd_8 hw) (wd_4 hw) (by decide) (by decide)) (by rw [hml]; rfl) [(.int c_26), (.int (p2 &&& (65535 : Int32))), (.int p4), (.int (10 : Int32))] (lenOf pd_1 rfl) rfl (Nat.le_of_eq rfl) (hb hby at_85) (fun _ _ => ⟨rfl, e65, (by decide : 2 + 0 ≤ _), (by decide : 8 + 0 ≤ _)⟩) (pc' := 88) rfl ?_
 rintro _ _ ⟨T75, L75, k75, n75⟩ X75 ⟨Lc75, hQ75, l75, y75, z75⟩
 dsimp only [Pt.U, Pt.locs, Pt.cells, Pt.slots] at X75 l75 y75 z75 hQ75 ⊢
 rw [l75, y75, z75] at X75
 obtain ⟨c_75, rfl, N75q, e75, g75_0⟩ := hQ75
 have N76 := Fr.app N64 N75q
 show Runs _ _ _ _ (T75.setTop (mkF m 88 #[.val (.int p0), .val (.int p1), .val (.int p2), .val (.int p3), .val (.int p4), .val (.ref b20), .val (.ref b65), .unset, .unset, .unset, .unset, .unset, .unset, .unset] [(.int c_75), (.int (0 : Int32)), (.ref b65)]))
 obtain ⟨clu77, Aru77, qu77, Su77, Nu77, Hu77, Gu77⟩ := id V71
 have hinu77 := inb_of (j := (0 : Int32)) Su77 ⟨by decide, by decide⟩
 refine w_stC X75 hx hZ e75 Aru77 hinu77 (hb hby at_88) (pc' := 89) rfl ?_
 intro T78 h78 X78 e78 W78
 have C79 : CHr Z EL s.vm h0 s.vm h78 := C69.trans (CHr.wr W78 (Safe.arv hZ.alike V71 (by decide)) C69.1)
 have V80 : Arv Z h78 b65 k65 .char (4 : Int32) [(.int (nar .char c_75)), (.int (0 : Int32)), (.int (0 : Int32)), (.int (0 : Int32))] (.int (0 : Int32)) := Arv.set Aru77 qu77 Su77 Nu77 Hu77 Gu77 (fits_nar_char _) W78 0 rfl (Nat.le_of_ble_eq_true rfl)
 have V81 : Arv Z h78 b65 k65 .char (4 : Int32) [(.int c_75), (.int (0 : Int32)), (.int (0 : Int32)), (.int (0 : Int32))] (.int (0 : Int32)) := by rw [g75_0] at V80; exact V80
 have K82 : Keep h0 h78 [] := K70.wr W78 (Or.inr sz68)
 have N83 := Fr.snoc X78 N76 ge66
 refine w_aload X78 hx (hb hby at_89) rfl rfl (pc' := 91) rfl ?_
 refine w_iconst X78 hx (hb hby at_91) (v := (1 : Int32)) rfl (pc' := 92) rfl ?_
 refine w_aload X78 hx (hb hby at_92) rfl rfl (pc' := 94) rfl ?_
 refine w_iconst X78 hx (hb hby at_94) (v := (1 : Int32)) rfl (pc' := 95) rfl ?_
 have le84 : h20.size ≤ h39.size := (Nat.le_trans (Keep.of_wr W29).1 (Keep.of_wr W39).1)
 have le85 : h20.size ≤ h49.size := (Nat.le_trans le84 (Keep.of_wr W49).1)
 have le86 : h20.size ≤ h59.size := (Nat.le_trans le85 (Keep.of_wr W59).1)
 have ne87 : b20 ≠ b65 := (Nat.ne_of_lt (Nat.lt_of_lt_of_le A20.lt (Nat.le_trans le86 (Nat.le_of_eq g65.symm))))
 have f88 : Arv Z h78 b20 k20 .char (4 : Int32) [(.int c_26), (.int c_36), (.int c_46), (.int c_56)] (.int (0 : Int32)) := (f72.other W78 ne87)
 obtain ⟨clu89, Aru89, qu89, Su89, Nu89, Hu89, Gu89⟩ := id f88
 have hinu89 := inb_of (j := (1 : Int32)) Su89 ⟨by decide, by decide⟩
 refine w_caload X78 hx hZ e78 Aru89 hinu89 (Hu89.at hinu89 rfl) (hb hby at_95) (pc' := 96) rfl ?_
 refine w_iloadN X78 hx (hb hby at_96) rfl (pc' := 97) rfl ?_
 refine w_bipush X78 hx (hb hby at_97) (v := (16 : Int32)) rfl (pc' := 99) rfl ?_
 refine w_iushr X78 hx (hb hby at_99) (pc' := 100) rfl ?_
 refine w_iload X78 hx (hb hby at_100) rfl (pc' := 102) rfl ?_
 refine w_bipush X78 hx (hb hby at_102) (v := (12 : Int32)) rfl (pc' := 104) rfl ?_
 have le90 : h0.size ≤ h78.size := (Nat.le_trans le74 (Keep.of_wr W78).1)
 refine w_static X78 hx (y := yn_2) hown (mvT hZ (wd_6 hw)) (mvT hZ (wd_7 hw)) (mvT hZ (wd_4 hw)) (mvT hZ (wd_8 hw)) (by decide) (backOf (W := 2) (rm_derive l Z aZ hw [] c_36 ((p2.toUInt32 >>> ((16 : Int32) &&& 31).toUInt32).toInt32) p4 (12 : Int32) h78 n0 (Nat.le_trans Z0 le90) g36_0) hZ (wd_8 hw) (wd_4 hw) (by decide) (by decide)) (by rw [hml]; rfl) [(.int c_36), (.int ((p2.toUInt32 >>> ((16 : Int32) &&& 31).toUInt32).toInt32)), (.int p4), (.int (12 : Int32))] (lenOf pd_1 rfl) rfl (Nat.le_of_eq rfl) (hb hby at_104) (fun _ _ => ⟨rfl, e78, (by decide : 2 + 0 ≤ _), (by decide : 8 + 0 ≤ _)⟩) (pc' := 107) rfl ?_
 rintro _ _ ⟨T91, L91, k91, n91⟩ X91 ⟨Lc91, hQ91, l91, y91, z91⟩
 dsimp only [Pt.U, Pt.locs, Pt.cells, Pt.slots] at X91 l91 y91 z91 hQ91 ⊢
 rw [l91, y91, z91] at X91
 obtain ⟨c_91, rfl, N91q, e91, g91_0⟩ := hQ91
 have N92 := Fr.app N83 N91q
 show Runs _ _ _ _ (T91.setTop (mkF m 107 #[.val (.int p0), .val (.int p1), .val (.int p2), .val (.int p3), .val (.int p4), .val (.ref b20), .val (.ref b65), .unset, .unset, .unset, .unset, .unset, .unset, .unset] [(.int c_91), (.int (1 : Int32)), (.ref b65)]))
 obtain ⟨clu93, Aru93, qu93, Su93, Nu93, Hu93, Gu93⟩ := id V81
 have hinu93 := inb_of (j := (1 : Int32)) Su93 ⟨by decide, by decide⟩
 refine w_stC X91 hx hZ e91 Aru93 hinu93 (hb hby at_107) (pc' := 108) rfl ?_
 intro T94 h94 X94 e94 W94
 have C95 : CHr Z EL s.vm h0 s.vm h94 := C79.trans (CHr.wr W94 (Safe.arv hZ.alike V81 (by decide)) C79.1)
 have V96 : Arv Z h94 b65 k65 .char (4 : Int32) [(.int c_75), (.int (nar .char c_91)), (.int (0 : Int32)), (.int (0 : Int32))] (.int (0 : Int32)) := Arv.set Aru93 qu93 Su93 Nu93 Hu93 Gu93 (fits_nar_char _) W94 1 rfl (Nat.le_of_ble_eq_true rfl)
 have V97 : Arv Z h94 b65 k65 .char (4 : Int32) [(.int c_75), (.int c_91), (.int (0 : Int32)), (.int (0 : Int32))] (.int (0 : Int32)) := by rw [g91_0] at V96; exact V96
 have K98 : Keep h0 h94 [] := K82.wr W94 (Or.inr sz68)
 have N99 := Fr.snoc X94 N92 ge66
 refine w_aload X94 hx (hb hby at_108) rfl rfl (pc' := 110) rfl ?_
 refine w_iconst X94 hx (hb hby at_110) (v := (2 : Int32)) rfl (pc' := 111) rfl ?_
 refine w_aload X94 hx (hb hby at_111) rfl rfl (pc' := 113) rfl ?_
 refine w_iconst X94 hx (hb hby at_113) (v := (2 : Int32)) rfl (pc' := 114) rfl ?_
 have f100 : Arv Z h94 b20 k20 .char (4 : Int32) [(.int c_26), (.int c_36), (.int c_46), (.int c_56)] (.int (0 : Int32)) := (f88.other W94 ne87)
 obtain ⟨clu101, Aru101, qu101, Su101, Nu101, Hu101, Gu101⟩ := id f100
 have hinu101 := inb_of (j := (2 : Int32)) Su101 ⟨by decide, by decide⟩
 refine w_caload X94 hx hZ e94 Aru101 hinu101 (Hu101.at hinu101 rfl) (hb hby at_114) (pc' := 115) rfl ?_
 refine w_iloadN X94 hx (hb hby at_115) rfl (pc' := 116) rfl ?_
 refine w_ldcI X94 hx hZ hown (wd_1 hw) (hb hby at_116) (pc' := 118) rfl ?_
 refine w_iand X94 hx (hb hby at_118) (pc' := 119) rfl ?_
 refine w_iload X94 hx (hb hby at_119) rfl (pc' := 121) rfl ?_
 refine w_bipush X94 hx (hb hby at_121) (v := (14 : Int32)) rfl (pc' := 123) rfl ?_
 have le102 : h0.size ≤ h94.size := (Nat.le_trans le90 (Keep.of_wr W94).1)
 refine w_static X94 hx (y := yn_2) hown (mvT hZ (wd_6 hw)) (mvT hZ (wd_7 hw)) (mvT hZ (wd_4 hw)) (mvT hZ (wd_8 hw)) (by decide) (backOf (W := 2) (rm_derive l Z aZ hw [] c_46 (p3 &&& (65535 : Int32)) p4 (14 : Int32) h94 n0 (Nat.le_trans Z0 le102) g46_0) hZ (wd_8 hw) (wd_4 hw) (by decide) (by decide)) (by rw [hml]; rfl) [(.int c_46), (.int (p3 &&& (65535 : Int32))), (.int p4), (.int (14 : Int32))] (lenOf pd_1 rfl) rfl (Nat.le_of_eq rfl) (hb hby at_123) (fun _ _ => ⟨rfl, e94, (by decide : 2 + 0 ≤ _), (by decide : 8 + 0 ≤ _)⟩) (pc' := 126) rfl ?_
 rintro _ _ ⟨T103, L103, k103, n103⟩ X103 ⟨Lc103, hQ103, l103, y103, z103⟩
 dsimp only [Pt.U, Pt.locs, Pt.cells, Pt.slots] at X103 l103 y103 z103 hQ103 ⊢
 rw [l103, y103, z103] at X103
 obtain ⟨c_103, rfl, N103q, e103, g103_0⟩ := hQ103
 have N104 := Fr.app N99 N103q
 show Runs _ _ _ _ (T103.setTop (mkF m 126 #[.val (.int p0), .val (.int p1), .val (.int p2), .val (.int p3), .val (.int p4), .val (.ref b20), .val (.ref b65), .unset, .unset, .unset, .unset, .unset, .unset, .unset] [(.int c_103), (.int (2 : Int32)), (.ref b65)]))
 obtain ⟨clu105, Aru105, qu105, Su105, Nu105, Hu105, Gu105⟩ := id V97
 have hinu105 := inb_of (j := (2 : Int32)) Su105 ⟨by decide, by decide⟩
 refine w_stC X103 hx hZ e103 Aru105 hinu105 (hb hby at_126) (pc' := 127) rfl ?_
 intro T106 h106 X106 e106 W106
 have C107 : CHr Z EL s.vm h0 s.vm h106 := C95.trans (CHr.wr W106 (Safe.arv hZ.alike V97 (by decide)) C95.1)
 have V108 : Arv Z h106 b65 k65 .char (4 : Int32) [(.int c_75), (.int c_91), (.int (nar .char c_103)), (.int (0 : Int32))] (.int (0 : Int32)) := Arv.set Aru105 qu105 Su105 Nu105 Hu105 Gu105 (fits_nar_char _) W106 2 rfl (Nat.le_of_ble_eq_true rfl)
 have V109 : Arv Z h106 b65 k65 .char (4 : Int32) [(.int c_75), (.int c_91), (.int c_103), (.int (0 : Int32))] (.int (0 : Int32)) := by rw [g103_0] at V108; exact V108
 have K110 : Keep h0 h106 [] := K98.wr W106 (Or.inr sz68)
 have N111 := Fr.snoc X106 N104 ge66
 refine w_aload X106 hx (hb hby at_127) rfl rfl (pc' := 129) rfl ?_
 refine w_iconst X106 hx (hb hby at_129) (v := (3 : Int32)) rfl (pc' := 130) rfl ?_
 refine w_aload X106 hx (hb hby at_130) rfl rfl (pc' := 132) rfl ?_
 refine w_iconst X106 hx (hb hby at_132) (v := (3 : Int32)) rfl (pc' := 133) rfl ?_
 have f112 : Arv Z h106 b20 k20 .char (4 : Int32) [(.int c_26), (.int c_36), (.int c_46), (.int c_56)] (.int (0 : Int32)) := (f100.other W106 ne87)
 obtain ⟨clu113, Aru113, qu113, Su113, Nu113, Hu113, Gu113⟩ := id f112
 have hinu113 := inb_of (j := (3 : Int32)) Su113 ⟨by decide, by decide⟩
 refine w_caload X106 hx hZ e106 Aru113 hinu113 (Hu113.at hinu113 rfl) (hb hby at_133) (pc' := 134) rfl ?_
 refine w_iloadN X106 hx (hb hby at_134) rfl (pc' := 135) rfl ?_
 refine w_bipush X106 hx (hb hby at_135) (v := (16 : Int32)) rfl (pc' := 137) rfl ?_
 refine w_iushr X106 hx (hb hby at_137) (pc' := 138) rfl ?_
 refine w_iload X106 hx (hb hby at_138) rfl (pc' := 140) rfl ?_
 refine w_bipush X106 hx (hb hby at_140) (v := (16 : Int32)) rfl (pc' := 142) rfl ?_
 have le114 : h0.size ≤ h106.size := (Nat.le_trans le102 (Keep.of_wr W106).1)
 refine w_static X106 hx (y := yn_2) hown (mvT hZ (wd_6 hw)) (mvT hZ (wd_7 hw)) (mvT hZ (wd_4 hw)) (mvT hZ (wd_8 hw)) (by decide) (backOf (W := 2) (rm_derive l Z aZ hw [] c_56 ((p3.toUInt32 >>> ((16 : Int32) &&& 31).toUInt32).toInt32) p4 (16 : Int32) h106 n0 (Nat.le_trans Z0 le114) g56_0) hZ (wd_8 hw) (wd_4 hw) (by decide) (by decide)) (by rw [hml]; rfl) [(.int c_56), (.int ((p3.toUInt32 >>> ((16 : Int32) &&& 31).toUInt32).toInt32)), (.int p4), (.int (16 : Int32))] (lenOf pd_1 rfl) rfl (Nat.le_of_eq rfl) (hb hby at_142) (fun _ _ => ⟨rfl, e106, (by decide : 2 + 0 ≤ _), (by decide : 8 + 0 ≤ _)⟩) (pc' := 145) rfl ?_
 rintro _ _ ⟨T115, L115, k115, n115⟩ X115 ⟨Lc115, hQ115, l115, y115, z115⟩
 dsimp only [Pt.U, Pt.locs, Pt.cells, Pt.slots] at X115 l115 y115 z115 hQ115 ⊢
 rw [l115, y115, z115] at X115
 obtain ⟨c_115, rfl, N115q, e115, g115_0⟩ := hQ115
 have N116 := Fr.app N111 N115q
 show Runs _ _ _ _ (T115.setTop (mkF m 145 #[.val (.int p0), .val (.int p1), .val (.int p2), .val (.int p3), .val (.int p4), .val (.ref b20), .val (.ref b65), .unset, .unset, .unset, .unset, .unset, .unset, .unset] [(.int c_115), (.int (3 : Int32)), (.ref b65)]))
 obtain ⟨clu117, Aru117, qu117, Su117, Nu117, Hu117, Gu117⟩ := id V109
 have hinu117 := inb_of (j := (3 : Int32)) Su117 ⟨by decide, by decide⟩
 refine w_stC X115 hx hZ e115 Aru117 hinu117 (hb hby at_145) (pc' := 146) rfl ?_
 intro T118 h118 X118 e118 W118
 have C119 : CHr Z EL s.vm h0 s.vm h118 := C107.trans (CHr.wr W118 (Safe.arv hZ.alike V109 (by decide)) C107.1)
 have V120 : Arv Z h118 b65 k65 .char (4 : Int32) [(.int c_75), (.int c_91), (.int c_103), (.int (nar .char c_115))] (.int (0 : Int32)) := Arv.set Aru117 qu117 Su117 Nu117 Hu117 Gu117 (fits_nar_char _) W118 3 rfl (Nat.le_of_ble_eq_true rfl)
 have V121 : Arv Z h118 b65 k65 .char (4 : Int32) [(.int c_75), (.int c_91), (.int c_103), (.int c_115)] (.int (0 : Int32)) := by rw [g115_0] at V120; exact V120
 have K122 : Keep h0 h118 [] := K110.wr W118 (Or.inr sz68)
 have N123 := Fr.snoc X118 N116 ge66
 refine w_iload X118 hx (hb hby at_146) rfl (pc' := 148) rfl ?_
 refine w_bipush X118 hx (hb hby at_148) (v := (7 : Int32)) rfl (pc' := 150) rfl ?_
 refine w_iand X118 hx (hb hby at_150) (pc' := 151) rfl ?_
 refine w_iconst X118 hx (hb hby at_151) (v := (5 : Int32)) rfl (pc' := 152) rfl ?_
 refine w_irem X118 hx (hb hby at_152) (by decide : ¬ ((5 : Int32) = (0 : Int32))) (pc' := 153) rfl ?_
 refine w_istore X118 hx (hb hby at_153) (L' := #[.val (.int p0), .val (.int p1), .val (.int p2), .val (.int p3), .val (.int p4), .val (.ref b20), .val (.ref b65), .val (.int ((p4 &&& (7 : Int32)) % (5 : Int32))), .unset, .unset, .unset, .unset, .unset, .unset]) rfl (pc' := 155) rfl ?_
 have hg124 : ¬ ((p4 &&& (7 : Int32)) % (5 : Int32)) < 0 := (own_n5 _).1
 have hg125 : ((p4 &&& (7 : Int32)) % (5 : Int32)) < 5 := (own_n5 _).2
 generalize ((p4 &&& (7 : Int32)) % (5 : Int32)) = nn at hg124 hg125 ⊢
 refine w_iload X118 hx (hb hby at_155) rfl (pc' := 157) rfl ?_
 refine w_iconst X118 hx (hb hby at_157) (v := (3 : Int32)) rfl (pc' := 158) rfl ?_
 refine w_iushr X118 hx (hb hby at_158) (pc' := 159) rfl ?_
 refine w_iconst X118 hx (hb hby at_159) (v := (1 : Int32)) rfl (pc' := 160) rfl ?_
 refine w_iand X118 hx (hb hby at_160) (pc' := 161) rfl ?_
 suffices key127 : ∀ gc126 : Int32, ¬ gc126 < 0 → gc126 < 5 → Runs p e below (EndH s Z EL (Q_law Z p0 p1 p2 p3 p4 G_COMPACT_STRINGS G_SIOOBE_FORMATTER h0 n0) room_1.cells room_1.slots) (T118.setTop (mkF m 178 #[.val (.int p0), .val (.int p1), .val (.int p2), .val (.int p3), .val (.int p4), .val (.ref b20), .val (.ref b65), .val (.int nn), .unset, .unset, .unset, .unset, .unset, .unset] [(.int gc126)])) by
  by_cases hc128 : (((p4.toUInt32 >>> ((3 : Int32) &&& 31).toUInt32).toInt32) &&& (1 : Int32)) = (0 : Int32)
  · refine w_ifN X118 hx (hb hby at_161) (teq hc128).2 (pc' := 164) rfl ?_
    refine w_iload X118 hx (hb hby at_164) rfl (pc' := 166) rfl ?_
    refine w_goto X118 hx (hb hby at_166) (pc' := 178) (by decide) (by decide) ?_
    exact key127 _ hg124 hg125
  · refine w_ifY X118 hx (hb hby at_161) (feq hc128).2 (pc' := 169) (by decide) (by decide) ?_
    refine w_iload X118 hx (hb hby at_169) rfl (pc' := 171) rfl ?_
    refine w_iconst X118 hx (hb hby at_171) (v := (4 : Int32)) rfl (pc' := 172) rfl ?_
    refine w_iushr X118 hx (hb hby at_172) (pc' := 173) rfl ?_
    refine w_bipush X118 hx (hb hby at_173) (v := (7 : Int32)) rfl (pc' := 175) rfl ?_
    refine w_iand X118 hx (hb hby at_175) (pc' := 176) rfl ?_
    refine w_iconst X118 hx (hb hby at_176) (v := (5 : Int32)) rfl (pc' := 177) rfl ?_
    refine w_irem X118 hx (hb hby at_177) (by decide : ¬ ((5 : Int32) = (0 : Int32))) (pc' := 178) rfl ?_
    exact key127 _ (own_n5 _).1 (own_n5 _).2
 intro gc126 hg129 hg130
 refine w_istore X118 hx (hb hby at_178) (L' := #[.val (.int p0), .val (.int p1), .val (.int p2), .val (.int p3), .val (.int p4), .val (.ref b20), .val (.ref b65), .val (.int nn), .val (.int gc126), .unset, .unset, .unset, .unset, .unset]) rfl (pc' := 180) rfl ?_
 refine w_iload X118 hx (hb hby at_180) rfl (pc' := 182) rfl ?_
 refine w_bipush X118 hx (hb hby at_182) (v := (7 : Int32)) rfl (pc' := 184) rfl ?_
 refine w_iushr X118 hx (hb hby at_184) (pc' := 185) rfl ?_
 refine w_bipush X118 hx (hb hby at_185) (v := (7 : Int32)) rfl (pc' := 187) rfl ?_
 refine w_iand X118 hx (hb hby at_187) (pc' := 188) rfl ?_
 by_cases hc131 : (((p4.toUInt32 >>> ((7 : Int32) &&& 31).toUInt32).toInt32) &&& (7 : Int32)) = (0 : Int32)
 · refine w_ifN X118 hx (hb hby at_188) (teq hc131).2 (pc' := 191) rfl ?_
   refine w_iconst X118 hx (hb hby at_191) (v := (1 : Int32)) rfl (pc' := 192) rfl ?_
   refine w_goto X118 hx (hb hby at_192) (pc' := 196) (by decide) (by decide) ?_
   refine w_istore X118 hx (hb hby at_196) (L' := #[.val (.int p0), .val (.int p1), .val (.int p2), .val (.int p3), .val (.int p4), .val (.ref b20), .val (.ref b65), .val (.int nn), .val (.int gc126), .val (.int (1 : Int32)), .unset, .unset, .unset, .unset]) rfl (pc' := 198) rfl ?_
   refine w_aload X118 hx (hb hby at_198) rfl rfl (pc' := 200) rfl ?_
   refine w_iload X118 hx (hb hby at_200) rfl (pc' := 202) rfl ?_
   have f132 : Arv Z h118 b20 k20 .char (4 : Int32) [(.int c_26), (.int c_36), (.int c_46), (.int c_56)] (.int (0 : Int32)) := (f112.other W118 ne87)
   have f133 : Old Z n0 h118 := ((((((((((O0.ext E20).wr W29 ge21).wr W39 ge21).wr W49 ge21).wr W59 ge21).ext E65).wr W78 ge66).wr W94 ge66).wr W106 ge66).wr W118 ge66)
   have le134 : h0.size ≤ h118.size := (Nat.le_trans le114 (Keep.of_wr W118).1)
   refine w_staticS X118 hx (y := yn_3) hown (mvT hZ (wd_9 hw)) (mvT hZ (wd_10 hw)) (mvT hZ (wd_4 hw)) (mvT hZ (wd_11 hw)) (by decide) (backOfY (W := 0) (rm_m3_3 l Z aZ hw [] b20 nn k20 c_26 c_36 c_46 c_56 G_COMPACT_STRINGS h118 n0 (Nat.le_trans Z0 le134) f132 g26_0 S_COMPACT_STRINGS f133 S__assertionsDisabled S_HI_BYTE_SHIFT S_LO_BYTE_SHIFT hP_5 g36_0 g46_0 g56_0 hg125 hg124) hZ (wd_11 hw) (wd_4 hw) (by decide) (by decide) (own_EW hw) C119.1 sf0 all0) (by rw [hml]; rfl) [(.ref b20), (.int nn)] (lenOf pd_11 rfl) rfl (Nat.le_of_eq rfl) (hb hby at_202) (fun _ _ => ⟨rfl, e118, (by decide : 2 + 6 ≤ _), (by decide : 8 + 20 ≤ _)⟩) (pc' := 205) rfl ?_
   rintro _ _ ⟨T135, L135, k135, n135⟩ XX135 hSS135 hg135 ⟨Lc135, hQ135, l135, y135, z135, A135⟩
   dsimp only [Pt.U, Pt.locs, Pt.cells, Pt.slots] at XX135 l135 y135 z135 hQ135 hSS135 hg135 A135 ⊢
   rw [l135, y135, z135] at XX135
   obtain ⟨X135, hS135, hZ135, hown135⟩ := rebS hS0 (Nat.le_trans (Nat.le_refl _) le134) XX135 hSS135 (e118 ▸ hg135) hZ hown
   obtain ⟨r_135, t_135, kb_135, cd_135, rfl, N135q, K135, g135_0, g135_1, g135_2, g135_3, g135_4, g135_5, g135_6⟩ := hQ135
   have N136 := Fr.app N123 N135q
   have C137 : CHr Z EL s.vm h0 T135.vm T135.heap := C119.trans A135
   have K138 : Keep h0 T135.heap [] := K122.trans K135 (all0 (P := fun x => x ∈ [] ∨ h0.size ≤ x))
   have ge139 : n0 ≤ r_135 := Nat.le_trans (Nat.le_trans Z0 le134) g135_0
   have sz140 : h0.size ≤ r_135 := Nat.le_trans le134 g135_0
   show Runs _ _ _ _ (T135.setTop (mkF m 205 #[.val (.int p0), .val (.int p1), .val (.int p2), .val (.int p3), .val (.int p4), .val (.ref b20), .val (.ref b65), .val (.int nn), .val (.int gc126), .val (.int (1 : Int32)), .unset, .unset, .unset, .unset] [(.ref r_135)]))
   refine w_astore X135 hx (hb hby at_205) rfl (L' := #[.val (.int p0), .val (.int p1), .val (.int p2), .val (.int p3), .val (.int p4), .val (.ref b20), .val (.ref b65), .val (.int nn), .val (.int gc126), .val (.int (1 : Int32)), .val (.ref r_135), .unset, .unset, .unset]) rfl (pc' := 207) rfl ?_
   refine w_iload X135 hx (hb hby at_207) rfl (pc' := 209) rfl ?_
   refine w_ifN X135 hx (hb hby at_209) (feq (by decide : ¬ ((1 : Int32) = (0 : Int32)))).1 (pc' := 212) rfl ?_
   refine w_null X135 hx (hb hby at_212) (pc' := 213) rfl ?_
   refine w_goto X135 hx (hb hby at_213) (pc' := 223) (by decide) (by decide) ?_
   refine w_astore X135 hx (hb hby at_223) rfl (L' := #[.val (.int p0), .val (.int p1), .val (.int p2), .val (.int p3), .val (.int p4), .val (.ref b20), .val (.ref b65), .val (.int nn), .val (.int gc126), .val (.int (1 : Int32)), .val (.ref r_135), .val .null, .unset, .unset]) rfl (pc' := 225) rfl ?_
   refine w_aload X135 hx (hb hby at_225) rfl rfl (pc' := 227) rfl ?_
   refine w_aload X135 hx (hb hby at_227) rfl rfl (pc' := 229) rfl ?_
   have le141 : h0.size ≤ T135.heap.size := (Nat.le_trans le134 K135.1)
   refine w_static X135 hx (y := yn_7) hown135 (mvT hZ135 (wd_33 hw)) (mvT hZ135 (wd_34 hw)) (mvT hZ135 (wd_35 hw)) (mvT hZ135 (wd_36 hw)) (by decide) (backOf (W := 0) (rm_m7_57 l Z aZ hw [] r_135 T135.heap n0 (Nat.le_trans Z0 le141) ) hZ135 (wd_36 hw) (wd_35 hw) (by decide) (by decide)) (by rw [hml]; rfl) [(.ref r_135), .null] (lenOf pd_12 rfl) rfl (Nat.le_of_eq rfl) (hb hby at_229) (fun _ _ => ⟨rfl, rfl, (by decide : 8 + 0 ≤ _), (by decide : 28 + 0 ≤ _)⟩) (pc' := 232) rfl ?_
   rintro _ _ ⟨T142, L142, k142, n142⟩ X142 ⟨Lc142, hQ142, l142, y142, z142⟩
   dsimp only [Pt.U, Pt.locs, Pt.cells, Pt.slots] at X142 l142 y142 z142 hQ142 ⊢
   rw [l142, y142, z142] at X142
   obtain ⟨rfl, N142q, e142⟩ := hQ142
   have N143 := Fr.app N136 N142q
   show Runs _ _ _ _ (T142.setTop (mkF m 232 #[.val (.int p0), .val (.int p1), .val (.int p2), .val (.int p3), .val (.int p4), .val (.ref b20), .val (.ref b65), .val (.int nn), .val (.int gc126), .val (.int (1 : Int32)), .val (.ref r_135), .val .null, .unset, .unset] [(.int (0 : Int32))]))
   refine w_istore X142 hx (hb hby at_232) (L' := #[.val (.int p0), .val (.int p1), .val (.int p2), .val (.int p3), .val (.int p4), .val (.ref b20), .val (.ref b65), .val (.int nn), .val (.int gc126), .val (.int (1 : Int32)), .val (.ref r_135), .val .null, .val (.int (0 : Int32)), .unset]) rfl (pc' := 234) rfl ?_
   refine w_iload X142 hx (hb hby at_234) rfl (pc' := 236) rfl ?_
   refine w_ifY X142 hx (hb hby at_236) (feq (by decide : ¬ ((1 : Int32) = (0 : Int32)))).2 (pc' := 330) (by decide) (by decide) ?_
   refine w_iconst X142 hx (hb hby at_330) (v := (0 : Int32)) rfl (pc' := 331) rfl ?_
   refine w_istore X142 hx (hb hby at_331) (L' := #[.val (.int p0), .val (.int p1), .val (.int p2), .val (.int p3), .val (.int p4), .val (.ref b20), .val (.ref b65), .val (.int nn), .val (.int gc126), .val (.int (1 : Int32)), .val (.ref r_135), .val .null, .val (.int (0 : Int32)), .val (.int (0 : Int32))]) rfl (pc' := 333) rfl ?_
   refine w_iload X142 hx (hb hby at_333) rfl (pc' := 335) rfl ?_
   refine w_iload X142 hx (hb hby at_335) rfl (pc' := 337) rfl ?_
   refine w_icN X142 hx (hb hby at_337) (teq (by decide : (0 : Int32) = (0 : Int32))).2 (pc' := 340) rfl ?_
   refine w_iconst X142 hx (hb hby at_340) (v := (1 : Int32)) rfl (pc' := 341) rfl ?_
   refine w_goto X142 hx (hb hby at_341) (pc' := 345) (by decide) (by decide) ?_
   exact w_doneH X142 hlk (v := some (.int (1 : Int32))) e142 hh hZ135 (own_EW hw) hS135 (Nat.le_refl _) C137 (fun h => by rw [hret] at h; cases h) (fun fs hr => retN X142 hx (t := .boolean) hret (by simp) (hb hby at_345) hr) (by decide) (by decide) (fun hsy => ⟨rfl, N143⟩)
 · refine w_ifY X118 hx (hb hby at_188) (feq hc131).2 (pc' := 195) (by decide) (by decide) ?_
   refine w_iconst X118 hx (hb hby at_195) (v := (0 : Int32)) rfl (pc' := 196) rfl ?_
   refine w_istore X118 hx (hb hby at_196) (L' := #[.val (.int p0), .val (.int p1), .val (.int p2), .val (.int p3), .val (.int p4), .val (.ref b20), .val (.ref b65), .val (.int nn), .val (.int gc126), .val (.int (0 : Int32)), .unset, .unset, .unset, .unset]) rfl (pc' := 198) rfl ?_
   refine w_aload X118 hx (hb hby at_198) rfl rfl (pc' := 200) rfl ?_
   refine w_iload X118 hx (hb hby at_200) rfl (pc' := 202) rfl ?_
   have f144 : Arv Z h118 b20 k20 .char (4 : Int32) [(.int c_26), (.int c_36), (.int c_46), (.int c_56)] (.int (0 : Int32)) := (f112.other W118 ne87)
   have f145 : Old Z n0 h118 := ((((((((((O0.ext E20).wr W29 ge21).wr W39 ge21).wr W49 ge21).wr W59 ge21).ext E65).wr W78 ge66).wr W94 ge66).wr W106 ge66).wr W118 ge66)
   have le146 : h0.size ≤ h118.size := (Nat.le_trans le114 (Keep.of_wr W118).1)
   refine w_staticS X118 hx (y := yn_3) hown (mvT hZ (wd_9 hw)) (mvT hZ (wd_10 hw)) (mvT hZ (wd_4 hw)) (mvT hZ (wd_11 hw)) (by decide) (backOfY (W := 0) (rm_m3_3 l Z aZ hw [] b20 nn k20 c_26 c_36 c_46 c_56 G_COMPACT_STRINGS h118 n0 (Nat.le_trans Z0 le146) f144 g26_0 S_COMPACT_STRINGS f145 S__assertionsDisabled S_HI_BYTE_SHIFT S_LO_BYTE_SHIFT hP_5 g36_0 g46_0 g56_0 hg125 hg124) hZ (wd_11 hw) (wd_4 hw) (by decide) (by decide) (own_EW hw) C119.1 sf0 all0) (by rw [hml]; rfl) [(.ref b20), (.int nn)] (lenOf pd_11 rfl) rfl (Nat.le_of_eq rfl) (hb hby at_202) (fun _ _ => ⟨rfl, e118, (by decide : 2 + 6 ≤ _), (by decide : 8 + 20 ≤ _)⟩) (pc' := 205) rfl ?_
   rintro _ _ ⟨T147, L147, k147, n147⟩ XX147 hSS147 hg147 ⟨Lc147, hQ147, l147, y147, z147, A147⟩
   dsimp only [Pt.U, Pt.locs, Pt.cells, Pt.slots] at XX147 l147 y147 z147 hQ147 hSS147 hg147 A147 ⊢
   rw [l147, y147, z147] at XX147
   obtain ⟨X147, hS147, hZ147, hown147⟩ := rebS hS0 (Nat.le_trans (Nat.le_refl _) le146) XX147 hSS147 (e118 ▸ hg147) hZ hown
   obtain ⟨r_147, t_147, kb_147, cd_147, rfl, N147q, K147, g147_0, g147_1, g147_2, g147_3, g147_4, g147_5, g147_6⟩ := hQ147
   have N148 := Fr.app N123 N147q
   have C149 : CHr Z EL s.vm h0 T147.vm T147.heap := C119.trans A147
   have K150 : Keep h0 T147.heap [] := K122.trans K147 (all0 (P := fun x => x ∈ [] ∨ h0.size ≤ x))
   have ge151 : n0 ≤ r_147 := Nat.le_trans (Nat.le_trans Z0 le146) g147_0
   have sz152 : h0.size ≤ r_147 := Nat.le_trans le146 g147_0
   show Runs _ _ _ _ (T147.setTop (mkF m 205 #[.val (.int p0), .val (.int p1), .val (.int p2), .val (.int p3), .val (.int p4), .val (.ref b20), .val (.ref b65), .val (.int nn), .val (.int gc126), .val (.int (0 : Int32)), .unset, .unset, .unset, .unset] [(.ref r_147)]))
   refine w_astore X147 hx (hb hby at_205) rfl (L' := #[.val (.int p0), .val (.int p1), .val (.int p2), .val (.int p3), .val (.int p4), .val (.ref b20), .val (.ref b65), .val (.int nn), .val (.int gc126), .val (.int (0 : Int32)), .val (.ref r_147), .unset, .unset, .unset]) rfl (pc' := 207) rfl ?_
   refine w_iload X147 hx (hb hby at_207) rfl (pc' := 209) rfl ?_
   refine w_ifY X147 hx (hb hby at_209) (teq (by decide : (0 : Int32) = (0 : Int32))).1 (pc' := 216) (by decide) (by decide) ?_
   refine w_aload X147 hx (hb hby at_216) rfl rfl (pc' := 218) rfl ?_
   refine w_iload X147 hx (hb hby at_218) rfl (pc' := 220) rfl ?_
   have f153 : Arv Z T147.heap b65 k65 .char (4 : Int32) [(.int c_75), (.int c_91), (.int c_103), (.int c_115)] (.int (0 : Int32)) := (V121.keep K147 nin0)
   have f154 : Old Z n0 T147.heap := (f145.keep K147 all0)
   have le155 : h0.size ≤ T147.heap.size := (Nat.le_trans le146 K147.1)
   refine w_staticS X147 hx (y := yn_3) hown147 (mvT hZ147 (wd_9 hw)) (mvT hZ147 (wd_10 hw)) (mvT hZ147 (wd_4 hw)) (mvT hZ147 (wd_11 hw)) (by decide) (backOfY (W := 0) (rm_m3_3 l Z aZ hw [] b65 gc126 k65 c_75 c_91 c_103 c_115 G_COMPACT_STRINGS T147.heap n0 (Nat.le_trans Z0 le155) f153 g75_0 S_COMPACT_STRINGS f154 S__assertionsDisabled S_HI_BYTE_SHIFT S_LO_BYTE_SHIFT hP_5 g91_0 g103_0 g115_0 hg130 hg129) hZ147 (wd_11 hw) (wd_4 hw) (by decide) (by decide) (own_EW hw) C149.1 sf0 all0) (by rw [hml]; rfl) [(.ref b65), (.int gc126)] (lenOf pd_11 rfl) rfl (Nat.le_of_eq rfl) (hb hby at_220) (fun _ _ => ⟨rfl, rfl, (by decide : 8 + 6 ≤ _), (by decide : 28 + 20 ≤ _)⟩) (pc' := 223) rfl ?_
   rintro _ _ ⟨T156, L156, k156, n156⟩ XX156 hSS156 hg156 ⟨Lc156, hQ156, l156, y156, z156, A156⟩
   dsimp only [Pt.U, Pt.locs, Pt.cells, Pt.slots] at XX156 l156 y156 z156 hQ156 hSS156 hg156 A156 ⊢
   rw [l156, y156, z156] at XX156
   obtain ⟨X156, hS156, hZ156, hown156⟩ := rebS hS147 (Nat.le_refl _) XX156 hSS156 hg156 hZ147 hown147
   obtain ⟨r_156, t_156, kb_156, cd_156, rfl, N156q, K156, g156_0, g156_1, g156_2, g156_3, g156_4, g156_5, g156_6⟩ := hQ156
   have N157 := Fr.app N148 N156q
   have C158 : CHr Z EL s.vm h0 T156.vm T156.heap := C149.trans A156
   have K159 : Keep h0 T156.heap [] := K150.trans K156 (all0 (P := fun x => x ∈ [] ∨ h0.size ≤ x))
   have ge160 : n0 ≤ r_156 := Nat.le_trans (Nat.le_trans Z0 le155) g156_0
   have sz161 : h0.size ≤ r_156 := Nat.le_trans le155 g156_0
   show Runs _ _ _ _ (T156.setTop (mkF m 223 #[.val (.int p0), .val (.int p1), .val (.int p2), .val (.int p3), .val (.int p4), .val (.ref b20), .val (.ref b65), .val (.int nn), .val (.int gc126), .val (.int (0 : Int32)), .val (.ref r_147), .unset, .unset, .unset] [(.ref r_156)]))
   refine w_astore X156 hx (hb hby at_223) rfl (L' := #[.val (.int p0), .val (.int p1), .val (.int p2), .val (.int p3), .val (.int p4), .val (.ref b20), .val (.ref b65), .val (.int nn), .val (.int gc126), .val (.int (0 : Int32)), .val (.ref r_147), .val (.ref r_156), .unset, .unset]) rfl (pc' := 225) rfl ?_
   refine w_aload X156 hx (hb hby at_225) rfl rfl (pc' := 227) rfl ?_
   refine w_aload X156 hx (hb hby at_227) rfl rfl (pc' := 229) rfl ?_
   have f162 : Exa Z T156.heap r_147 kc0 := (g147_2.keep K156)
   have f163 : Fld Z T156.heap r_147 kc0 "value" "[B" (.ref t_147) := (g147_4.keep K156 nin0)
   have f164 : Arv Z T156.heap t_147 kb_147 .byte (nn <<< (cd_147 &&& 31)) (mI (encL cd_147 (cl4 nn c_26 c_36 c_46 c_56))) (.int (0 : Int32)) := (g147_5.keep K156 nin0)
   have f165 : Fld Z T156.heap r_147 kc0 "coder" "B" (.int cd_147) := (g147_3.keep K156 nin0)
   have f166 : Old Z n0 T156.heap := (f154.keep K156 all0)
   have le167 : h0.size ≤ T156.heap.size := (Nat.le_trans le155 K156.1)
   refine w_static X156 hx (y := yn_7) hown156 (mvT hZ156 (wd_33 hw)) (mvT hZ156 (wd_34 hw)) (mvT hZ156 (wd_35 hw)) (mvT hZ156 (wd_36 hw)) (by decide) (backOf (W := 0) (rm_m7_58 l Z aZ hw [] r_147 r_156 t_147 kb_147 (nn <<< (cd_147 &&& 31)) (encL cd_147 (cl4 nn c_26 c_36 c_46 c_56)) cd_147 G_COMPACT_STRINGS t_156 kb_156 (gc126 <<< (cd_156 &&& 31)) (encL cd_156 (cl4 gc126 c_75 c_91 c_103 c_115)) cd_156 G_SIOOBE_FORMATTER T156.heap n0 (Nat.le_trans Z0 le167) f162 f163 f164 f165 (own_cdb g147_6) S_COMPACT_STRINGS f166 hP_5 g156_2 g156_4 g156_5 g156_3 (own_cdb g156_6) (own_cd2 g147_6).1 (own_cd2 g147_6).2 r_G_SIOOBE_FORMATTER S_SIOOBE_FORMATTER S__assertionsDisabled S_HI_BYTE_SHIFT S_LO_BYTE_SHIFT (own_cd2 g156_6).1 (own_cd2 g156_6).2 (show ¬ ((4 : Int32) < ((nn <<< (cd_147 &&& 31)) >>> (cd_147 &&& 31))) from by rw [own_shlrc hg125 hg124 (own_cd2 g147_6).1 (own_cd2 g147_6).2]; exact (own_n4 hg125))) hZ156 (wd_36 hw) (wd_35 hw) (by decide) (by decide)) (by rw [hml]; rfl) [(.ref r_147), (.ref r_156)] (lenOf pd_12 rfl) rfl (Nat.le_of_eq rfl) (hb hby at_229) (fun _ _ => ⟨rfl, rfl, (by decide : 14 + 0 ≤ _), (by decide : 48 + 0 ≤ _)⟩) (pc' := 232) rfl ?_
   rintro _ _ ⟨T168, L168, k168, n168⟩ X168 ⟨Lc168, hQ168, l168, y168, z168⟩
   dsimp only [Pt.U, Pt.locs, Pt.cells, Pt.slots] at X168 l168 y168 z168 hQ168 ⊢
   rw [l168, y168, z168] at X168
   obtain ⟨rfl, N168q, e168⟩ := hQ168
   have N169 := Fr.app N157 N168q
   show Runs _ _ _ _ (T168.setTop (mkF m 232 #[.val (.int p0), .val (.int p1), .val (.int p2), .val (.int p3), .val (.int p4), .val (.ref b20), .val (.ref b65), .val (.int nn), .val (.int gc126), .val (.int (0 : Int32)), .val (.ref r_147), .val (.ref r_156), .unset, .unset] [(.int (eqS ((nn <<< (cd_147 &&& 31)) >>> (cd_147 &&& 31)) ((gc126 <<< (cd_156 &&& 31)) >>> (cd_156 &&& 31)) (lowF (chA cd_147 (encL cd_147 (cl4 nn c_26 c_36 c_46 c_56)) (0 : Int32) (0 : Int32) (1 : Int32))) (lowF (chA cd_147 (encL cd_147 (cl4 nn c_26 c_36 c_46 c_56)) (1 : Int32) (2 : Int32) (3 : Int32))) (lowF (chA cd_147 (encL cd_147 (cl4 nn c_26 c_36 c_46 c_56)) (2 : Int32) (4 : Int32) (5 : Int32))) (lowF (chA cd_147 (encL cd_147 (cl4 nn c_26 c_36 c_46 c_56)) (3 : Int32) (6 : Int32) (7 : Int32))) (lowF (chA cd_156 (encL cd_156 (cl4 gc126 c_75 c_91 c_103 c_115)) (0 : Int32) (0 : Int32) (1 : Int32))) (lowF (chA cd_156 (encL cd_156 (cl4 gc126 c_75 c_91 c_103 c_115)) (1 : Int32) (2 : Int32) (3 : Int32))) (lowF (chA cd_156 (encL cd_156 (cl4 gc126 c_75 c_91 c_103 c_115)) (2 : Int32) (4 : Int32) (5 : Int32))) (lowF (chA cd_156 (encL cd_156 (cl4 gc126 c_75 c_91 c_103 c_115)) (3 : Int32) (6 : Int32) (7 : Int32)))))]))
   refine w_istore X168 hx (hb hby at_232) (L' := #[.val (.int p0), .val (.int p1), .val (.int p2), .val (.int p3), .val (.int p4), .val (.ref b20), .val (.ref b65), .val (.int nn), .val (.int gc126), .val (.int (0 : Int32)), .val (.ref r_147), .val (.ref r_156), .val (.int (eqS ((nn <<< (cd_147 &&& 31)) >>> (cd_147 &&& 31)) ((gc126 <<< (cd_156 &&& 31)) >>> (cd_156 &&& 31)) (lowF (chA cd_147 (encL cd_147 (cl4 nn c_26 c_36 c_46 c_56)) (0 : Int32) (0 : Int32) (1 : Int32))) (lowF (chA cd_147 (encL cd_147 (cl4 nn c_26 c_36 c_46 c_56)) (1 : Int32) (2 : Int32) (3 : Int32))) (lowF (chA cd_147 (encL cd_147 (cl4 nn c_26 c_36 c_46 c_56)) (2 : Int32) (4 : Int32) (5 : Int32))) (lowF (chA cd_147 (encL cd_147 (cl4 nn c_26 c_36 c_46 c_56)) (3 : Int32) (6 : Int32) (7 : Int32))) (lowF (chA cd_156 (encL cd_156 (cl4 gc126 c_75 c_91 c_103 c_115)) (0 : Int32) (0 : Int32) (1 : Int32))) (lowF (chA cd_156 (encL cd_156 (cl4 gc126 c_75 c_91 c_103 c_115)) (1 : Int32) (2 : Int32) (3 : Int32))) (lowF (chA cd_156 (encL cd_156 (cl4 gc126 c_75 c_91 c_103 c_115)) (2 : Int32) (4 : Int32) (5 : Int32))) (lowF (chA cd_156 (encL cd_156 (cl4 gc126 c_75 c_91 c_103 c_115)) (3 : Int32) (6 : Int32) (7 : Int32))))), .unset]) rfl (pc' := 234) rfl ?_
   refine w_iload X168 hx (hb hby at_234) rfl (pc' := 236) rfl ?_
   refine w_ifN X168 hx (hb hby at_236) (teq (by decide : (0 : Int32) = (0 : Int32))).2 (pc' := 239) rfl ?_
   refine w_iload X168 hx (hb hby at_239) rfl (pc' := 241) rfl ?_
   refine w_iload X168 hx (hb hby at_241) rfl (pc' := 243) rfl ?_
   by_cases hc170 : nn = gc126
   · refine w_icN X168 hx (hb hby at_243) (teq hc170).2 (pc' := 246) rfl ?_
     refine w_iload X168 hx (hb hby at_246) rfl (pc' := 248) rfl ?_
     refine w_iconst X168 hx (hb hby at_248) (v := (1 : Int32)) rfl (pc' := 249) rfl ?_
     by_cases hc171 : nn < (1 : Int32)
     · refine w_icY X168 hx (hb hby at_249) (tlt hc171).1 (pc' := 266) (by decide) (by decide) ?_
       refine w_iload X168 hx (hb hby at_266) rfl (pc' := 268) rfl ?_
       refine w_iconst X168 hx (hb hby at_268) (v := (2 : Int32)) rfl (pc' := 269) rfl ?_
       refine w_icY X168 hx (hb hby at_269) (tlt (own_ltm hc171 (by decide : (1 : Int32) < (2 : Int32)))).1 (pc' := 286) (by decide) (by decide) ?_
       refine w_iload X168 hx (hb hby at_286) rfl (pc' := 288) rfl ?_
       refine w_iconst X168 hx (hb hby at_288) (v := (3 : Int32)) rfl (pc' := 289) rfl ?_
       refine w_icY X168 hx (hb hby at_289) (tlt (own_ltm hc171 (by decide : (1 : Int32) < (3 : Int32)))).1 (pc' := 306) (by decide) (by decide) ?_
       refine w_iload X168 hx (hb hby at_306) rfl (pc' := 308) rfl ?_
       refine w_iconst X168 hx (hb hby at_308) (v := (4 : Int32)) rfl (pc' := 309) rfl ?_
       refine w_icY X168 hx (hb hby at_309) (tlt (own_ltm hc171 (by decide : (1 : Int32) < (4 : Int32)))).1 (pc' := 326) (by decide) (by decide) ?_
       refine w_iconst X168 hx (hb hby at_326) (v := (1 : Int32)) rfl (pc' := 327) rfl ?_
       refine w_goto X168 hx (hb hby at_327) (pc' := 331) (by decide) (by decide) ?_
       refine w_istore X168 hx (hb hby at_331) (L' := #[.val (.int p0), .val (.int p1), .val (.int p2), .val (.int p3), .val (.int p4), .val (.ref b20), .val (.ref b65), .val (.int nn), .val (.int gc126), .val (.int (0 : Int32)), .val (.ref r_147), .val (.ref r_156), .val (.int (eqS ((nn <<< (cd_147 &&& 31)) >>> (cd_147 &&& 31)) ((gc126 <<< (cd_156 &&& 31)) >>> (cd_156 &&& 31)) (lowF (chA cd_147 (encL cd_147 (cl4 nn c_26 c_36 c_46 c_56)) (0 : Int32) (0 : Int32) (1 : Int32))) (lowF (chA cd_147 (encL cd_147 (cl4 nn c_26 c_36 c_46 c_56)) (1 : Int32) (2 : Int32) (3 : Int32))) (lowF (chA cd_147 (encL cd_147 (cl4 nn c_26 c_36 c_46 c_56)) (2 : Int32) (4 : Int32) (5 : Int32))) (lowF (chA cd_147 (encL cd_147 (cl4 nn c_26 c_36 c_46 c_56)) (3 : Int32) (6 : Int32) (7 : Int32))) (lowF (chA cd_156 (encL cd_156 (cl4 gc126 c_75 c_91 c_103 c_115)) (0 : Int32) (0 : Int32) (1 : Int32))) (lowF (chA cd_156 (encL cd_156 (cl4 gc126 c_75 c_91 c_103 c_115)) (1 : Int32) (2 : Int32) (3 : Int32))) (lowF (chA cd_156 (encL cd_156 (cl4 gc126 c_75 c_91 c_103 c_115)) (2 : Int32) (4 : Int32) (5 : Int32))) (lowF (chA cd_156 (encL cd_156 (cl4 gc126 c_75 c_91 c_103 c_115)) (3 : Int32) (6 : Int32) (7 : Int32))))), .val (.int (1 : Int32))]) rfl (pc' := 333) rfl ?_
       refine w_iload X168 hx (hb hby at_333) rfl (pc' := 335) rfl ?_
       refine w_iload X168 hx (hb hby at_335) rfl (pc' := 337) rfl ?_
       refine w_icN X168 hx (hb hby at_337) (teq (show (eqS ((nn <<< (cd_147 &&& 31)) >>> (cd_147 &&& 31)) ((gc126 <<< (cd_156 &&& 31)) >>> (cd_156 &&& 31)) (lowF (chA cd_147 (encL cd_147 (cl4 nn c_26 c_36 c_46 c_56)) (0 : Int32) (0 : Int32) (1 : Int32))) (lowF (chA cd_147 (encL cd_147 (cl4 nn c_26 c_36 c_46 c_56)) (1 : Int32) (2 : Int32) (3 : Int32))) (lowF (chA cd_147 (encL cd_147 (cl4 nn c_26 c_36 c_46 c_56)) (2 : Int32) (4 : Int32) (5 : Int32))) (lowF (chA cd_147 (encL cd_147 (cl4 nn c_26 c_36 c_46 c_56)) (3 : Int32) (6 : Int32) (7 : Int32))) (lowF (chA cd_156 (encL cd_156 (cl4 gc126 c_75 c_91 c_103 c_115)) (0 : Int32) (0 : Int32) (1 : Int32))) (lowF (chA cd_156 (encL cd_156 (cl4 gc126 c_75 c_91 c_103 c_115)) (1 : Int32) (2 : Int32) (3 : Int32))) (lowF (chA cd_156 (encL cd_156 (cl4 gc126 c_75 c_91 c_103 c_115)) (2 : Int32) (4 : Int32) (5 : Int32))) (lowF (chA cd_156 (encL cd_156 (cl4 gc126 c_75 c_91 c_103 c_115)) (3 : Int32) (6 : Int32) (7 : Int32)))) = (1 : Int32) from by rw [eqS_congr (own_shlrc hg125 hg124 (own_cd2 g147_6).1 (own_cd2 g147_6).2) (own_shlrc hg130 hg129 (own_cd2 g156_6).1 (own_cd2 g156_6).2) (sideC hg125 hg124 g26_0 g36_0 g46_0 g56_0 g147_6) (sideC hg130 hg129 g75_0 g91_0 g103_0 g115_0 g156_6)]; unfold eqS; rw [if_pos hc170, if_neg (own_ltn0 hc171)])).2 (pc' := 340) rfl ?_
       refine w_iconst X168 hx (hb hby at_340) (v := (1 : Int32)) rfl (pc' := 341) rfl ?_
       refine w_goto X168 hx (hb hby at_341) (pc' := 345) (by decide) (by decide) ?_
       exact w_doneH X168 hlk (v := some (.int (1 : Int32))) e168 hh hZ156 (own_EW hw) hS156 (Nat.le_refl _) C158 (fun h => by rw [hret] at h; cases h) (fun fs hr => retN X168 hx (t := .boolean) hret (by simp) (hb hby at_345) hr) (by decide) (by decide) (fun hsy => ⟨rfl, N169⟩)
     · refine w_icN X168 hx (hb hby at_249) (flt hc171).1 (pc' := 252) rfl ?_
       refine w_aload X168 hx (hb hby at_252) rfl rfl (pc' := 254) rfl ?_
       refine w_iconst X168 hx (hb hby at_254) (v := (0 : Int32)) rfl (pc' := 255) rfl ?_
       have f172 : Arv Z T156.heap b20 k20 .char (4 : Int32) [(.int c_26), (.int c_36), (.int c_46), (.int c_56)] (.int (0 : Int32)) := ((f144.keep K147 nin0).keep K156 nin0)
       obtain ⟨clu173, Aru173, qu173, Su173, Nu173, Hu173, Gu173⟩ := id f172
       have hinu173 := inb_of (j := (0 : Int32)) Su173 ⟨by decide, by decide⟩
       refine w_caload X168 hx hZ156 e168 Aru173 hinu173 (Hu173.at hinu173 rfl) (hb hby at_255) (pc' := 256) rfl ?_
       refine w_aload X168 hx (hb hby at_256) rfl rfl (pc' := 258) rfl ?_
       refine w_iconst X168 hx (hb hby at_258) (v := (0 : Int32)) rfl (pc' := 259) rfl ?_
       have f174 : Arv Z T156.heap b65 k65 .char (4 : Int32) [(.int c_75), (.int c_91), (.int c_103), (.int c_115)] (.int (0 : Int32)) := (f153.keep K156 nin0)
       obtain ⟨clu175, Aru175, qu175, Su175, Nu175, Hu175, Gu175⟩ := id f174
       have hinu175 := inb_of (j := (0 : Int32)) Su175 ⟨by decide, by decide⟩
       refine w_caload X168 hx hZ156 e168 Aru175 hinu175 (Hu175.at hinu175 rfl) (hb hby at_259) (pc' := 260) rfl ?_
       refine w_static X168 hx (y := yn_26) hown156 (mvT hZ156 (wd_107 hw)) (mvT hZ156 (wd_108 hw)) (mvT hZ156 (wd_4 hw)) (mvT hZ156 (wd_109 hw)) (by decide) (backOf (W := 0) (rm_same l Z aZ hw [] c_26 c_75 T156.heap n0 (Nat.le_trans Z0 le167) g26_0 g75_0) hZ156 (wd_109 hw) (wd_4 hw) (by decide) (by decide)) (by rw [hml]; rfl) [(.int c_26), (.int c_75)] (lenOf pd_22 rfl) rfl (Nat.le_of_eq rfl) (hb hby at_260) (fun _ _ => ⟨rfl, e168, (by decide : 14 + 0 ≤ _), (by decide : 48 + 0 ≤ _)⟩) (pc' := 263) rfl ?_
       rintro _ _ ⟨T176, L176, k176, n176⟩ X176 ⟨Lc176, hQ176, l176, y176, z176⟩
       dsimp only [Pt.U, Pt.locs, Pt.cells, Pt.slots] at X176 l176 y176 z176 hQ176 ⊢
       rw [l176, y176, z176] at X176
       obtain ⟨rfl, N176q, e176⟩ := hQ176
       have N177 := Fr.app N169 N176q
       show Runs _ _ _ _ (T176.setTop (mkF m 263 #[.val (.int p0), .val (.int p1), .val (.int p2), .val (.int p3), .val (.int p4), .val (.ref b20), .val (.ref b65), .val (.int nn), .val (.int gc126), .val (.int (0 : Int32)), .val (.ref r_147), .val (.ref r_156), .val (.int (eqS ((nn <<< (cd_147 &&& 31)) >>> (cd_147 &&& 31)) ((gc126 <<< (cd_156 &&& 31)) >>> (cd_156 &&& 31)) (lowF (chA cd_147 (encL cd_147 (cl4 nn c_26 c_36 c_46 c_56)) (0 : Int32) (0 : Int32) (1 : Int32))) (lowF (chA cd_147 (encL cd_147 (cl4 nn c_26 c_36 c_46 c_56)) (1 : Int32) (2 : Int32) (3 : Int32))) (lowF (chA cd_147 (encL cd_147 (cl4 nn c_26 c_36 c_46 c_56)) (2 : Int32) (4 : Int32) (5 : Int32))) (lowF (chA cd_147 (encL cd_147 (cl4 nn c_26 c_36 c_46 c_56)) (3 : Int32) (6 : Int32) (7 : Int32))) (lowF (chA cd_156 (encL cd_156 (cl4 gc126 c_75 c_91 c_103 c_115)) (0 : Int32) (0 : Int32) (1 : Int32))) (lowF (chA cd_156 (encL cd_156 (cl4 gc126 c_75 c_91 c_103 c_115)) (1 : Int32) (2 : Int32) (3 : Int32))) (lowF (chA cd_156 (encL cd_156 (cl4 gc126 c_75 c_91 c_103 c_115)) (2 : Int32) (4 : Int32) (5 : Int32))) (lowF (chA cd_156 (encL cd_156 (cl4 gc126 c_75 c_91 c_103 c_115)) (3 : Int32) (6 : Int32) (7 : Int32))))), .unset] [(.int (if (lowF c_26) = (lowF c_75) then (1 : Int32) else (0 : Int32)))]))
       by_cases hc178 : (lowF c_26) = (lowF c_75)
       · have v179 : (if (lowF c_26) = (lowF c_75) then (1 : Int32) else (0 : Int32)) = (1 : Int32) := if_pos hc178
         refine w_ifN X176 hx (hb hby at_263) (feq (fun q => absurd (v179.symm.trans q) (by decide))).1 (pc' := 266) rfl ?_
         refine w_iload X176 hx (hb hby at_266) rfl (pc' := 268) rfl ?_
         refine w_iconst X176 hx (hb hby at_268) (v := (2 : Int32)) rfl (pc' := 269) rfl ?_
         by_cases hc180 : nn < (2 : Int32)
         · refine w_icY X176 hx (hb hby at_269) (tlt hc180).1 (pc' := 286) (by decide) (by decide) ?_
           refine w_iload X176 hx (hb hby at_286) rfl (pc' := 288) rfl ?_
           refine w_iconst X176 hx (hb hby at_288) (v := (3 : Int32)) rfl (pc' := 289) rfl ?_
           refine w_icY X176 hx (hb hby at_289) (tlt (own_ltm hc180 (by decide : (2 : Int32) < (3 : Int32)))).1 (pc' := 306) (by decide) (by decide) ?_
           refine w_iload X176 hx (hb hby at_306) rfl (pc' := 308) rfl ?_
           refine w_iconst X176 hx (hb hby at_308) (v := (4 : Int32)) rfl (pc' := 309) rfl ?_
           refine w_icY X176 hx (hb hby at_309) (tlt (own_ltm hc180 (by decide : (2 : Int32) < (4 : Int32)))).1 (pc' := 326) (by decide) (by decide) ?_
           refine w_iconst X176 hx (hb hby at_326) (v := (1 : Int32)) rfl (pc' := 327) rfl ?_
           refine w_goto X176 hx (hb hby at_327) (pc' := 331) (by decide) (by decide) ?_
           refine w_istore X176 hx (hb hby at_331) (L' := #[.val (.int p0), .val (.int p1), .val (.int p2), .val (.int p3), .val (.int p4), .val (.ref b20), .val (.ref b65), .val (.int nn), .val (.int gc126), .val (.int (0 : Int32)), .val (.ref r_147), .val (.ref r_156), .val (.int (eqS ((nn <<< (cd_147 &&& 31)) >>> (cd_147 &&& 31)) ((gc126 <<< (cd_156 &&& 31)) >>> (cd_156 &&& 31)) (lowF (chA cd_147 (encL cd_147 (cl4 nn c_26 c_36 c_46 c_56)) (0 : Int32) (0 : Int32) (1 : Int32))) (lowF (chA cd_147 (encL cd_147 (cl4 nn c_26 c_36 c_46 c_56)) (1 : Int32) (2 : Int32) (3 : Int32))) (lowF (chA cd_147 (encL cd_147 (cl4 nn c_26 c_36 c_46 c_56)) (2 : Int32) (4 : Int32) (5 : Int32))) (lowF (chA cd_147 (encL cd_147 (cl4 nn c_26 c_36 c_46 c_56)) (3 : Int32) (6 : Int32) (7 : Int32))) (lowF (chA cd_156 (encL cd_156 (cl4 gc126 c_75 c_91 c_103 c_115)) (0 : Int32) (0 : Int32) (1 : Int32))) (lowF (chA cd_156 (encL cd_156 (cl4 gc126 c_75 c_91 c_103 c_115)) (1 : Int32) (2 : Int32) (3 : Int32))) (lowF (chA cd_156 (encL cd_156 (cl4 gc126 c_75 c_91 c_103 c_115)) (2 : Int32) (4 : Int32) (5 : Int32))) (lowF (chA cd_156 (encL cd_156 (cl4 gc126 c_75 c_91 c_103 c_115)) (3 : Int32) (6 : Int32) (7 : Int32))))), .val (.int (1 : Int32))]) rfl (pc' := 333) rfl ?_
           refine w_iload X176 hx (hb hby at_333) rfl (pc' := 335) rfl ?_
           refine w_iload X176 hx (hb hby at_335) rfl (pc' := 337) rfl ?_
           refine w_icN X176 hx (hb hby at_337) (teq (show (eqS ((nn <<< (cd_147 &&& 31)) >>> (cd_147 &&& 31)) ((gc126 <<< (cd_156 &&& 31)) >>> (cd_156 &&& 31)) (lowF (chA cd_147 (encL cd_147 (cl4 nn c_26 c_36 c_46 c_56)) (0 : Int32) (0 : Int32) (1 : Int32))) (lowF (chA cd_147 (encL cd_147 (cl4 nn c_26 c_36 c_46 c_56)) (1 : Int32) (2 : Int32) (3 : Int32))) (lowF (chA cd_147 (encL cd_147 (cl4 nn c_26 c_36 c_46 c_56)) (2 : Int32) (4 : Int32) (5 : Int32))) (lowF (chA cd_147 (encL cd_147 (cl4 nn c_26 c_36 c_46 c_56)) (3 : Int32) (6 : Int32) (7 : Int32))) (lowF (chA cd_156 (encL cd_156 (cl4 gc126 c_75 c_91 c_103 c_115)) (0 : Int32) (0 : Int32) (1 : Int32))) (lowF (chA cd_156 (encL cd_156 (cl4 gc126 c_75 c_91 c_103 c_115)) (1 : Int32) (2 : Int32) (3 : Int32))) (lowF (chA cd_156 (encL cd_156 (cl4 gc126 c_75 c_91 c_103 c_115)) (2 : Int32) (4 : Int32) (5 : Int32))) (lowF (chA cd_156 (encL cd_156 (cl4 gc126 c_75 c_91 c_103 c_115)) (3 : Int32) (6 : Int32) (7 : Int32)))) = (1 : Int32) from by rw [eqS_congr (own_shlrc hg125 hg124 (own_cd2 g147_6).1 (own_cd2 g147_6).2) (own_shlrc hg130 hg129 (own_cd2 g156_6).1 (own_cd2 g156_6).2) (sideC hg125 hg124 g26_0 g36_0 g46_0 g56_0 g147_6) (sideC hg130 hg129 g75_0 g91_0 g103_0 g115_0 g156_6)]; unfold eqS; rw [if_pos hc170, if_pos (own_lty0 hc171), if_pos hc178, if_neg (own_ltn1 hc180)])).2 (pc' := 340) rfl ?_
           refine w_iconst X176 hx (hb hby at_340) (v := (1 : Int32)) rfl (pc' := 341) rfl ?_
           refine w_goto X176 hx (hb hby at_341) (pc' := 345) (by decide) (by decide) ?_
           exact w_doneH X176 hlk (v := some (.int (1 : Int32))) e176 hh hZ156 (own_EW hw) hS156 (Nat.le_refl _) C158 (fun h => by rw [hret] at h; cases h) (fun fs hr => retN X176 hx (t := .boolean) hret (by simp) (hb hby at_345) hr) (by decide) (by decide) (fun hsy => ⟨rfl, N177⟩)
         · refine w_icN X176 hx (hb hby at_269) (flt hc180).1 (pc' := 272) rfl ?_
           refine w_aload X176 hx (hb hby at_272) rfl rfl (pc' := 274) rfl ?_
           refine w_iconst X176 hx (hb hby at_274) (v := (1 : Int32)) rfl (pc' := 275) rfl ?_
           obtain ⟨clu181, Aru181, qu181, Su181, Nu181, Hu181, Gu181⟩ := id f172
           have hinu181 := inb_of (j := (1 : Int32)) Su181 ⟨by decide, by decide⟩
           refine w_caload X176 hx hZ156 e176 Aru181 hinu181 (Hu181.at hinu181 rfl) (hb hby at_275) (pc' := 276) rfl ?_
           refine w_aload X176 hx (hb hby at_276) rfl rfl (pc' := 278) rfl ?_
           refine w_iconst X176 hx (hb hby at_278) (v := (1 : Int32)) rfl (pc' := 279) rfl ?_
           obtain ⟨clu182, Aru182, qu182, Su182, Nu182, Hu182, Gu182⟩ := id f174
           have hinu182 := inb_of (j := (1 : Int32)) Su182 ⟨by decide, by decide⟩
           refine w_caload X176 hx hZ156 e176 Aru182 hinu182 (Hu182.at hinu182 rfl) (hb hby at_279) (pc' := 280) rfl ?_
           refine w_static X176 hx (y := yn_26) hown156 (mvT hZ156 (wd_107 hw)) (mvT hZ156 (wd_108 hw)) (mvT hZ156 (wd_4 hw)) (mvT hZ156 (wd_109 hw)) (by decide) (backOf (W := 0) (rm_same l Z aZ hw [] c_36 c_91 T156.heap n0 (Nat.le_trans Z0 le167) g36_0 g91_0) hZ156 (wd_109 hw) (wd_4 hw) (by decide) (by decide)) (by rw [hml]; rfl) [(.int c_36), (.int c_91)] (lenOf pd_22 rfl) rfl (Nat.le_of_eq rfl) (hb hby at_280) (fun _ _ => ⟨rfl, e176, (by decide : 14 + 0 ≤ _), (by decide : 48 + 0 ≤ _)⟩) (pc' := 283) rfl ?_
           rintro _ _ ⟨T183, L183, k183, n183⟩ X183 ⟨Lc183, hQ183, l183, y183, z183⟩
           dsimp only [Pt.U, Pt.locs, Pt.cells, Pt.slots] at X183 l183 y183 z183 hQ183 ⊢
           rw [l183, y183, z183] at X183
           obtain ⟨rfl, N183q, e183⟩ := hQ183
           have N184 := Fr.app N177 N183q
           show Runs _ _ _ _ (T183.setTop (mkF m 283 #[.val (.int p0), .val (.int p1), .val (.int p2), .val (.int p3), .val (.int p4), .val (.ref b20), .val (.ref b65), .val (.int nn), .val (.int gc126), .val (.int (0 : Int32)), .val (.ref r_147), .val (.ref r_156), .val (.int (eqS ((nn <<< (cd_147 &&& 31)) >>> (cd_147 &&& 31)) ((gc126 <<< (cd_156 &&& 31)) >>> (cd_156 &&& 31)) (lowF (chA cd_147 (encL cd_147 (cl4 nn c_26 c_36 c_46 c_56)) (0 : Int32) (0 : Int32) (1 : Int32))) (lowF (chA cd_147 (encL cd_147 (cl4 nn c_26 c_36 c_46 c_56)) (1 : Int32) (2 : Int32) (3 : Int32))) (lowF (chA cd_147 (encL cd_147 (cl4 nn c_26 c_36 c_46 c_56)) (2 : Int32) (4 : Int32) (5 : Int32))) (lowF (chA cd_147 (encL cd_147 (cl4 nn c_26 c_36 c_46 c_56)) (3 : Int32) (6 : Int32) (7 : Int32))) (lowF (chA cd_156 (encL cd_156 (cl4 gc126 c_75 c_91 c_103 c_115)) (0 : Int32) (0 : Int32) (1 : Int32))) (lowF (chA cd_156 (encL cd_156 (cl4 gc126 c_75 c_91 c_103 c_115)) (1 : Int32) (2 : Int32) (3 : Int32))) (lowF (chA cd_156 (encL cd_156 (cl4 gc126 c_75 c_91 c_103 c_115)) (2 : Int32) (4 : Int32) (5 : Int32))) (lowF (chA cd_156 (encL cd_156 (cl4 gc126 c_75 c_91 c_103 c_115)) (3 : Int32) (6 : Int32) (7 : Int32))))), .unset] [(.int (if (lowF c_36) = (lowF c_91) then (1 : Int32) else (0 : Int32)))]))
           by_cases hc185 : (lowF c_36) = (lowF c_91)
           · have v186 : (if (lowF c_36) = (lowF c_91) then (1 : Int32) else (0 : Int32)) = (1 : Int32) := if_pos hc185
             refine w_ifN X183 hx (hb hby at_283) (feq (fun q => absurd (v186.symm.trans q) (by decide))).1 (pc' := 286) rfl ?_
             refine w_iload X183 hx (hb hby at_286) rfl (pc' := 288) rfl ?_
             refine w_iconst X183 hx (hb hby at_288) (v := (3 : Int32)) rfl (pc' := 289) rfl ?_
             by_cases hc187 : nn < (3 : Int32)
             · refine w_icY X183 hx (hb hby at_289) (tlt hc187).1 (pc' := 306) (by decide) (by decide) ?_
               refine w_iload X183 hx (hb hby at_306) rfl (pc' := 308) rfl ?_
               refine w_iconst X183 hx (hb hby at_308) (v := (4 : Int32)) rfl (pc' := 309) rfl ?_
               refine w_icY X183 hx (hb hby at_309) (tlt (own_ltm hc187 (by decide : (3 : Int32) < (4 : Int32)))).1 (pc' := 326) (by decide) (by decide) ?_
               refine w_iconst X183 hx (hb hby at_326) (v := (1 : Int32)) rfl (pc' := 327) rfl ?_
               refine w_goto X183 hx (hb hby at_327) (pc' := 331) (by decide) (by decide) ?_
               refine w_istore X183 hx (hb hby at_331) (L' := #[.val (.int p0), .val (.int p1), .val (.int p2), .val (.int p3), .val (.int p4), .val (.ref b20), .val (.ref b65), .val (.int nn), .val (.int gc126), .val (.int (0 : Int32)), .val (.ref r_147), .val (.ref r_156), .val (.int (eqS ((nn <<< (cd_147 &&& 31)) >>> (cd_147 &&& 31)) ((gc126 <<< (cd_156 &&& 31)) >>> (cd_156 &&& 31)) (lowF (chA cd_147 (encL cd_147 (cl4 nn c_26 c_36 c_46 c_56)) (0 : Int32) (0 : Int32) (1 : Int32))) (lowF (chA cd_147 (encL cd_147 (cl4 nn c_26 c_36 c_46 c_56)) (1 : Int32) (2 : Int32) (3 : Int32))) (lowF (chA cd_147 (encL cd_147 (cl4 nn c_26 c_36 c_46 c_56)) (2 : Int32) (4 : Int32) (5 : Int32))) (lowF (chA cd_147 (encL cd_147 (cl4 nn c_26 c_36 c_46 c_56)) (3 : Int32) (6 : Int32) (7 : Int32))) (lowF (chA cd_156 (encL cd_156 (cl4 gc126 c_75 c_91 c_103 c_115)) (0 : Int32) (0 : Int32) (1 : Int32))) (lowF (chA cd_156 (encL cd_156 (cl4 gc126 c_75 c_91 c_103 c_115)) (1 : Int32) (2 : Int32) (3 : Int32))) (lowF (chA cd_156 (encL cd_156 (cl4 gc126 c_75 c_91 c_103 c_115)) (2 : Int32) (4 : Int32) (5 : Int32))) (lowF (chA cd_156 (encL cd_156 (cl4 gc126 c_75 c_91 c_103 c_115)) (3 : Int32) (6 : Int32) (7 : Int32))))), .val (.int (1 : Int32))]) rfl (pc' := 333) rfl ?_
               refine w_iload X183 hx (hb hby at_333) rfl (pc' := 335) rfl ?_
               refine w_iload X183 hx (hb hby at_335) rfl (pc' := 337) rfl ?_
               refine w_icN X183 hx (hb hby at_337) (teq (show (eqS ((nn <<< (cd_147 &&& 31)) >>> (cd_147 &&& 31)) ((gc126 <<< (cd_156 &&& 31)) >>> (cd_156 &&& 31)) (lowF (chA cd_147 (encL cd_147 (cl4 nn c_26 c_36 c_46 c_56)) (0 : Int32) (0 : Int32) (1 : Int32))) (lowF (chA cd_147 (encL cd_147 (cl4 nn c_26 c_36 c_46 c_56)) (1 : Int32) (2 : Int32) (3 : Int32))) (lowF (chA cd_147 (encL cd_147 (cl4 nn c_26 c_36 c_46 c_56)) (2 : Int32) (4 : Int32) (5 : Int32))) (lowF (chA cd_147 (encL cd_147 (cl4 nn c_26 c_36 c_46 c_56)) (3 : Int32) (6 : Int32) (7 : Int32))) (lowF (chA cd_156 (encL cd_156 (cl4 gc126 c_75 c_91 c_103 c_115)) (0 : Int32) (0 : Int32) (1 : Int32))) (lowF (chA cd_156 (encL cd_156 (cl4 gc126 c_75 c_91 c_103 c_115)) (1 : Int32) (2 : Int32) (3 : Int32))) (lowF (chA cd_156 (encL cd_156 (cl4 gc126 c_75 c_91 c_103 c_115)) (2 : Int32) (4 : Int32) (5 : Int32))) (lowF (chA cd_156 (encL cd_156 (cl4 gc126 c_75 c_91 c_103 c_115)) (3 : Int32) (6 : Int32) (7 : Int32)))) = (1 : Int32) from by rw [eqS_congr (own_shlrc hg125 hg124 (own_cd2 g147_6).1 (own_cd2 g147_6).2) (own_shlrc hg130 hg129 (own_cd2 g156_6).1 (own_cd2 g156_6).2) (sideC hg125 hg124 g26_0 g36_0 g46_0 g56_0 g147_6) (sideC hg130 hg129 g75_0 g91_0 g103_0 g115_0 g156_6)]; unfold eqS; rw [if_pos hc170, if_pos (own_lty0 hc171), if_pos hc178, if_pos (own_lty1 hc180), if_pos hc185, if_neg (own_ltn2 hc187)])).2 (pc' := 340) rfl ?_
               refine w_iconst X183 hx (hb hby at_340) (v := (1 : Int32)) rfl (pc' := 341) rfl ?_
               refine w_goto X183 hx (hb hby at_341) (pc' := 345) (by decide) (by decide) ?_
               exact w_doneH X183 hlk (v := some (.int (1 : Int32))) e183 hh hZ156 (own_EW hw) hS156 (Nat.le_refl _) C158 (fun h => by rw [hret] at h; cases h) (fun fs hr => retN X183 hx (t := .boolean) hret (by simp) (hb hby at_345) hr) (by decide) (by decide) (fun hsy => ⟨rfl, N184⟩)
             · refine w_icN X183 hx (hb hby at_289) (flt hc187).1 (pc' := 292) rfl ?_
               refine w_aload X183 hx (hb hby at_292) rfl rfl (pc' := 294) rfl ?_
               refine w_iconst X183 hx (hb hby at_294) (v := (2 : Int32)) rfl (pc' := 295) rfl ?_
               obtain ⟨clu188, Aru188, qu188, Su188, Nu188, Hu188, Gu188⟩ := id f172
               have hinu188 := inb_of (j := (2 : Int32)) Su188 ⟨by decide, by decide⟩
               refine w_caload X183 hx hZ156 e183 Aru188 hinu188 (Hu188.at hinu188 rfl) (hb hby at_295) (pc' := 296) rfl ?_
               refine w_aload X183 hx (hb hby at_296) rfl rfl (pc' := 298) rfl ?_
               refine w_iconst X183 hx (hb hby at_298) (v := (2 : Int32)) rfl (pc' := 299) rfl ?_
               obtain ⟨clu189, Aru189, qu189, Su189, Nu189, Hu189, Gu189⟩ := id f174
               have hinu189 := inb_of (j := (2 : Int32)) Su189 ⟨by decide, by decide⟩
               refine w_caload X183 hx hZ156 e183 Aru189 hinu189 (Hu189.at hinu189 rfl) (hb hby at_299) (pc' := 300) rfl ?_
               refine w_static X183 hx (y := yn_26) hown156 (mvT hZ156 (wd_107 hw)) (mvT hZ156 (wd_108 hw)) (mvT hZ156 (wd_4 hw)) (mvT hZ156 (wd_109 hw)) (by decide) (backOf (W := 0) (rm_same l Z aZ hw [] c_46 c_103 T156.heap n0 (Nat.le_trans Z0 le167) g46_0 g103_0) hZ156 (wd_109 hw) (wd_4 hw) (by decide) (by decide)) (by rw [hml]; rfl) [(.int c_46), (.int c_103)] (lenOf pd_22 rfl) rfl (Nat.le_of_eq rfl) (hb hby at_300) (fun _ _ => ⟨rfl, e183, (by decide : 14 + 0 ≤ _), (by decide : 48 + 0 ≤ _)⟩) (pc' := 303) rfl ?_
               rintro _ _ ⟨T190, L190, k190, n190⟩ X190 ⟨Lc190, hQ190, l190, y190, z190⟩
               dsimp only [Pt.U, Pt.locs, Pt.cells, Pt.slots] at X190 l190 y190 z190 hQ190 ⊢
               rw [l190, y190, z190] at X190
               obtain ⟨rfl, N190q, e190⟩ := hQ190
               have N191 := Fr.app N184 N190q
               show Runs _ _ _ _ (T190.setTop (mkF m 303 #[.val (.int p0), .val (.int p1), .val (.int p2), .val (.int p3), .val (.int p4), .val (.ref b20), .val (.ref b65), .val (.int nn), .val (.int gc126), .val (.int (0 : Int32)), .val (.ref r_147), .val (.ref r_156), .val (.int (eqS ((nn <<< (cd_147 &&& 31)) >>> (cd_147 &&& 31)) ((gc126 <<< (cd_156 &&& 31)) >>> (cd_156 &&& 31)) (lowF (chA cd_147 (encL cd_147 (cl4 nn c_26 c_36 c_46 c_56)) (0 : Int32) (0 : Int32) (1 : Int32))) (lowF (chA cd_147 (encL cd_147 (cl4 nn c_26 c_36 c_46 c_56)) (1 : Int32) (2 : Int32) (3 : Int32))) (lowF (chA cd_147 (encL cd_147 (cl4 nn c_26 c_36 c_46 c_56)) (2 : Int32) (4 : Int32) (5 : Int32))) (lowF (chA cd_147 (encL cd_147 (cl4 nn c_26 c_36 c_46 c_56)) (3 : Int32) (6 : Int32) (7 : Int32))) (lowF (chA cd_156 (encL cd_156 (cl4 gc126 c_75 c_91 c_103 c_115)) (0 : Int32) (0 : Int32) (1 : Int32))) (lowF (chA cd_156 (encL cd_156 (cl4 gc126 c_75 c_91 c_103 c_115)) (1 : Int32) (2 : Int32) (3 : Int32))) (lowF (chA cd_156 (encL cd_156 (cl4 gc126 c_75 c_91 c_103 c_115)) (2 : Int32) (4 : Int32) (5 : Int32))) (lowF (chA cd_156 (encL cd_156 (cl4 gc126 c_75 c_91 c_103 c_115)) (3 : Int32) (6 : Int32) (7 : Int32))))), .unset] [(.int (if (lowF c_46) = (lowF c_103) then (1 : Int32) else (0 : Int32)))]))
               by_cases hc192 : (lowF c_46) = (lowF c_103)
               · have v193 : (if (lowF c_46) = (lowF c_103) then (1 : Int32) else (0 : Int32)) = (1 : Int32) := if_pos hc192
                 refine w_ifN X190 hx (hb hby at_303) (feq (fun q => absurd (v193.symm.trans q) (by decide))).1 (pc' := 306) rfl ?_
                 refine w_iload X190 hx (hb hby at_306) rfl (pc' := 308) rfl ?_
                 refine w_iconst X190 hx (hb hby at_308) (v := (4 : Int32)) rfl (pc' := 309) rfl ?_
                 by_cases hc194 : nn < (4 : Int32)
                 · refine w_icY X190 hx (hb hby at_309) (tlt hc194).1 (pc' := 326) (by decide) (by decide) ?_
                   refine w_iconst X190 hx (hb hby at_326) (v := (1 : Int32)) rfl (pc' := 327) rfl ?_
                   refine w_goto X190 hx (hb hby at_327) (pc' := 331) (by decide) (by decide) ?_
                   refine w_istore X190 hx (hb hby at_331) (L' := #[.val (.int p0), .val (.int p1), .val (.int p2), .val (.int p3), .val (.int p4), .val (.ref b20), .val (.ref b65), .val (.int nn), .val (.int gc126), .val (.int (0 : Int32)), .val (.ref r_147), .val (.ref r_156), .val (.int (eqS ((nn <<< (cd_147 &&& 31)) >>> (cd_147 &&& 31)) ((gc126 <<< (cd_156 &&& 31)) >>> (cd_156 &&& 31)) (lowF (chA cd_147 (encL cd_147 (cl4 nn c_26 c_36 c_46 c_56)) (0 : Int32) (0 : Int32) (1 : Int32))) (lowF (chA cd_147 (encL cd_147 (cl4 nn c_26 c_36 c_46 c_56)) (1 : Int32) (2 : Int32) (3 : Int32))) (lowF (chA cd_147 (encL cd_147 (cl4 nn c_26 c_36 c_46 c_56)) (2 : Int32) (4 : Int32) (5 : Int32))) (lowF (chA cd_147 (encL cd_147 (cl4 nn c_26 c_36 c_46 c_56)) (3 : Int32) (6 : Int32) (7 : Int32))) (lowF (chA cd_156 (encL cd_156 (cl4 gc126 c_75 c_91 c_103 c_115)) (0 : Int32) (0 : Int32) (1 : Int32))) (lowF (chA cd_156 (encL cd_156 (cl4 gc126 c_75 c_91 c_103 c_115)) (1 : Int32) (2 : Int32) (3 : Int32))) (lowF (chA cd_156 (encL cd_156 (cl4 gc126 c_75 c_91 c_103 c_115)) (2 : Int32) (4 : Int32) (5 : Int32))) (lowF (chA cd_156 (encL cd_156 (cl4 gc126 c_75 c_91 c_103 c_115)) (3 : Int32) (6 : Int32) (7 : Int32))))), .val (.int (1 : Int32))]) rfl (pc' := 333) rfl ?_
                   refine w_iload X190 hx (hb hby at_333) rfl (pc' := 335) rfl ?_
                   refine w_iload X190 hx (hb hby at_335) rfl (pc' := 337) rfl ?_
                   refine w_icN X190 hx (hb hby at_337) (teq (show (eqS ((nn <<< (cd_147 &&& 31)) >>> (cd_147 &&& 31)) ((gc126 <<< (cd_156 &&& 31)) >>> (cd_156 &&& 31)) (lowF (chA cd_147 (encL cd_147 (cl4 nn c_26 c_36 c_46 c_56)) (0 : Int32) (0 : Int32) (1 : Int32))) (lowF (chA cd_147 (encL cd_147 (cl4 nn c_26 c_36 c_46 c_56)) (1 : Int32) (2 : Int32) (3 : Int32))) (lowF (chA cd_147 (encL cd_147 (cl4 nn c_26 c_36 c_46 c_56)) (2 : Int32) (4 : Int32) (5 : Int32))) (lowF (chA cd_147 (encL cd_147 (cl4 nn c_26 c_36 c_46 c_56)) (3 : Int32) (6 : Int32) (7 : Int32))) (lowF (chA cd_156 (encL cd_156 (cl4 gc126 c_75 c_91 c_103 c_115)) (0 : Int32) (0 : Int32) (1 : Int32))) (lowF (chA cd_156 (encL cd_156 (cl4 gc126 c_75 c_91 c_103 c_115)) (1 : Int32) (2 : Int32) (3 : Int32))) (lowF (chA cd_156 (encL cd_156 (cl4 gc126 c_75 c_91 c_103 c_115)) (2 : Int32) (4 : Int32) (5 : Int32))) (lowF (chA cd_156 (encL cd_156 (cl4 gc126 c_75 c_91 c_103 c_115)) (3 : Int32) (6 : Int32) (7 : Int32)))) = (1 : Int32) from by rw [eqS_congr (own_shlrc hg125 hg124 (own_cd2 g147_6).1 (own_cd2 g147_6).2) (own_shlrc hg130 hg129 (own_cd2 g156_6).1 (own_cd2 g156_6).2) (sideC hg125 hg124 g26_0 g36_0 g46_0 g56_0 g147_6) (sideC hg130 hg129 g75_0 g91_0 g103_0 g115_0 g156_6)]; unfold eqS; rw [if_pos hc170, if_pos (own_lty0 hc171), if_pos hc178, if_pos (own_lty1 hc180), if_pos hc185, if_pos (own_lty2 hc187), if_pos hc192, if_neg (own_ltn3 hc194)])).2 (pc' := 340) rfl ?_
                   refine w_iconst X190 hx (hb hby at_340) (v := (1 : Int32)) rfl (pc' := 341) rfl ?_
                   refine w_goto X190 hx (hb hby at_341) (pc' := 345) (by decide) (by decide) ?_
                   exact w_doneH X190 hlk (v := some (.int (1 : Int32))) e190 hh hZ156 (own_EW hw) hS156 (Nat.le_refl _) C158 (fun h => by rw [hret] at h; cases h) (fun fs hr => retN X190 hx (t := .boolean) hret (by simp) (hb hby at_345) hr) (by decide) (by decide) (fun hsy => ⟨rfl, N191⟩)
                 · refine w_icN X190 hx (hb hby at_309) (flt hc194).1 (pc' := 312) rfl ?_
                   refine w_aload X190 hx (hb hby at_312) rfl rfl (pc' := 314) rfl ?_
                   refine w_iconst X190 hx (hb hby at_314) (v := (3 : Int32)) rfl (pc' := 315) rfl ?_
                   obtain ⟨clu195, Aru195, qu195, Su195, Nu195, Hu195, Gu195⟩ := id f172
                   have hinu195 := inb_of (j := (3 : Int32)) Su195 ⟨by decide, by decide⟩
                   refine w_caload X190 hx hZ156 e190 Aru195 hinu195 (Hu195.at hinu195 rfl) (hb hby at_315) (pc' := 316) rfl ?_
                   refine w_aload X190 hx (hb hby at_316) rfl rfl (pc' := 318) rfl ?_
                   refine w_iconst X190 hx (hb hby at_318) (v := (3 : Int32)) rfl (pc' := 319) rfl ?_
                   obtain ⟨clu196, Aru196, qu196, Su196, Nu196, Hu196, Gu196⟩ := id f174
                   have hinu196 := inb_of (j := (3 : Int32)) Su196 ⟨by decide, by decide⟩
                   refine w_caload X190 hx hZ156 e190 Aru196 hinu196 (Hu196.at hinu196 rfl) (hb hby at_319) (pc' := 320) rfl ?_
                   refine w_static X190 hx (y := yn_26) hown156 (mvT hZ156 (wd_107 hw)) (mvT hZ156 (wd_108 hw)) (mvT hZ156 (wd_4 hw)) (mvT hZ156 (wd_109 hw)) (by decide) (backOf (W := 0) (rm_same l Z aZ hw [] c_56 c_115 T156.heap n0 (Nat.le_trans Z0 le167) g56_0 g115_0) hZ156 (wd_109 hw) (wd_4 hw) (by decide) (by decide)) (by rw [hml]; rfl) [(.int c_56), (.int c_115)] (lenOf pd_22 rfl) rfl (Nat.le_of_eq rfl) (hb hby at_320) (fun _ _ => ⟨rfl, e190, (by decide : 14 + 0 ≤ _), (by decide : 48 + 0 ≤ _)⟩) (pc' := 323) rfl ?_
                   rintro _ _ ⟨T197, L197, k197, n197⟩ X197 ⟨Lc197, hQ197, l197, y197, z197⟩
                   dsimp only [Pt.U, Pt.locs, Pt.cells, Pt.slots] at X197 l197 y197 z197 hQ197 ⊢
                   rw [l197, y197, z197] at X197
                   obtain ⟨rfl, N197q, e197⟩ := hQ197
                   have N198 := Fr.app N191 N197q
                   show Runs _ _ _ _ (T197.setTop (mkF m 323 #[.val (.int p0), .val (.int p1), .val (.int p2), .val (.int p3), .val (.int p4), .val (.ref b20), .val (.ref b65), .val (.int nn), .val (.int gc126), .val (.int (0 : Int32)), .val (.ref r_147), .val (.ref r_156), .val (.int (eqS ((nn <<< (cd_147 &&& 31)) >>> (cd_147 &&& 31)) ((gc126 <<< (cd_156 &&& 31)) >>> (cd_156 &&& 31)) (lowF (chA cd_147 (encL cd_147 (cl4 nn c_26 c_36 c_46 c_56)) (0 : Int32) (0 : Int32) (1 : Int32))) (lowF (chA cd_147 (encL cd_147 (cl4 nn c_26 c_36 c_46 c_56)) (1 : Int32) (2 : Int32) (3 : Int32))) (lowF (chA cd_147 (encL cd_147 (cl4 nn c_26 c_36 c_46 c_56)) (2 : Int32) (4 : Int32) (5 : Int32))) (lowF (chA cd_147 (encL cd_147 (cl4 nn c_26 c_36 c_46 c_56)) (3 : Int32) (6 : Int32) (7 : Int32))) (lowF (chA cd_156 (encL cd_156 (cl4 gc126 c_75 c_91 c_103 c_115)) (0 : Int32) (0 : Int32) (1 : Int32))) (lowF (chA cd_156 (encL cd_156 (cl4 gc126 c_75 c_91 c_103 c_115)) (1 : Int32) (2 : Int32) (3 : Int32))) (lowF (chA cd_156 (encL cd_156 (cl4 gc126 c_75 c_91 c_103 c_115)) (2 : Int32) (4 : Int32) (5 : Int32))) (lowF (chA cd_156 (encL cd_156 (cl4 gc126 c_75 c_91 c_103 c_115)) (3 : Int32) (6 : Int32) (7 : Int32))))), .unset] [(.int (if (lowF c_56) = (lowF c_115) then (1 : Int32) else (0 : Int32)))]))
                   by_cases hc199 : (lowF c_56) = (lowF c_115)
                   · have v200 : (if (lowF c_56) = (lowF c_115) then (1 : Int32) else (0 : Int32)) = (1 : Int32) := if_pos hc199
                     refine w_ifN X197 hx (hb hby at_323) (feq (fun q => absurd (v200.symm.trans q) (by decide))).1 (pc' := 326) rfl ?_
                     refine w_iconst X197 hx (hb hby at_326) (v := (1 : Int32)) rfl (pc' := 327) rfl ?_
                     refine w_goto X197 hx (hb hby at_327) (pc' := 331) (by decide) (by decide) ?_
                     refine w_istore X197 hx (hb hby at_331) (L' := #[.val (.int p0), .val (.int p1), .val (.int p2), .val (.int p3), .val (.int p4), .val (.ref b20), .val (.ref b65), .val (.int nn), .val (.int gc126), .val (.int (0 : Int32)), .val (.ref r_147), .val (.ref r_156), .val (.int (eqS ((nn <<< (cd_147 &&& 31)) >>> (cd_147 &&& 31)) ((gc126 <<< (cd_156 &&& 31)) >>> (cd_156 &&& 31)) (lowF (chA cd_147 (encL cd_147 (cl4 nn c_26 c_36 c_46 c_56)) (0 : Int32) (0 : Int32) (1 : Int32))) (lowF (chA cd_147 (encL cd_147 (cl4 nn c_26 c_36 c_46 c_56)) (1 : Int32) (2 : Int32) (3 : Int32))) (lowF (chA cd_147 (encL cd_147 (cl4 nn c_26 c_36 c_46 c_56)) (2 : Int32) (4 : Int32) (5 : Int32))) (lowF (chA cd_147 (encL cd_147 (cl4 nn c_26 c_36 c_46 c_56)) (3 : Int32) (6 : Int32) (7 : Int32))) (lowF (chA cd_156 (encL cd_156 (cl4 gc126 c_75 c_91 c_103 c_115)) (0 : Int32) (0 : Int32) (1 : Int32))) (lowF (chA cd_156 (encL cd_156 (cl4 gc126 c_75 c_91 c_103 c_115)) (1 : Int32) (2 : Int32) (3 : Int32))) (lowF (chA cd_156 (encL cd_156 (cl4 gc126 c_75 c_91 c_103 c_115)) (2 : Int32) (4 : Int32) (5 : Int32))) (lowF (chA cd_156 (encL cd_156 (cl4 gc126 c_75 c_91 c_103 c_115)) (3 : Int32) (6 : Int32) (7 : Int32))))), .val (.int (1 : Int32))]) rfl (pc' := 333) rfl ?_
                     refine w_iload X197 hx (hb hby at_333) rfl (pc' := 335) rfl ?_
                     refine w_iload X197 hx (hb hby at_335) rfl (pc' := 337) rfl ?_
                     refine w_icN X197 hx (hb hby at_337) (teq (show (eqS ((nn <<< (cd_147 &&& 31)) >>> (cd_147 &&& 31)) ((gc126 <<< (cd_156 &&& 31)) >>> (cd_156 &&& 31)) (lowF (chA cd_147 (encL cd_147 (cl4 nn c_26 c_36 c_46 c_56)) (0 : Int32) (0 : Int32) (1 : Int32))) (lowF (chA cd_147 (encL cd_147 (cl4 nn c_26 c_36 c_46 c_56)) (1 : Int32) (2 : Int32) (3 : Int32))) (lowF (chA cd_147 (encL cd_147 (cl4 nn c_26 c_36 c_46 c_56)) (2 : Int32) (4 : Int32) (5 : Int32))) (lowF (chA cd_147 (encL cd_147 (cl4 nn c_26 c_36 c_46 c_56)) (3 : Int32) (6 : Int32) (7 : Int32))) (lowF (chA cd_156 (encL cd_156 (cl4 gc126 c_75 c_91 c_103 c_115)) (0 : Int32) (0 : Int32) (1 : Int32))) (lowF (chA cd_156 (encL cd_156 (cl4 gc126 c_75 c_91 c_103 c_115)) (1 : Int32) (2 : Int32) (3 : Int32))) (lowF (chA cd_156 (encL cd_156 (cl4 gc126 c_75 c_91 c_103 c_115)) (2 : Int32) (4 : Int32) (5 : Int32))) (lowF (chA cd_156 (encL cd_156 (cl4 gc126 c_75 c_91 c_103 c_115)) (3 : Int32) (6 : Int32) (7 : Int32)))) = (1 : Int32) from by rw [eqS_congr (own_shlrc hg125 hg124 (own_cd2 g147_6).1 (own_cd2 g147_6).2) (own_shlrc hg130 hg129 (own_cd2 g156_6).1 (own_cd2 g156_6).2) (sideC hg125 hg124 g26_0 g36_0 g46_0 g56_0 g147_6) (sideC hg130 hg129 g75_0 g91_0 g103_0 g115_0 g156_6)]; unfold eqS; rw [if_pos hc170, if_pos (own_lty0 hc171), if_pos hc178, if_pos (own_lty1 hc180), if_pos hc185, if_pos (own_lty2 hc187), if_pos hc192, if_pos (own_lty3 hc194), if_pos hc199])).2 (pc' := 340) rfl ?_
                     refine w_iconst X197 hx (hb hby at_340) (v := (1 : Int32)) rfl (pc' := 341) rfl ?_
                     refine w_goto X197 hx (hb hby at_341) (pc' := 345) (by decide) (by decide) ?_
                     exact w_doneH X197 hlk (v := some (.int (1 : Int32))) e197 hh hZ156 (own_EW hw) hS156 (Nat.le_refl _) C158 (fun h => by rw [hret] at h; cases h) (fun fs hr => retN X197 hx (t := .boolean) hret (by simp) (hb hby at_345) hr) (by decide) (by decide) (fun hsy => ⟨rfl, N198⟩)
                   · have v201 : (if (lowF c_56) = (lowF c_115) then (1 : Int32) else (0 : Int32)) = (0 : Int32) := if_neg hc199
                     refine w_ifY X197 hx (hb hby at_323) (teq (v201.trans (by decide))).1 (pc' := 330) (by decide) (by decide) ?_
                     refine w_iconst X197 hx (hb hby at_330) (v := (0 : Int32)) rfl (pc' := 331) rfl ?_
                     refine w_istore X197 hx (hb hby at_331) (L' := #[.val (.int p0), .val (.int p1), .val (.int p2), .val (.int p3), .val (.int p4), .val (.ref b20), .val (.ref b65), .val (.int nn), .val (.int gc126), .val (.int (0 : Int32)), .val (.ref r_147), .val (.ref r_156), .val (.int (eqS ((nn <<< (cd_147 &&& 31)) >>> (cd_147 &&& 31)) ((gc126 <<< (cd_156 &&& 31)) >>> (cd_156 &&& 31)) (lowF (chA cd_147 (encL cd_147 (cl4 nn c_26 c_36 c_46 c_56)) (0 : Int32) (0 : Int32) (1 : Int32))) (lowF (chA cd_147 (encL cd_147 (cl4 nn c_26 c_36 c_46 c_56)) (1 : Int32) (2 : Int32) (3 : Int32))) (lowF (chA cd_147 (encL cd_147 (cl4 nn c_26 c_36 c_46 c_56)) (2 : Int32) (4 : Int32) (5 : Int32))) (lowF (chA cd_147 (encL cd_147 (cl4 nn c_26 c_36 c_46 c_56)) (3 : Int32) (6 : Int32) (7 : Int32))) (lowF (chA cd_156 (encL cd_156 (cl4 gc126 c_75 c_91 c_103 c_115)) (0 : Int32) (0 : Int32) (1 : Int32))) (lowF (chA cd_156 (encL cd_156 (cl4 gc126 c_75 c_91 c_103 c_115)) (1 : Int32) (2 : Int32) (3 : Int32))) (lowF (chA cd_156 (encL cd_156 (cl4 gc126 c_75 c_91 c_103 c_115)) (2 : Int32) (4 : Int32) (5 : Int32))) (lowF (chA cd_156 (encL cd_156 (cl4 gc126 c_75 c_91 c_103 c_115)) (3 : Int32) (6 : Int32) (7 : Int32))))), .val (.int (0 : Int32))]) rfl (pc' := 333) rfl ?_
                     refine w_iload X197 hx (hb hby at_333) rfl (pc' := 335) rfl ?_
                     refine w_iload X197 hx (hb hby at_335) rfl (pc' := 337) rfl ?_
                     refine w_icN X197 hx (hb hby at_337) (teq (show (eqS ((nn <<< (cd_147 &&& 31)) >>> (cd_147 &&& 31)) ((gc126 <<< (cd_156 &&& 31)) >>> (cd_156 &&& 31)) (lowF (chA cd_147 (encL cd_147 (cl4 nn c_26 c_36 c_46 c_56)) (0 : Int32) (0 : Int32) (1 : Int32))) (lowF (chA cd_147 (encL cd_147 (cl4 nn c_26 c_36 c_46 c_56)) (1 : Int32) (2 : Int32) (3 : Int32))) (lowF (chA cd_147 (encL cd_147 (cl4 nn c_26 c_36 c_46 c_56)) (2 : Int32) (4 : Int32) (5 : Int32))) (lowF (chA cd_147 (encL cd_147 (cl4 nn c_26 c_36 c_46 c_56)) (3 : Int32) (6 : Int32) (7 : Int32))) (lowF (chA cd_156 (encL cd_156 (cl4 gc126 c_75 c_91 c_103 c_115)) (0 : Int32) (0 : Int32) (1 : Int32))) (lowF (chA cd_156 (encL cd_156 (cl4 gc126 c_75 c_91 c_103 c_115)) (1 : Int32) (2 : Int32) (3 : Int32))) (lowF (chA cd_156 (encL cd_156 (cl4 gc126 c_75 c_91 c_103 c_115)) (2 : Int32) (4 : Int32) (5 : Int32))) (lowF (chA cd_156 (encL cd_156 (cl4 gc126 c_75 c_91 c_103 c_115)) (3 : Int32) (6 : Int32) (7 : Int32)))) = (0 : Int32) from by rw [eqS_congr (own_shlrc hg125 hg124 (own_cd2 g147_6).1 (own_cd2 g147_6).2) (own_shlrc hg130 hg129 (own_cd2 g156_6).1 (own_cd2 g156_6).2) (sideC hg125 hg124 g26_0 g36_0 g46_0 g56_0 g147_6) (sideC hg130 hg129 g75_0 g91_0 g103_0 g115_0 g156_6)]; unfold eqS; rw [if_pos hc170, if_pos (own_lty0 hc171), if_pos hc178, if_pos (own_lty1 hc180), if_pos hc185, if_pos (own_lty2 hc187), if_pos hc192, if_pos (own_lty3 hc194), if_neg hc199])).2 (pc' := 340) rfl ?_
                     refine w_iconst X197 hx (hb hby at_340) (v := (1 : Int32)) rfl (pc' := 341) rfl ?_
                     refine w_goto X197 hx (hb hby at_341) (pc' := 345) (by decide) (by decide) ?_
                     exact w_doneH X197 hlk (v := some (.int (1 : Int32))) e197 hh hZ156 (own_EW hw) hS156 (Nat.le_refl _) C158 (fun h => by rw [hret] at h; cases h) (fun fs hr => retN X197 hx (t := .boolean) hret (by simp) (hb hby at_345) hr) (by decide) (by decide) (fun hsy => ⟨rfl, N198⟩)
               · have v202 : (if (lowF c_46) = (lowF c_103) then (1 : Int32) else (0 : Int32)) = (0 : Int32) := if_neg hc192
                 refine w_ifY X190 hx (hb hby at_303) (teq (v202.trans (by decide))).1 (pc' := 330) (by decide) (by decide) ?_
                 refine w_iconst X190 hx (hb hby at_330) (v := (0 : Int32)) rfl (pc' := 331) rfl ?_
                 refine w_istore X190 hx (hb hby at_331) (L' := #[.val (.int p0), .val (.int p1), .val (.int p2), .val (.int p3), .val (.int p4), .val (.ref b20), .val (.ref b65), .val (.int nn), .val (.int gc126), .val (.int (0 : Int32)), .val (.ref r_147), .val (.ref r_156), .val (.int (eqS ((nn <<< (cd_147 &&& 31)) >>> (cd_147 &&& 31)) ((gc126 <<< (cd_156 &&& 31)) >>> (cd_156 &&& 31)) (lowF (chA cd_147 (encL cd_147 (cl4 nn c_26 c_36 c_46 c_56)) (0 : Int32) (0 : Int32) (1 : Int32))) (lowF (chA cd_147 (encL cd_147 (cl4 nn c_26 c_36 c_46 c_56)) (1 : Int32) (2 : Int32) (3 : Int32))) (lowF (chA cd_147 (encL cd_147 (cl4 nn c_26 c_36 c_46 c_56)) (2 : Int32) (4 : Int32) (5 : Int32))) (lowF (chA cd_147 (encL cd_147 (cl4 nn c_26 c_36 c_46 c_56)) (3 : Int32) (6 : Int32) (7 : Int32))) (lowF (chA cd_156 (encL cd_156 (cl4 gc126 c_75 c_91 c_103 c_115)) (0 : Int32) (0 : Int32) (1 : Int32))) (lowF (chA cd_156 (encL cd_156 (cl4 gc126 c_75 c_91 c_103 c_115)) (1 : Int32) (2 : Int32) (3 : Int32))) (lowF (chA cd_156 (encL cd_156 (cl4 gc126 c_75 c_91 c_103 c_115)) (2 : Int32) (4 : Int32) (5 : Int32))) (lowF (chA cd_156 (encL cd_156 (cl4 gc126 c_75 c_91 c_103 c_115)) (3 : Int32) (6 : Int32) (7 : Int32))))), .val (.int (0 : Int32))]) rfl (pc' := 333) rfl ?_
                 refine w_iload X190 hx (hb hby at_333) rfl (pc' := 335) rfl ?_
                 refine w_iload X190 hx (hb hby at_335) rfl (pc' := 337) rfl ?_
                 refine w_icN X190 hx (hb hby at_337) (teq (show (eqS ((nn <<< (cd_147 &&& 31)) >>> (cd_147 &&& 31)) ((gc126 <<< (cd_156 &&& 31)) >>> (cd_156 &&& 31)) (lowF (chA cd_147 (encL cd_147 (cl4 nn c_26 c_36 c_46 c_56)) (0 : Int32) (0 : Int32) (1 : Int32))) (lowF (chA cd_147 (encL cd_147 (cl4 nn c_26 c_36 c_46 c_56)) (1 : Int32) (2 : Int32) (3 : Int32))) (lowF (chA cd_147 (encL cd_147 (cl4 nn c_26 c_36 c_46 c_56)) (2 : Int32) (4 : Int32) (5 : Int32))) (lowF (chA cd_147 (encL cd_147 (cl4 nn c_26 c_36 c_46 c_56)) (3 : Int32) (6 : Int32) (7 : Int32))) (lowF (chA cd_156 (encL cd_156 (cl4 gc126 c_75 c_91 c_103 c_115)) (0 : Int32) (0 : Int32) (1 : Int32))) (lowF (chA cd_156 (encL cd_156 (cl4 gc126 c_75 c_91 c_103 c_115)) (1 : Int32) (2 : Int32) (3 : Int32))) (lowF (chA cd_156 (encL cd_156 (cl4 gc126 c_75 c_91 c_103 c_115)) (2 : Int32) (4 : Int32) (5 : Int32))) (lowF (chA cd_156 (encL cd_156 (cl4 gc126 c_75 c_91 c_103 c_115)) (3 : Int32) (6 : Int32) (7 : Int32)))) = (0 : Int32) from by rw [eqS_congr (own_shlrc hg125 hg124 (own_cd2 g147_6).1 (own_cd2 g147_6).2) (own_shlrc hg130 hg129 (own_cd2 g156_6).1 (own_cd2 g156_6).2) (sideC hg125 hg124 g26_0 g36_0 g46_0 g56_0 g147_6) (sideC hg130 hg129 g75_0 g91_0 g103_0 g115_0 g156_6)]; unfold eqS; rw [if_pos hc170, if_pos (own_lty0 hc171), if_pos hc178, if_pos (own_lty1 hc180), if_pos hc185, if_pos (own_lty2 hc187), if_neg hc192])).2 (pc' := 340) rfl ?_
                 refine w_iconst X190 hx (hb hby at_340) (v := (1 : Int32)) rfl (pc' := 341) rfl ?_
                 refine w_goto X190 hx (hb hby at_341) (pc' := 345) (by decide) (by decide) ?_
                 exact w_doneH X190 hlk (v := some (.int (1 : Int32))) e190 hh hZ156 (own_EW hw) hS156 (Nat.le_refl _) C158 (fun h => by rw [hret] at h; cases h) (fun fs hr => retN X190 hx (t := .boolean) hret (by simp) (hb hby at_345) hr) (by decide) (by decide) (fun hsy => ⟨rfl, N191⟩)
           · have v203 : (if (lowF c_36) = (lowF c_91) then (1 : Int32) else (0 : Int32)) = (0 : Int32) := if_neg hc185
             refine w_ifY X183 hx (hb hby at_283) (teq (v203.trans (by decide))).1 (pc' := 330) (by decide) (by decide) ?_
             refine w_iconst X183 hx (hb hby at_330) (v := (0 : Int32)) rfl (pc' := 331) rfl ?_
             refine w_istore X183 hx (hb hby at_331) (L' := #[.val (.int p0), .val (.int p1), .val (.int p2), .val (.int p3), .val (.int p4), .val (.ref b20), .val (.ref b65), .val (.int nn), .val (.int gc126), .val (.int (0 : Int32)), .val (.ref r_147), .val (.ref r_156), .val (.int (eqS ((nn <<< (cd_147 &&& 31)) >>> (cd_147 &&& 31)) ((gc126 <<< (cd_156 &&& 31)) >>> (cd_156 &&& 31)) (lowF (chA cd_147 (encL cd_147 (cl4 nn c_26 c_36 c_46 c_56)) (0 : Int32) (0 : Int32) (1 : Int32))) (lowF (chA cd_147 (encL cd_147 (cl4 nn c_26 c_36 c_46 c_56)) (1 : Int32) (2 : Int32) (3 : Int32))) (lowF (chA cd_147 (encL cd_147 (cl4 nn c_26 c_36 c_46 c_56)) (2 : Int32) (4 : Int32) (5 : Int32))) (lowF (chA cd_147 (encL cd_147 (cl4 nn c_26 c_36 c_46 c_56)) (3 : Int32) (6 : Int32) (7 : Int32))) (lowF (chA cd_156 (encL cd_156 (cl4 gc126 c_75 c_91 c_103 c_115)) (0 : Int32) (0 : Int32) (1 : Int32))) (lowF (chA cd_156 (encL cd_156 (cl4 gc126 c_75 c_91 c_103 c_115)) (1 : Int32) (2 : Int32) (3 : Int32))) (lowF (chA cd_156 (encL cd_156 (cl4 gc126 c_75 c_91 c_103 c_115)) (2 : Int32) (4 : Int32) (5 : Int32))) (lowF (chA cd_156 (encL cd_156 (cl4 gc126 c_75 c_91 c_103 c_115)) (3 : Int32) (6 : Int32) (7 : Int32))))), .val (.int (0 : Int32))]) rfl (pc' := 333) rfl ?_
             refine w_iload X183 hx (hb hby at_333) rfl (pc' := 335) rfl ?_
             refine w_iload X183 hx (hb hby at_335) rfl (pc' := 337) rfl ?_
             refine w_icN X183 hx (hb hby at_337) (teq (show (eqS ((nn <<< (cd_147 &&& 31)) >>> (cd_147 &&& 31)) ((gc126 <<< (cd_156 &&& 31)) >>> (cd_156 &&& 31)) (lowF (chA cd_147 (encL cd_147 (cl4 nn c_26 c_36 c_46 c_56)) (0 : Int32) (0 : Int32) (1 : Int32))) (lowF (chA cd_147 (encL cd_147 (cl4 nn c_26 c_36 c_46 c_56)) (1 : Int32) (2 : Int32) (3 : Int32))) (lowF (chA cd_147 (encL cd_147 (cl4 nn c_26 c_36 c_46 c_56)) (2 : Int32) (4 : Int32) (5 : Int32))) (lowF (chA cd_147 (encL cd_147 (cl4 nn c_26 c_36 c_46 c_56)) (3 : Int32) (6 : Int32) (7 : Int32))) (lowF (chA cd_156 (encL cd_156 (cl4 gc126 c_75 c_91 c_103 c_115)) (0 : Int32) (0 : Int32) (1 : Int32))) (lowF (chA cd_156 (encL cd_156 (cl4 gc126 c_75 c_91 c_103 c_115)) (1 : Int32) (2 : Int32) (3 : Int32))) (lowF (chA cd_156 (encL cd_156 (cl4 gc126 c_75 c_91 c_103 c_115)) (2 : Int32) (4 : Int32) (5 : Int32))) (lowF (chA cd_156 (encL cd_156 (cl4 gc126 c_75 c_91 c_103 c_115)) (3 : Int32) (6 : Int32) (7 : Int32)))) = (0 : Int32) from by rw [eqS_congr (own_shlrc hg125 hg124 (own_cd2 g147_6).1 (own_cd2 g147_6).2) (own_shlrc hg130 hg129 (own_cd2 g156_6).1 (own_cd2 g156_6).2) (sideC hg125 hg124 g26_0 g36_0 g46_0 g56_0 g147_6) (sideC hg130 hg129 g75_0 g91_0 g103_0 g115_0 g156_6)]; unfold eqS; rw [if_pos hc170, if_pos (own_lty0 hc171), if_pos hc178, if_pos (own_lty1 hc180), if_neg hc185])).2 (pc' := 340) rfl ?_
             refine w_iconst X183 hx (hb hby at_340) (v := (1 : Int32)) rfl (pc' := 341) rfl ?_
             refine w_goto X183 hx (hb hby at_341) (pc' := 345) (by decide) (by decide) ?_
             exact w_doneH X183 hlk (v := some (.int (1 : Int32))) e183 hh hZ156 (own_EW hw) hS156 (Nat.le_refl _) C158 (fun h => by rw [hret] at h; cases h) (fun fs hr => retN X183 hx (t := .boolean) hret (by simp) (hb hby at_345) hr) (by decide) (by decide) (fun hsy => ⟨rfl, N184⟩)
       · have v204 : (if (lowF c_26) = (lowF c_75) then (1 : Int32) else (0 : Int32)) = (0 : Int32) := if_neg hc178
         refine w_ifY X176 hx (hb hby at_263) (teq (v204.trans (by decide))).1 (pc' := 330) (by decide) (by decide) ?_
         refine w_iconst X176 hx (hb hby at_330) (v := (0 : Int32)) rfl (pc' := 331) rfl ?_
         refine w_istore X176 hx (hb hby at_331) (L' := #[.val (.int p0), .val (.int p1), .val (.int p2), .val (.int p3), .val (.int p4), .val (.ref b20), .val (.ref b65), .val (.int nn), .val (.int gc126), .val (.int (0 : Int32)), .val (.ref r_147), .val (.ref r_156), .val (.int (eqS ((nn <<< (cd_147 &&& 31)) >>> (cd_147 &&& 31)) ((gc126 <<< (cd_156 &&& 31)) >>> (cd_156 &&& 31)) (lowF (chA cd_147 (encL cd_147 (cl4 nn c_26 c_36 c_46 c_56)) (0 : Int32) (0 : Int32) (1 : Int32))) (lowF (chA cd_147 (encL cd_147 (cl4 nn c_26 c_36 c_46 c_56)) (1 : Int32) (2 : Int32) (3 : Int32))) (lowF (chA cd_147 (encL cd_147 (cl4 nn c_26 c_36 c_46 c_56)) (2 : Int32) (4 : Int32) (5 : Int32))) (lowF (chA cd_147 (encL cd_147 (cl4 nn c_26 c_36 c_46 c_56)) (3 : Int32) (6 : Int32) (7 : Int32))) (lowF (chA cd_156 (encL cd_156 (cl4 gc126 c_75 c_91 c_103 c_115)) (0 : Int32) (0 : Int32) (1 : Int32))) (lowF (chA cd_156 (encL cd_156 (cl4 gc126 c_75 c_91 c_103 c_115)) (1 : Int32) (2 : Int32) (3 : Int32))) (lowF (chA cd_156 (encL cd_156 (cl4 gc126 c_75 c_91 c_103 c_115)) (2 : Int32) (4 : Int32) (5 : Int32))) (lowF (chA cd_156 (encL cd_156 (cl4 gc126 c_75 c_91 c_103 c_115)) (3 : Int32) (6 : Int32) (7 : Int32))))), .val (.int (0 : Int32))]) rfl (pc' := 333) rfl ?_
         refine w_iload X176 hx (hb hby at_333) rfl (pc' := 335) rfl ?_
         refine w_iload X176 hx (hb hby at_335) rfl (pc' := 337) rfl ?_
         refine w_icN X176 hx (hb hby at_337) (teq (show (eqS ((nn <<< (cd_147 &&& 31)) >>> (cd_147 &&& 31)) ((gc126 <<< (cd_156 &&& 31)) >>> (cd_156 &&& 31)) (lowF (chA cd_147 (encL cd_147 (cl4 nn c_26 c_36 c_46 c_56)) (0 : Int32) (0 : Int32) (1 : Int32))) (lowF (chA cd_147 (encL cd_147 (cl4 nn c_26 c_36 c_46 c_56)) (1 : Int32) (2 : Int32) (3 : Int32))) (lowF (chA cd_147 (encL cd_147 (cl4 nn c_26 c_36 c_46 c_56)) (2 : Int32) (4 : Int32) (5 : Int32))) (lowF (chA cd_147 (encL cd_147 (cl4 nn c_26 c_36 c_46 c_56)) (3 : Int32) (6 : Int32) (7 : Int32))) (lowF (chA cd_156 (encL cd_156 (cl4 gc126 c_75 c_91 c_103 c_115)) (0 : Int32) (0 : Int32) (1 : Int32))) (lowF (chA cd_156 (encL cd_156 (cl4 gc126 c_75 c_91 c_103 c_115)) (1 : Int32) (2 : Int32) (3 : Int32))) (lowF (chA cd_156 (encL cd_156 (cl4 gc126 c_75 c_91 c_103 c_115)) (2 : Int32) (4 : Int32) (5 : Int32))) (lowF (chA cd_156 (encL cd_156 (cl4 gc126 c_75 c_91 c_103 c_115)) (3 : Int32) (6 : Int32) (7 : Int32)))) = (0 : Int32) from by rw [eqS_congr (own_shlrc hg125 hg124 (own_cd2 g147_6).1 (own_cd2 g147_6).2) (own_shlrc hg130 hg129 (own_cd2 g156_6).1 (own_cd2 g156_6).2) (sideC hg125 hg124 g26_0 g36_0 g46_0 g56_0 g147_6) (sideC hg130 hg129 g75_0 g91_0 g103_0 g115_0 g156_6)]; unfold eqS; rw [if_pos hc170, if_pos (own_lty0 hc171), if_neg hc178])).2 (pc' := 340) rfl ?_
         refine w_iconst X176 hx (hb hby at_340) (v := (1 : Int32)) rfl (pc' := 341) rfl ?_
         refine w_goto X176 hx (hb hby at_341) (pc' := 345) (by decide) (by decide) ?_
         exact w_doneH X176 hlk (v := some (.int (1 : Int32))) e176 hh hZ156 (own_EW hw) hS156 (Nat.le_refl _) C158 (fun h => by rw [hret] at h; cases h) (fun fs hr => retN X176 hx (t := .boolean) hret (by simp) (hb hby at_345) hr) (by decide) (by decide) (fun hsy => ⟨rfl, N177⟩)
   · refine w_icY X168 hx (hb hby at_243) (feq hc170).2 (pc' := 330) (by decide) (by decide) ?_
     refine w_iconst X168 hx (hb hby at_330) (v := (0 : Int32)) rfl (pc' := 331) rfl ?_
     refine w_istore X168 hx (hb hby at_331) (L' := #[.val (.int p0), .val (.int p1), .val (.int p2), .val (.int p3), .val (.int p4), .val (.ref b20), .val (.ref b65), .val (.int nn), .val (.int gc126), .val (.int (0 : Int32)), .val (.ref r_147), .val (.ref r_156), .val (.int (eqS ((nn <<< (cd_147 &&& 31)) >>> (cd_147 &&& 31)) ((gc126 <<< (cd_156 &&& 31)) >>> (cd_156 &&& 31)) (lowF (chA cd_147 (encL cd_147 (cl4 nn c_26 c_36 c_46 c_56)) (0 : Int32) (0 : Int32) (1 : Int32))) (lowF (chA cd_147 (encL cd_147 (cl4 nn c_26 c_36 c_46 c_56)) (1 : Int32) (2 : Int32) (3 : Int32))) (lowF (chA cd_147 (encL cd_147 (cl4 nn c_26 c_36 c_46 c_56)) (2 : Int32) (4 : Int32) (5 : Int32))) (lowF (chA cd_147 (encL cd_147 (cl4 nn c_26 c_36 c_46 c_56)) (3 : Int32) (6 : Int32) (7 : Int32))) (lowF (chA cd_156 (encL cd_156 (cl4 gc126 c_75 c_91 c_103 c_115)) (0 : Int32) (0 : Int32) (1 : Int32))) (lowF (chA cd_156 (encL cd_156 (cl4 gc126 c_75 c_91 c_103 c_115)) (1 : Int32) (2 : Int32) (3 : Int32))) (lowF (chA cd_156 (encL cd_156 (cl4 gc126 c_75 c_91 c_103 c_115)) (2 : Int32) (4 : Int32) (5 : Int32))) (lowF (chA cd_156 (encL cd_156 (cl4 gc126 c_75 c_91 c_103 c_115)) (3 : Int32) (6 : Int32) (7 : Int32))))), .val (.int (0 : Int32))]) rfl (pc' := 333) rfl ?_
     refine w_iload X168 hx (hb hby at_333) rfl (pc' := 335) rfl ?_
     refine w_iload X168 hx (hb hby at_335) rfl (pc' := 337) rfl ?_
     refine w_icN X168 hx (hb hby at_337) (teq (show (eqS ((nn <<< (cd_147 &&& 31)) >>> (cd_147 &&& 31)) ((gc126 <<< (cd_156 &&& 31)) >>> (cd_156 &&& 31)) (lowF (chA cd_147 (encL cd_147 (cl4 nn c_26 c_36 c_46 c_56)) (0 : Int32) (0 : Int32) (1 : Int32))) (lowF (chA cd_147 (encL cd_147 (cl4 nn c_26 c_36 c_46 c_56)) (1 : Int32) (2 : Int32) (3 : Int32))) (lowF (chA cd_147 (encL cd_147 (cl4 nn c_26 c_36 c_46 c_56)) (2 : Int32) (4 : Int32) (5 : Int32))) (lowF (chA cd_147 (encL cd_147 (cl4 nn c_26 c_36 c_46 c_56)) (3 : Int32) (6 : Int32) (7 : Int32))) (lowF (chA cd_156 (encL cd_156 (cl4 gc126 c_75 c_91 c_103 c_115)) (0 : Int32) (0 : Int32) (1 : Int32))) (lowF (chA cd_156 (encL cd_156 (cl4 gc126 c_75 c_91 c_103 c_115)) (1 : Int32) (2 : Int32) (3 : Int32))) (lowF (chA cd_156 (encL cd_156 (cl4 gc126 c_75 c_91 c_103 c_115)) (2 : Int32) (4 : Int32) (5 : Int32))) (lowF (chA cd_156 (encL cd_156 (cl4 gc126 c_75 c_91 c_103 c_115)) (3 : Int32) (6 : Int32) (7 : Int32)))) = (0 : Int32) from by rw [eqS_congr (own_shlrc hg125 hg124 (own_cd2 g147_6).1 (own_cd2 g147_6).2) (own_shlrc hg130 hg129 (own_cd2 g156_6).1 (own_cd2 g156_6).2) (sideC hg125 hg124 g26_0 g36_0 g46_0 g56_0 g147_6) (sideC hg130 hg129 g75_0 g91_0 g103_0 g115_0 g156_6)]; unfold eqS; rw [if_neg hc170])).2 (pc' := 340) rfl ?_
     refine w_iconst X168 hx (hb hby at_340) (v := (1 : Int32)) rfl (pc' := 341) rfl ?_
     refine w_goto X168 hx (hb hby at_341) (pc' := 345) (by decide) (by decide) ?_
     exact w_doneH X168 hlk (v := some (.int (1 : Int32))) e168 hh hZ156 (own_EW hw) hS156 (Nat.le_refl _) C158 (fun h => by rw [hret] at h; cases h) (fun fs hr => retN X168 hx (t := .boolean) hret (by simp) (hb hby at_345) hr) (by decide) (by decide) (fun hsy => ⟨rfl, N169⟩)
set_option maxRecDepth 65536 in
set_option maxHeartbeats 40000000 in
theorem comes_1 {Post : Tables → Env → Array Value → State → Outcome → State → Prop} (hpost : ∀ tb e args s v u, (limb_1_1.after args s (.returned v) u = true ∧ limb_1_2.after args s (.returned v) u = true ∧ True) → ReturnedEndW s (.returned v) u (Jvm.fieldLocs frame_1_writes args s ++ Jvm.arrayLocs frame_1_arrays args s ++ Jvm.staticLocs frame_1_statics s) 32 1216 → Post tb e args s (.returned v) u) :
    ArmFor flags0 classFile x code maxLocals ret World_1 tables_1 room_1 Calls_1 rest_1 Pre_1 Post := by
  intro l hfl _ _ p e ha hc hk s m args below hf hA hF happ hP
  obtain ⟨hcalls, hrest, hpre⟩ := hP
  obtain ⟨-, -, -, hnamed, -, -, -, hat⟩ := (Spec.applies_iff hf).mp happ
  obtain ⟨hg, hn⟩ := and_e (Cond.before_iff.mp (show (Jvm.Cond.and given_1 narrow_1).before args s = true from hpre))
  obtain ⟨gv1, gv2⟩ := and_e hg
  obtain ⟨gv3, gv4⟩ := and_e gv2
  obtain ⟨gv5, gv6⟩ := and_e gv4
  obtain ⟨gv7, gv8⟩ := and_e gv6
  obtain ⟨gv9, gv10⟩ := and_e gv8
  obtain ⟨w0, w1, w2, w3, w4, rfl⟩ : ∃ w0 w1 w2 w3 w4 : Value, args = #[w0, w1, w2, w3, w4] := by
    have hs : args.size = 5 := by simpa [Cond.value, given_1] using gv1
    obtain ⟨L⟩ := args
    match L, hs with
    | [w0, w1, w2, w3, w4], _ => exact ⟨w0, w1, w2, w3, w4, rfl⟩
  have hw := fun d (hd : d ∈ tables_1) => atoms_spec (ws := Jvm.Cond.code x code maxLocals ret :: tables_1) hat d (List.mem_cons_of_mem _ hd)
  have hfit : Fit s := fun {y c} hc i hi => by
    obtain ⟨ha, rfl⟩ := Array.getElem?_eq_some_iff.mp hc
    have q := List.all_eq_true.mp ((Array.all_eq_true_iff_forall_mem.mp hF) _ (Array.getElem_mem ha)) i (List.mem_range.mpr hi)
    simpa [Array.getElem?_eq_getElem hi] using q
  obtain ⟨hsets, hown0⟩ := atoms_of _ (rest_1_c_eq ▸ (show rest_1_c.before _ s = true from hrest))
  have hr0 := Cond.before_iff.mp hown0
  obtain ⟨i0, ei0⟩ := is_v gv3
  obtain rfl : w0 = (.int i0) := Option.some.inj ei0
  obtain ⟨i1, ei1⟩ := is_v gv5
  obtain rfl : w1 = (.int i1) := Option.some.inj ei1
  obtain ⟨i2, ei2⟩ := is_v gv7
  obtain rfl : w2 = (.int i2) := Option.some.inj ei2
  obtain ⟨i3, ei3⟩ := is_v gv9
  obtain rfl : w3 = (.int i3) := Option.some.inj ei3
  obtain ⟨i4, ei4⟩ := is_v gv10
  obtain rfl : w4 = (.int i4) := Option.some.inj ei4
  obtain ⟨G_COMPACT_STRINGS, ev_G_COMPACT_STRINGS⟩ := is_v (Cond.before_iff.mp (hsets _ (List.mem_of_getElem? (i := 1) rfl)))
  have S_COMPACT_STRINGS := Sta.start ev_G_COMPACT_STRINGS (Or.inl (hsets _ (List.mem_of_getElem? (i := 0) rfl)))
  have ev__assertionsDisabled := eqv_i (Term.int_eval (1)) (Cond.before_iff.mp (hsets _ (List.mem_of_getElem? (i := 12) rfl)))
  have S__assertionsDisabled := Sta.start ev__assertionsDisabled (Or.inl (hsets _ (List.mem_of_getElem? (i := 11) rfl)))
  have ev_HI_BYTE_SHIFT := eqv_i (Term.int_eval (0)) (Cond.before_iff.mp (hsets _ (List.mem_of_getElem? (i := 15) rfl)))
  have S_HI_BYTE_SHIFT := Sta.start ev_HI_BYTE_SHIFT (Or.inl (hsets _ (List.mem_of_getElem? (i := 14) rfl)))
  have ev_LO_BYTE_SHIFT := eqv_i (Term.int_eval (8)) (Cond.before_iff.mp (hsets _ (List.mem_of_getElem? (i := 18) rfl)))
  have S_LO_BYTE_SHIFT := Sta.start ev_LO_BYTE_SHIFT (Or.inl (hsets _ (List.mem_of_getElem? (i := 17) rfl)))
  obtain ⟨G_SIOOBE_FORMATTER, ev_G_SIOOBE_FORMATTER, r_G_SIOOBE_FORMATTER⟩ := isR_v (Cond.before_iff.mp (hsets _ (List.mem_of_getElem? (i := 8) rfl)))
  have S_SIOOBE_FORMATTER := Sta.start ev_G_SIOOBE_FORMATTER (Or.inl (hsets _ (List.mem_of_getElem? (i := 7) rfl)))
  have hP_5 : ¬ (G_COMPACT_STRINGS = (0 : Int32)) := fun q => by
    have h9 := not_v (Cond.before_iff.mp (hsets _ (List.mem_of_getElem? (i := 2) rfl)))
    rw [eq_i ev_G_COMPACT_STRINGS (Term.int_eval 0) (by rw [q])] at h9
    cases h9
  have hCH : CHv s EL s.vm s.heap := CHv.start (own_EW hw) (fun p hp => hcalls.1 p hp) (hsets _ (List.mem_of_getElem? (i := 2) rfl)) (wd_26 hw) (wd_13 hw)
  obtain ⟨n, o, h1, h2, h3, _, L, rfl, ⟨rfl, N⟩, -, hq⟩ := rm_law l s _ hw tables_1 i0 i1 i2 i3 i4 G_COMPACT_STRINGS G_SIOOBE_FORMATTER s.heap s.heap.size (Nat.le_refl _) S_COMPACT_STRINGS (Old.start s) S__assertionsDisabled S_HI_BYTE_SHIFT S_LO_BYTE_SHIFT hP_5 r_G_SIOOBE_FORMATTER S_SIOOBE_FORMATTER p e ha hc hk s m _ below hf ((Spec.applies_iff_loose hf).mp happ).1 ⟨rfl, State.Warmed39.refl s, rfl, hCH, fun x hx => nomatch hx⟩ trivial
  refine ⟨n, _, h1, h2, h3, hpost _ _ _ _ _ _ ⟨Cond.after_iff.mpr rfl, Cond.after_iff.mpr (eq_i res_at (Term.int_eval (1)) rfl), trivial⟩ ⟨hq.1, hq.2.1, hq.2.2.1, (hq.2.2.2.sift fun y hy => Or.inr (N y hy)).mono (by decide) (by decide)⟩⟩
theorem main_1_1 : Claimed_1_1 := comes_1 fun _ _ _ _ _ _ h hF => ⟨h.1, hF⟩
theorem main_1_2 : Claimed_1_2 := comes_1 fun _ _ _ _ _ _ h hF => ⟨h.2.1, hF⟩
end Jvm.Pilot.@@N@@
namespace Jvm.Pilot.@@N@@
open Jvm Jvm.ClassFile Sem Op Lib Jvm.Free Jvm.Stand Jvm.Pilot.@@N@@.Jvm.D
/-! MADE BY PROGRAM (witnessworld.py) out of the Statement's table words and the real class files: 20 classes; the members and pool entries that the words name. The judged class is class 1, her method 1. -/
namespace start1
open Jvm.ClassFile
def u (s : String) : CpInfo := .utf8 (stringToUtf16 s)
/-- a pool by its gaps: so many unusable entries, then the entry; so many at the end -/
def gap : Nat → List CpInfo → List CpInfo
  | 0, r => r
  | n + 1, r => .unusable :: gap n r
def poolList (es : List (Nat × CpInfo)) (last : Nat) : List CpInfo := es.foldr (fun e r => gap e.1 (e.2 :: r)) (gap last [])
def pool (es : List (Nat × CpInfo)) (last : Nat) : Array CpInfo := ⟨poolList es last⟩
def fileOf (pool : Array CpInfo) (this : Nat) (attrs : Array Attribute := #[]) (ms : Array MethodInfo := #[]) (fl : Nat := 33) (sup : Nat := 0) (ifs : Array Nat := #[]) (fds : Array FieldInfo := #[]) : ClassFile where
  minorVersion := 0
  majorVersion := 65
  constantPool := pool
  accessFlags := fl
  thisClass := this
  superClass := sup
  interfaces := ifs
  fields := fds
  methods := ms
  attributes := attrs
def plain (name : String) (sup : Option ClassId) : Class where
  name := name
  kind := .ordinary
  loader := none
  accessFlags := 33
  super := sup
  interfaces := #[]
  cf := none
  fields := #[]
  methods := #[]
  instanceTypes := #[]
  staticTypes := #[]
  resolved := #[]
  callSites := []
  init := .initialized
  statics := none
  mirror := none

def pool0 : Array CpInfo := pool [(5, u "<init>"), (0, u "()V"), (1, .class_ 10), (1, u "java/lang/Object")] 113

def k0c0 : Code := { maxStack := 0, maxLocals := 1, code := object_method_1_code, exceptionTable := #[], attributes := #[] }
def k0m0 : Method := { name := "<init>", desc := "()V", sig := { parameters := [], returnType := none }, accessFlags := 1, code := some k0c0 }
/-- java/lang/Object -/
def k0 : Class := { plain "java/lang/Object" none with
  accessFlags := 33
  interfaces := #[]
  cf := some (fileOf pool0 8 #[] #[{ accessFlags := 1, nameIndex := 5, descriptorIndex := 6, attributes := #[] }] 33 0 #[] #[])
  fields := #[]
  methods := #[k0m0]
  instanceTypes := #[]
  staticTypes := #[]
  resolved := Array.replicate 124 none
  statics := none }

def pool1 : Array CpInfo := pool [(2, .class_ 4), (1, u "java/lang/Object"), (0, u "<init>"), (0, u "()V"), (0, .integer 65535), (0, .methodref 9 10), (0, .class_ 11), (0, .nameAndType 12 13), (0, u "com/example/runnymede/runnymede/AsciiEqualsIgnoreCasePinLaw"), (0, u "draw"), (0, u "(III)C"), (0, .methodref 9 15), (0, .nameAndType 16 17), (0, u "derive"), (0, u "(CIII)C"), (0, .methodref 9 19), (0, .nameAndType 20 21), (0, u "make"), (0, u "([CI)Ljava/lang/String;"), (0, .methodref 23 24), (0, .class_ 25), (0, .nameAndType 26 27), (0, u "com/example/runnymede/runnymede/Ascii"), (0, u "equalsIgnoreCase"), (0, u "(Ljava/lang/String;Ljava/lang/String;)Z"), (0, .methodref 9 29), (0, .nameAndType 30 31), (0, u "same"), (0, u "(CC)Z"), (0, .class_ 33), (0, u "java/lang/String"), (0, .methodref 32 35), (0, .nameAndType 5 36), (0, u "([C)V"), (2, u "law"), (0, u "(IIIII)Z")] 5

def k1m0 : Method := { name := "<init>", desc := "()V", sig := { parameters := [], returnType := none }, accessFlags := 2, code := none }
def k1c1 : Code := { maxStack := 6, maxLocals := 14, code := code, exceptionTable := #[], attributes := #[] }
def k1m1 : Method := { name := "law", desc := "(IIIII)Z", sig := { parameters := [.int, .int, .int, .int, .int], returnType := some .boolean }, accessFlags := 9, code := some k1c1 }
def k1c2 : Code := { maxStack := 2, maxLocals := 3, code := method_3_code, exceptionTable := #[], attributes := #[] }
def k1m2 : Method := { name := "draw", desc := "(III)C", sig := { parameters := [.int, .int, .int], returnType := some .char }, accessFlags := 10, code := some k1c2 }
def k1c3 : Code := { maxStack := 2, maxLocals := 5, code := method_4_code, exceptionTable := #[], attributes := #[] }
def k1m3 : Method := { name := "derive", desc := "(CIII)C", sig := { parameters := [.char, .int, .int, .int], returnType := some .char }, accessFlags := 10, code := some k1c3 }
def k1c4 : Code := { maxStack := 7, maxLocals := 2, code := method_5_code, exceptionTable := #[], attributes := #[] }
def k1m4 : Method := { name := "make", desc := "([CI)Ljava/lang/String;", sig := { parameters := [(.array .char), .int], returnType := some (.object "java/lang/String") }, accessFlags := 10, code := some k1c4 }
def k1c5 : Code := { maxStack := 2, maxLocals := 3, code := method_6_code, exceptionTable := #[], attributes := #[] }
def k1m5 : Method := { name := "same", desc := "(CC)Z", sig := { parameters := [.char, .char], returnType := some .boolean }, accessFlags := 10, code := some k1c5 }
/-- com/example/runnymede/runnymede/AsciiEqualsIgnoreCasePinLaw -/
def k1 : Class := { plain "com/example/runnymede/runnymede/AsciiEqualsIgnoreCasePinLaw" (some 0) with
  accessFlags := 49
  interfaces := #[]
  cf := some (fileOf pool1 9 #[] #[{ accessFlags := 2, nameIndex := 5, descriptorIndex := 6, attributes := #[] }, { accessFlags := 9, nameIndex := 39, descriptorIndex := 40, attributes := #[] }, { accessFlags := 10, nameIndex := 12, descriptorIndex := 13, attributes := #[] }, { accessFlags := 10, nameIndex := 16, descriptorIndex := 17, attributes := #[] }, { accessFlags := 10, nameIndex := 20, descriptorIndex := 21, attributes := #[] }, { accessFlags := 10, nameIndex := 30, descriptorIndex := 31, attributes := #[] }] 49 2 #[] #[])
  fields := #[]
  methods := #[k1m0, k1m1, k1m2, k1m3, k1m4, k1m5]
  instanceTypes := #[]
  staticTypes := #[]
  resolved := Array.replicate 46 none
  statics := none }

def pool2 : Array CpInfo := pool [(1, .class_ 2), (0, u "java/io/Serializable"), (0, .class_ 4), (0, u "java/lang/Object")] 2

/-- java/io/Serializable -/
def k2 : Class := { plain "java/io/Serializable" (some 0) with
  accessFlags := 1537
  interfaces := #[]
  cf := some (fileOf pool2 1 #[] #[] 1537 3 #[] #[])
  fields := #[]
  methods := #[]
  instanceTypes := #[]
  staticTypes := #[]
  resolved := Array.replicate 7 none
  statics := none }

def pool3 : Array CpInfo := pool [(1, .class_ 2), (0, u "java/lang/Comparable"), (0, .class_ 4), (0, u "java/lang/Object")] 7

/-- java/lang/Comparable -/
def k3 : Class := { plain "java/lang/Comparable" (some 0) with
  accessFlags := 1537
  interfaces := #[]
  cf := some (fileOf pool3 1 #[] #[] 1537 3 #[] #[])
  fields := #[]
  methods := #[]
  instanceTypes := #[]
  staticTypes := #[]
  resolved := Array.replicate 12 none
  statics := none }

def pool4 : Array CpInfo := pool [(2, .class_ 4), (1, u "java/lang/CharSequence"), (42, .class_ 48), (0, u "java/lang/CharSequence$1CodePointIterator"), (10, .class_ 60), (0, u "java/lang/CharSequence$1CharIterator"), (5, .class_ 67), (0, u "java/lang/Object")] 63

/-- java/lang/CharSequence -/
def k4 : Class := { plain "java/lang/CharSequence" (some 0) with
  accessFlags := 1537
  interfaces := #[]
  cf := some (fileOf pool4 2 #[.nestMembers #[47, 59]] #[] 1537 66 #[] #[])
  fields := #[]
  methods := #[]
  instanceTypes := #[]
  staticTypes := #[]
  resolved := Array.replicate 131 none
  statics := none }

def pool5 : Array CpInfo := pool [(1, .class_ 2), (0, u "java/lang/constant/Constable"), (0, .class_ 4), (0, u "java/lang/Object")] 6

/-- java/lang/constant/Constable -/
def k5 : Class := { plain "java/lang/constant/Constable" (some 0) with
  accessFlags := 1537
  interfaces := #[]
  cf := some (fileOf pool5 1 #[] #[] 1537 3 #[] #[])
  fields := #[]
  methods := #[]
  instanceTypes := #[]
  staticTypes := #[]
  resolved := Array.replicate 11 none
  statics := none }

def pool6 : Array CpInfo := pool [(1, .class_ 2), (0, u "java/lang/constant/ConstantDesc"), (0, .class_ 4), (0, u "java/lang/Object")] 32

/-- java/lang/constant/ConstantDesc -/
def k6 : Class := { plain "java/lang/constant/ConstantDesc" (some 0) with
  accessFlags := 1537
  interfaces := #[]
  cf := some (fileOf pool6 1 #[] #[] 1537 3 #[] #[])
  fields := #[]
  methods := #[]
  instanceTypes := #[]
  staticTypes := #[]
  resolved := Array.replicate 37 none
  statics := none }

def pool7 : Array CpInfo := pool [(1, .methodref 2 3), (0, .class_ 4), (0, .nameAndType 5 6), (0, u "java/lang/Object"), (0, u "<init>"), (0, u "()V"), (0, .string 8), (0, u ""), (0, .fieldref 10 11), (0, .class_ 12), (0, .nameAndType 13 14), (0, u "java/lang/String"), (0, u "value"), (0, u "[B"), (0, .fieldref 10 16), (0, .nameAndType 17 18), (0, u "coder"), (0, u "B"), (2, u "hash"), (0, u "I"), (2, u "hashIsZero"), (0, u "Z"), (0, .methodref 10 28), (0, .nameAndType 5 29), (0, u "([CIILjava/lang/Void;)V"), (8, .fieldref 10 39), (0, .nameAndType 40 26), (0, u "COMPACT_STRINGS"), (1, .class_ 44), (1, u "java/lang/StringUTF16"), (0, u "compress"), (1, .methodref 42 48), (0, .nameAndType 49 50), (0, u "coderFromArrayLen"), (0, u "([BI)B"), (56, .class_ 109), (1, u "java/lang/StringLatin1"), (32, u "()Z"), (34, .methodref 42 178), (0, .nameAndType 45 179), (0, u "([CII)[B"), (154, u "()I"), (0, .methodref 10 336), (0, .nameAndType 17 337), (0, u "()B"), (25, u "([BI)C"), (27, u "(II)V"), (35, u "(I)C"), (64, .methodref 10 493), (0, .nameAndType 494 142), (0, u "isLatin1"), (0, .methodref 107 496), (0, .nameAndType 497 363), (0, u "charAt"), (0, .methodref 42 496), (2, u "checkIndex"), (5, u "length"), (67, .class_ 576), (0, u "java/lang/CharSequence"), (22, u "CASE_INSENSITIVE_ORDER"), (0, u "Ljava/util/Comparator;"), (409, u "([C)V"), (42, .fieldref 1054 1055), (0, .class_ 1056), (0, .nameAndType 1057 1058), (0, u "jdk/internal/util/Preconditions"), (0, u "SIOOBE_FORMATTER"), (0, u "Ljava/util/function/BiFunction;"), (0, .methodref 1054 1060), (0, .nameAndType 501 1061), (0, u "(IILjava/util/function/BiFunction;)I"), (39, u "serialPersistentFields"), (0, u "[Ljava/io/ObjectStreamField;"), (0, .class_ 1104), (0, u "java/lang/String$CaseInsensitiveComparator"), (1, .class_ 1107), (0, u "java/io/Serializable"), (0, .class_ 1109), (0, u "java/lang/Comparable"), (0, .class_ 1111), (0, u "java/lang/constant/Constable"), (0, .class_ 1113), (0, u "java/lang/constant/ConstantDesc"), (2, u "serialVersionUID"), (0, u "J"), (3, u "REPL"), (0, u "C"), (2, u "LATIN1"), (1, u "UTF16")] 323

def k7m0 : Method := { name := "<init>", desc := "()V", sig := { parameters := [], returnType := none }, accessFlags := 1, code := none }
def k7c1 : Code := { maxStack := 5, maxLocals := 2, code := jdk_42_method_3_code, exceptionTable := #[], attributes := #[] }
def k7m1 : Method := { name := "<init>", desc := "([C)V", sig := { parameters := [(.array .char)], returnType := none }, accessFlags := 1, code := some k7c1 }
def k7c2 : Code := { maxStack := 2, maxLocals := 1, code := jdk_42_method_54_code, exceptionTable := #[], attributes := #[] }
def k7m2 : Method := { name := "length", desc := "()I", sig := { parameters := [], returnType := some .int }, accessFlags := 1, code := some k7c2 }
def k7c3 : Code := { maxStack := 2, maxLocals := 2, code := jdk_42_method_56_code, exceptionTable := #[], attributes := #[] }
def k7m3 : Method := { name := "charAt", desc := "(I)C", sig := { parameters := [.int], returnType := some .char }, accessFlags := 1, code := some k7c3 }
def k7c4 : Code := { maxStack := 4, maxLocals := 6, code := jdk_42_method_149_code, exceptionTable := #[], attributes := #[] }
def k7m4 : Method := { name := "<init>", desc := "([CIILjava/lang/Void;)V", sig := { parameters := [(.array .char), .int, .int, (.object "java/lang/Void")], returnType := none }, accessFlags := 2, code := some k7c4 }
def k7c5 : Code := { maxStack := 1, maxLocals := 1, code := jdk_42_method_152_code, exceptionTable := #[], attributes := #[] }
def k7m5 : Method := { name := "coder", desc := "()B", sig := { parameters := [], returnType := some .byte }, accessFlags := 0, code := some k7c5 }
def k7c6 : Code := { maxStack := 1, maxLocals := 1, code := jdk_42_method_154_code, exceptionTable := #[], attributes := #[] }
def k7m6 : Method := { name := "isLatin1", desc := "()Z", sig := { parameters := [], returnType := some .boolean }, accessFlags := 0, code := some k7c6 }
def k7c7 : Code := { maxStack := 3, maxLocals := 2, code := jdk_42_method_155_code, exceptionTable := #[], attributes := #[] }
def k7m7 : Method := { name := "checkIndex", desc := "(II)V", sig := { parameters := [.int, .int], returnType := none }, accessFlags := 8, code := some k7c7 }
/-- java/lang/String -/
def k7 : Class := { plain "java/lang/String" (some 0) with
  accessFlags := 49
  interfaces := #[2, 3, 4, 5, 6]
  cf := some (fileOf pool7 10 #[.nestMembers #[1103]] #[{ accessFlags := 1, nameIndex := 5, descriptorIndex := 6, attributes := #[] }, { accessFlags := 1, nameIndex := 5, descriptorIndex := 1010, attributes := #[] }, { accessFlags := 1, nameIndex := 507, descriptorIndex := 334, attributes := #[] }, { accessFlags := 1, nameIndex := 497, descriptorIndex := 427, attributes := #[] }, { accessFlags := 2, nameIndex := 5, descriptorIndex := 29, attributes := #[] }, { accessFlags := 0, nameIndex := 17, descriptorIndex := 337, attributes := #[] }, { accessFlags := 0, nameIndex := 494, descriptorIndex := 142, attributes := #[] }, { accessFlags := 8, nameIndex := 501, descriptorIndex := 391, attributes := #[] }] 49 2 #[1106, 1108, 575, 1110, 1112] #[{ accessFlags := 18, nameIndex := 13, descriptorIndex := 14, attributes := #[] }, { accessFlags := 18, nameIndex := 17, descriptorIndex := 18, attributes := #[] }, { accessFlags := 2, nameIndex := 21, descriptorIndex := 22, attributes := #[] }, { accessFlags := 2, nameIndex := 25, descriptorIndex := 26, attributes := #[] }, { accessFlags := 26, nameIndex := 1116, descriptorIndex := 1117, attributes := #[] }, { accessFlags := 24, nameIndex := 40, descriptorIndex := 26, attributes := #[] }, { accessFlags := 26, nameIndex := 1101, descriptorIndex := 1102, attributes := #[] }, { accessFlags := 26, nameIndex := 1121, descriptorIndex := 1122, attributes := #[] }, { accessFlags := 25, nameIndex := 599, descriptorIndex := 600, attributes := #[] }, { accessFlags := 24, nameIndex := 1125, descriptorIndex := 18, attributes := #[] }, { accessFlags := 24, nameIndex := 1127, descriptorIndex := 18, attributes := #[] }])
  fields := #[{ name := "value", type := (.array .byte), accessFlags := 18, slot := 0, constantValue := 0 }, { name := "coder", type := .byte, accessFlags := 18, slot := 1, constantValue := 0 }, { name := "hash", type := .int, accessFlags := 2, slot := 2, constantValue := 0 }, { name := "hashIsZero", type := .boolean, accessFlags := 2, slot := 3, constantValue := 0 }, { name := "serialVersionUID", type := .long, accessFlags := 26, slot := 0, constantValue := 0 }, { name := "COMPACT_STRINGS", type := .boolean, accessFlags := 24, slot := 1, constantValue := 0 }, { name := "serialPersistentFields", type := (.array (.object "java/io/ObjectStreamField")), accessFlags := 26, slot := 2, constantValue := 0 }, { name := "REPL", type := .char, accessFlags := 26, slot := 3, constantValue := 0 }, { name := "CASE_INSENSITIVE_ORDER", type := (.object "java/util/Comparator"), accessFlags := 25, slot := 4, constantValue := 0 }, { name := "LATIN1", type := .byte, accessFlags := 24, slot := 5, constantValue := 0 }, { name := "UTF16", type := .byte, accessFlags := 24, slot := 6, constantValue := 0 }]
  methods := #[k7m0, k7m1, k7m2, k7m3, k7m4, k7m5, k7m6, k7m7]
  instanceTypes := #[(.array .byte), .byte, .int, .boolean]
  staticTypes := #[.long, .boolean, (.array (.object "java/io/ObjectStreamField")), .char, (.object "java/util/Comparator"), .byte, .byte]
  resolved := Array.replicate 1451 none
  statics := some 0 }

def pool8 : Array CpInfo := pool [(2, .class_ 4), (1, u "java/lang/Object"), (0, u "<init>"), (0, u "()V"), (0, .methodref 8 9), (0, .class_ 10), (0, .nameAndType 11 12), (0, u "java/lang/String"), (0, u "length"), (0, u "()I"), (0, .methodref 8 14), (0, .nameAndType 15 16), (0, u "charAt"), (0, u "(I)C"), (0, .methodref 18 19), (0, .class_ 20), (0, .nameAndType 21 22), (0, u "com/example/runnymede/runnymede/Ascii"), (0, u "lowerCase"), (0, u "(C)C"), (33, u "equalsIgnoreCase"), (0, u "(Ljava/lang/String;Ljava/lang/String;)Z")] 26

def k8m0 : Method := { name := "<init>", desc := "()V", sig := { parameters := [], returnType := none }, accessFlags := 2, code := none }
def k8c1 : Code := { maxStack := 3, maxLocals := 4, code := prog_12_method_2_code, exceptionTable := #[], attributes := #[] }
def k8m1 : Method := { name := "equalsIgnoreCase", desc := "(Ljava/lang/String;Ljava/lang/String;)Z", sig := { parameters := [(.object "java/lang/String"), (.object "java/lang/String")], returnType := some .boolean }, accessFlags := 8, code := some k8c1 }
def k8c2 : Code := { maxStack := 2, maxLocals := 1, code := prog_12_method_5_code, exceptionTable := #[], attributes := #[] }
def k8m2 : Method := { name := "lowerCase", desc := "(C)C", sig := { parameters := [.char], returnType := some .char }, accessFlags := 10, code := some k8c2 }
/-- com/example/runnymede/runnymede/Ascii -/
def k8 : Class := { plain "com/example/runnymede/runnymede/Ascii" (some 0) with
  accessFlags := 48
  interfaces := #[]
  cf := some (fileOf pool8 18 #[] #[{ accessFlags := 2, nameIndex := 5, descriptorIndex := 6, attributes := #[] }, { accessFlags := 8, nameIndex := 56, descriptorIndex := 57, attributes := #[] }, { accessFlags := 10, nameIndex := 21, descriptorIndex := 22, attributes := #[] }] 48 2 #[] #[])
  fields := #[]
  methods := #[k8m0, k8m1, k8m2]
  instanceTypes := #[]
  staticTypes := #[]
  resolved := Array.replicate 84 none
  statics := none }

def pool9 : Array CpInfo := pool [(3, .class_ 4), (0, u "java/lang/String"), (1, .class_ 8), (1, u "java/lang/Object"), (0, u "<init>"), (0, u "()V"), (0, .methodref 12 13), (0, .class_ 14), (0, .nameAndType 15 16), (0, u "java/lang/StringUTF16"), (0, u "newBytesLength"), (0, u "(I)I"), (3, .integer 1073741823), (23, .fieldref 12 45), (0, .nameAndType 46 47), (0, u "$assertionsDisabled"), (0, u "Z"), (0, .methodref 12 49), (0, .nameAndType 50 51), (0, u "length"), (0, u "([B)I"), (7, .fieldref 12 60), (0, .nameAndType 61 62), (0, u "HI_BYTE_SHIFT"), (0, u "I"), (0, .fieldref 12 64), (0, .nameAndType 65 62), (0, u "LO_BYTE_SHIFT"), (1, .methodref 12 68), (0, .nameAndType 69 70), (0, u "checkIndex"), (0, u "(I[B)V"), (0, .methodref 12 72), (0, .nameAndType 73 74), (0, u "getChar"), (0, u "([BI)C"), (32, .methodref 12 108), (0, .nameAndType 109 110), (0, u "newBytesFor"), (0, u "(I)[B"), (0, .methodref 12 112), (0, .nameAndType 113 114), (0, u "putChar"), (0, u "([BII)V"), (0, .methodref 12 116), (0, .nameAndType 117 118), (0, u "compress"), (0, u "([CI[BII)I"), (0, .methodref 12 120), (0, .nameAndType 121 122), (0, u "toBytes"), (0, u "([CII)[B"), (138, u "coderFromArrayLen"), (0, u "([BI)B"), (106, .class_ 371), (1, u "java/lang/StringUTF16$LinesSpliterator"), (20, u "charAt"), (21, .methodref 3 415), (0, .nameAndType 69 416), (0, u "(II)V"), (13, u "MAX_LENGTH"), (196, .class_ 628), (0, u "java/lang/StringUTF16$CodePointsSpliterator"), (0, .class_ 630), (0, u "java/lang/StringUTF16$CharsSpliterator")] 4

def k9m0 : Method := { name := "<init>", desc := "()V", sig := { parameters := [], returnType := none }, accessFlags := 0, code := none }
def k9c1 : Code := { maxStack := 1, maxLocals := 1, code := jdk_52_method_2_code, exceptionTable := #[], attributes := #[] }
def k9m1 : Method := { name := "newBytesFor", desc := "(I)[B", sig := { parameters := [.int], returnType := some (.array .byte) }, accessFlags := 9, code := some k9c1 }
def k9c2 : Code := { maxStack := 4, maxLocals := 1, code := jdk_52_method_3_code, exceptionTable := #[], attributes := #[] }
def k9m2 : Method := { name := "newBytesLength", desc := "(I)I", sig := { parameters := [.int], returnType := some .int }, accessFlags := 9, code := some k9c2 }
def k9c3 : Code := { maxStack := 4, maxLocals := 3, code := jdk_52_method_4_code, exceptionTable := #[], attributes := #[] }
def k9m3 : Method := { name := "putChar", desc := "([BII)V", sig := { parameters := [(.array .byte), .int, .int], returnType := none }, accessFlags := 8, code := some k9c3 }
def k9c4 : Code := { maxStack := 3, maxLocals := 2, code := jdk_52_method_5_code, exceptionTable := #[], attributes := #[] }
def k9m4 : Method := { name := "getChar", desc := "([BI)C", sig := { parameters := [(.array .byte), .int], returnType := some .char }, accessFlags := 8, code := some k9c4 }
def k9c5 : Code := { maxStack := 2, maxLocals := 1, code := jdk_52_method_6_code, exceptionTable := #[], attributes := #[] }
def k9m5 : Method := { name := "length", desc := "([B)I", sig := { parameters := [(.array .byte)], returnType := some .int }, accessFlags := 9, code := some k9c5 }
def k9c6 : Code := { maxStack := 4, maxLocals := 5, code := jdk_52_method_14_code, exceptionTable := #[], attributes := #[] }
def k9m6 : Method := { name := "toBytes", desc := "([CII)[B", sig := { parameters := [(.array .char), .int, .int], returnType := some (.array .byte) }, accessFlags := 9, code := some k9c6 }
def k9c7 : Code := { maxStack := 2, maxLocals := 2, code := jdk_52_method_15_code, exceptionTable := #[], attributes := #[] }
def k9m7 : Method := { name := "coderFromArrayLen", desc := "([BI)B", sig := { parameters := [(.array .byte), .int], returnType := some .byte }, accessFlags := 8, code := some k9c7 }
def k9c8 : Code := { maxStack := 5, maxLocals := 6, code := jdk_52_method_16_code, exceptionTable := #[], attributes := #[] }
def k9m8 : Method := { name := "compress", desc := "([CII)[B", sig := { parameters := [(.array .char), .int, .int], returnType := some (.array .byte) }, accessFlags := 9, code := some k9c8 }
def k9c9 : Code := { maxStack := 3, maxLocals := 7, code := jdk_52_method_21_code, exceptionTable := #[], attributes := #[] }
def k9m9 : Method := { name := "compress", desc := "([CI[BII)I", sig := { parameters := [(.array .char), .int, (.array .byte), .int, .int], returnType := some .int }, accessFlags := 9, code := some k9c9 }
def k9c10 : Code := { maxStack := 2, maxLocals := 2, code := jdk_52_method_83_code, exceptionTable := #[], attributes := #[] }
def k9m10 : Method := { name := "charAt", desc := "([BI)C", sig := { parameters := [(.array .byte), .int], returnType := some .char }, accessFlags := 9, code := some k9c10 }
def k9c11 : Code := { maxStack := 2, maxLocals := 2, code := jdk_52_method_91_code, exceptionTable := #[], attributes := #[] }
def k9m11 : Method := { name := "checkIndex", desc := "(I[B)V", sig := { parameters := [.int, (.array .byte)], returnType := none }, accessFlags := 9, code := some k9c11 }
/-- java/lang/StringUTF16 -/
def k9 : Class := { plain "java/lang/StringUTF16" (some 0) with
  accessFlags := 48
  interfaces := #[]
  cf := some (fileOf pool9 12 #[.nestMembers #[627, 629, 369]] #[{ accessFlags := 0, nameIndex := 9, descriptorIndex := 10, attributes := #[] }, { accessFlags := 9, nameIndex := 109, descriptorIndex := 110, attributes := #[] }, { accessFlags := 9, nameIndex := 15, descriptorIndex := 16, attributes := #[] }, { accessFlags := 8, nameIndex := 113, descriptorIndex := 114, attributes := #[] }, { accessFlags := 8, nameIndex := 73, descriptorIndex := 74, attributes := #[] }, { accessFlags := 9, nameIndex := 50, descriptorIndex := 51, attributes := #[] }, { accessFlags := 9, nameIndex := 121, descriptorIndex := 122, attributes := #[] }, { accessFlags := 8, nameIndex := 261, descriptorIndex := 262, attributes := #[] }, { accessFlags := 9, nameIndex := 117, descriptorIndex := 122, attributes := #[] }, { accessFlags := 9, nameIndex := 117, descriptorIndex := 118, attributes := #[] }, { accessFlags := 9, nameIndex := 392, descriptorIndex := 74, attributes := #[] }, { accessFlags := 9, nameIndex := 69, descriptorIndex := 70, attributes := #[] }] 48 6 #[] #[{ accessFlags := 26, nameIndex := 61, descriptorIndex := 62, attributes := #[] }, { accessFlags := 26, nameIndex := 65, descriptorIndex := 62, attributes := #[] }, { accessFlags := 24, nameIndex := 430, descriptorIndex := 62, attributes := #[] }, { accessFlags := 4120, nameIndex := 46, descriptorIndex := 47, attributes := #[] }])
  fields := #[{ name := "HI_BYTE_SHIFT", type := .int, accessFlags := 26, slot := 0, constantValue := 0 }, { name := "LO_BYTE_SHIFT", type := .int, accessFlags := 26, slot := 1, constantValue := 0 }, { name := "MAX_LENGTH", type := .int, accessFlags := 24, slot := 2, constantValue := 0 }, { name := "$assertionsDisabled", type := .boolean, accessFlags := 4120, slot := 3, constantValue := 0 }]
  methods := #[k9m0, k9m1, k9m2, k9m3, k9m4, k9m5, k9m6, k9m7, k9m8, k9m9, k9m10, k9m11]
  instanceTypes := #[]
  staticTypes := #[.int, .int, .int, .boolean]
  resolved := Array.replicate 635 none
  statics := some 1 }

def pool10 : Array CpInfo := pool [(2, .class_ 4), (1, u "java/lang/Object"), (0, u "<init>"), (0, u "()V"), (17, .class_ 26), (1, u "jdk/internal/util/Preconditions"), (6, u "checkIndex"), (21, .class_ 56), (0, u "jdk/internal/util/Preconditions$4"), (57, .class_ 115), (0, u "jdk/internal/util/Preconditions$1"), (7, u "SIOOBE_FORMATTER"), (0, u "Ljava/util/function/BiFunction;"), (0, .class_ 126), (0, u "jdk/internal/util/Preconditions$2"), (3, u "AIOOBE_FORMATTER"), (0, .class_ 132), (0, u "jdk/internal/util/Preconditions$3"), (3, u "IOOBE_FORMATTER"), (41, u "(IILjava/util/function/BiFunction;)I")] 15

def k10m0 : Method := { name := "<init>", desc := "()V", sig := { parameters := [], returnType := none }, accessFlags := 1, code := none }
def k10c1 : Code := { maxStack := 3, maxLocals := 3, code := jdk_41_method_11_code, exceptionTable := #[], attributes := #[] }
def k10m1 : Method := { name := "checkIndex", desc := "(IILjava/util/function/BiFunction;)I", sig := { parameters := [.int, .int, (.object "java/util/function/BiFunction")], returnType := some .int }, accessFlags := 9, code := some k10c1 }
/-- jdk/internal/util/Preconditions -/
def k10 : Class := { plain "jdk/internal/util/Preconditions" (some 0) with
  accessFlags := 33
  interfaces := #[]
  cf := some (fileOf pool10 24 #[.nestMembers #[55, 131, 125, 114]] #[{ accessFlags := 1, nameIndex := 5, descriptorIndex := 6, attributes := #[] }, { accessFlags := 9, nameIndex := 33, descriptorIndex := 178, attributes := #[] }] 33 2 #[] #[{ accessFlags := 25, nameIndex := 123, descriptorIndex := 124, attributes := #[] }, { accessFlags := 25, nameIndex := 130, descriptorIndex := 124, attributes := #[] }, { accessFlags := 25, nameIndex := 136, descriptorIndex := 124, attributes := #[] }])
  fields := #[{ name := "SIOOBE_FORMATTER", type := (.object "java/util/function/BiFunction"), accessFlags := 25, slot := 0, constantValue := 0 }, { name := "AIOOBE_FORMATTER", type := (.object "java/util/function/BiFunction"), accessFlags := 25, slot := 1, constantValue := 0 }, { name := "IOOBE_FORMATTER", type := (.object "java/util/function/BiFunction"), accessFlags := 25, slot := 2, constantValue := 0 }]
  methods := #[k10m0, k10m1]
  instanceTypes := #[]
  staticTypes := #[(.object "java/util/function/BiFunction"), (.object "java/util/function/BiFunction"), (.object "java/util/function/BiFunction")]
  resolved := Array.replicate 194 none
  statics := some 2 }

def pool11 : Array CpInfo := pool [(1, .class_ 2), (0, u "java/lang/String"), (1, .class_ 6), (1, u "java/lang/Object"), (0, u "<init>"), (0, u "()V"), (0, .methodref 1 10), (0, .nameAndType 11 12), (0, u "checkIndex"), (0, u "(II)V"), (1, .class_ 16), (1, u "java/lang/StringLatin1"), (36, u "([BI)C"), (67, u "$assertionsDisabled"), (0, u "Z"), (98, .class_ 223), (1, u "java/lang/StringLatin1$LinesSpliterator"), (28, u "charAt"), (137, .class_ 391), (0, u "java/lang/StringLatin1$CharsSpliterator")] 3

def k11m0 : Method := { name := "<init>", desc := "()V", sig := { parameters := [], returnType := none }, accessFlags := 0, code := none }
def k11c1 : Code := { maxStack := 2, maxLocals := 2, code := jdk_43_method_2_code, exceptionTable := #[], attributes := #[] }
def k11m1 : Method := { name := "charAt", desc := "([BI)C", sig := { parameters := [(.array .byte), .int], returnType := some .char }, accessFlags := 9, code := some k11c1 }
/-- java/lang/StringLatin1 -/
def k11 : Class := { plain "java/lang/StringLatin1" (some 0) with
  accessFlags := 48
  interfaces := #[]
  cf := some (fileOf pool11 14 #[.nestMembers #[390, 221]] #[{ accessFlags := 0, nameIndex := 7, descriptorIndex := 8, attributes := #[] }, { accessFlags := 9, nameIndex := 252, descriptorIndex := 53, attributes := #[] }] 48 4 #[] #[{ accessFlags := 4120, nameIndex := 121, descriptorIndex := 122, attributes := #[] }])
  fields := #[{ name := "$assertionsDisabled", type := .boolean, accessFlags := 4120, slot := 0, constantValue := 0 }]
  methods := #[k11m0, k11m1]
  instanceTypes := #[]
  staticTypes := #[.boolean]
  resolved := Array.replicate 395 none
  statics := none }

def pool12 : Array CpInfo := pool [(9, u "<init>"), (6, .class_ 18), (1, u "java/lang/Object"), (0, u "()V"), (1, .class_ 23), (1, u "jdk/internal/util/ArraysSupport"), (0, u "LOG2_ARRAY_LONG_INDEX_SCALE"), (0, u "I"), (2, u "U"), (0, u "Ljdk/internal/misc/Unsafe;"), (8, u "BIG_ENDIAN"), (0, u "Z"), (8, u "LOG2_BYTE_BIT_SIZE"), (4, u "LOG2_ARRAY_INT_INDEX_SCALE"), (54, u "JLA"), (0, u "Ljdk/internal/access/JavaLangAccess;"), (11, u "LOG2_ARRAY_BOOLEAN_INDEX_SCALE"), (9, u "LOG2_ARRAY_BYTE_INDEX_SCALE"), (5, u "LOG2_ARRAY_CHAR_INDEX_SCALE"), (5, u "LOG2_ARRAY_SHORT_INDEX_SCALE"), (18, u "LOG2_ARRAY_FLOAT_INDEX_SCALE"), (24, u "LOG2_ARRAY_DOUBLE_INDEX_SCALE"), (89, u "T_BOOLEAN"), (2, u "T_CHAR"), (1, u "T_FLOAT"), (1, u "T_DOUBLE"), (1, u "T_BYTE"), (1, u "T_SHORT"), (1, u "T_INT"), (1, u "T_LONG"), (1, u "SOFT_MAX_ARRAY_LENGTH")] 83

def k12m0 : Method := { name := "<init>", desc := "()V", sig := { parameters := [], returnType := none }, accessFlags := 2, code := none }
/-- jdk/internal/util/ArraysSupport -/
def k12 : Class := { plain "jdk/internal/util/ArraysSupport" (some 0) with
  accessFlags := 33
  interfaces := #[]
  cf := some (fileOf pool12 21 #[] #[{ accessFlags := 2, nameIndex := 9, descriptorIndex := 19, attributes := #[] }] 33 16 #[] #[{ accessFlags := 24, nameIndex := 28, descriptorIndex := 29, attributes := #[] }, { accessFlags := 26, nameIndex := 38, descriptorIndex := 39, attributes := #[] }, { accessFlags := 25, nameIndex := 121, descriptorIndex := 25, attributes := #[] }, { accessFlags := 25, nameIndex := 131, descriptorIndex := 25, attributes := #[] }, { accessFlags := 25, nameIndex := 137, descriptorIndex := 25, attributes := #[] }, { accessFlags := 25, nameIndex := 143, descriptorIndex := 25, attributes := #[] }, { accessFlags := 25, nameIndex := 53, descriptorIndex := 25, attributes := #[] }, { accessFlags := 25, nameIndex := 24, descriptorIndex := 25, attributes := #[] }, { accessFlags := 25, nameIndex := 162, descriptorIndex := 25, attributes := #[] }, { accessFlags := 25, nameIndex := 187, descriptorIndex := 25, attributes := #[] }, { accessFlags := 26, nameIndex := 48, descriptorIndex := 25, attributes := #[] }, { accessFlags := 25, nameIndex := 277, descriptorIndex := 25, attributes := #[] }, { accessFlags := 25, nameIndex := 280, descriptorIndex := 25, attributes := #[] }, { accessFlags := 25, nameIndex := 282, descriptorIndex := 25, attributes := #[] }, { accessFlags := 25, nameIndex := 284, descriptorIndex := 25, attributes := #[] }, { accessFlags := 25, nameIndex := 286, descriptorIndex := 25, attributes := #[] }, { accessFlags := 25, nameIndex := 288, descriptorIndex := 25, attributes := #[] }, { accessFlags := 25, nameIndex := 290, descriptorIndex := 25, attributes := #[] }, { accessFlags := 25, nameIndex := 292, descriptorIndex := 25, attributes := #[] }, { accessFlags := 26, nameIndex := 108, descriptorIndex := 109, attributes := #[] }, { accessFlags := 25, nameIndex := 294, descriptorIndex := 25, attributes := #[] }])
  fields := #[{ name := "U", type := (.object "jdk/internal/misc/Unsafe"), accessFlags := 24, slot := 0, constantValue := 0 }, { name := "BIG_ENDIAN", type := .boolean, accessFlags := 26, slot := 1, constantValue := 0 }, { name := "LOG2_ARRAY_BOOLEAN_INDEX_SCALE", type := .int, accessFlags := 25, slot := 2, constantValue := 0 }, { name := "LOG2_ARRAY_BYTE_INDEX_SCALE", type := .int, accessFlags := 25, slot := 3, constantValue := 0 }, { name := "LOG2_ARRAY_CHAR_INDEX_SCALE", type := .int, accessFlags := 25, slot := 4, constantValue := 0 }, { name := "LOG2_ARRAY_SHORT_INDEX_SCALE", type := .int, accessFlags := 25, slot := 5, constantValue := 0 }, { name := "LOG2_ARRAY_INT_INDEX_SCALE", type := .int, accessFlags := 25, slot := 6, constantValue := 0 }, { name := "LOG2_ARRAY_LONG_INDEX_SCALE", type := .int, accessFlags := 25, slot := 7, constantValue := 0 }, { name := "LOG2_ARRAY_FLOAT_INDEX_SCALE", type := .int, accessFlags := 25, slot := 8, constantValue := 0 }, { name := "LOG2_ARRAY_DOUBLE_INDEX_SCALE", type := .int, accessFlags := 25, slot := 9, constantValue := 0 }, { name := "LOG2_BYTE_BIT_SIZE", type := .int, accessFlags := 26, slot := 10, constantValue := 0 }, { name := "T_BOOLEAN", type := .int, accessFlags := 25, slot := 11, constantValue := 0 }, { name := "T_CHAR", type := .int, accessFlags := 25, slot := 12, constantValue := 0 }, { name := "T_FLOAT", type := .int, accessFlags := 25, slot := 13, constantValue := 0 }, { name := "T_DOUBLE", type := .int, accessFlags := 25, slot := 14, constantValue := 0 }, { name := "T_BYTE", type := .int, accessFlags := 25, slot := 15, constantValue := 0 }, { name := "T_SHORT", type := .int, accessFlags := 25, slot := 16, constantValue := 0 }, { name := "T_INT", type := .int, accessFlags := 25, slot := 17, constantValue := 0 }, { name := "T_LONG", type := .int, accessFlags := 25, slot := 18, constantValue := 0 }, { name := "JLA", type := (.object "jdk/internal/access/JavaLangAccess"), accessFlags := 26, slot := 19, constantValue := 0 }, { name := "SOFT_MAX_ARRAY_LENGTH", type := .int, accessFlags := 25, slot := 20, constantValue := 0 }]
  methods := #[k12m0]
  instanceTypes := #[]
  staticTypes := #[(.object "jdk/internal/misc/Unsafe"), .boolean, .int, .int, .int, .int, .int, .int, .int, .int, .int, .int, .int, .int, .int, .int, .int, .int, .int, (.object "jdk/internal/access/JavaLangAccess"), .int]
  resolved := Array.replicate 378 none
  statics := none }

def pool13 : Array CpInfo := pool [(1, u "java/lang/Cloneable"), (0, .class_ 1), (0, u "java/lang/Object"), (0, .class_ 3)] 3

/-- java/lang/Cloneable -/
def k13 : Class := { plain "java/lang/Cloneable" (some 0) with
  accessFlags := 1537
  interfaces := #[]
  cf := some (fileOf pool13 2 #[] #[] 1537 4 #[] #[])
  fields := #[]
  methods := #[]
  instanceTypes := #[]
  staticTypes := #[]
  resolved := Array.replicate 8 none
  statics := none }

/-- the primitive byte -/
def k14 : Class := { plain "byte" none with kind := .primitive 'B', accessFlags := 0x411 }
/-- [B -/
def k15 : Class := { plain "[B" (some 0) with kind := .array 14 .byte, interfaces := #[13, 2], accessFlags := 1041 }

/-- the primitive char -/
def k16 : Class := { plain "char" none with kind := .primitive 'C', accessFlags := 0x411 }
/-- [C -/
def k17 : Class := { plain "[C" (some 0) with kind := .array 16 .char, interfaces := #[13, 2], accessFlags := 1041 }

/-- the primitive int -/
def k18 : Class := { plain "int" none with kind := .primitive 'I', accessFlags := 0x411 }
/-- [I -/
def k19 : Class := { plain "[I" (some 0) with kind := .array 18 .int, interfaces := #[13, 2], accessFlags := 1041 }

def heap : Heap := #[{ cls := 7, slots := #[.long 0, .int 1, .null, .int 0, .null, .int 0, .int 0], vm := .statics 7 },
  { cls := 9, slots := #[.int 0, .int 8, .int 0, .int 1], vm := .statics 9 },
  { cls := 10, slots := #[.null, .null, .null], vm := .statics 10 }]
def classes : Array Class := #[k0, k1, k2, k3, k4, k5, k6, k7, k8, k9, k10, k11, k12, k13, k14, k15, k16, k17, k18, k19]
def interned : List (Array UInt16 × Addr) := []
def slotsUsed : Nat := 14
def theMethod : MethodId := ⟨1, 1⟩
def args0 : Array Value := #[.int 5, .int 5, .int 5, .int 5, .int 5]
def aboutOver (below : List Frame) : State where
  vm := { classes := classes, interned := interned.toArray }
  heap := heap
  slotsUsed := slotsUsed
  threads := #[{ frames := .invoking theMethod args0 :: below }]
def below0 : List Frame := [.native { method := ⟨0, 0⟩, args := #[] }]
def about1 : State := aboutOver below0
def p0 : Program := .bare "" "" ""
def e0 : Env := launch0.env 0 0 0
theorem w_frames : about1.frames = Frame.invoking theMethod args0 :: below0 := rfl
set_option maxRecDepth 65536 in
theorem w_args : argsFit about1.vm theMethod args0 = true := by decide +kernel
set_option maxRecDepth 65536 in
theorem w_heap : heapFits about1 = true := by decide +kernel
set_option maxRecDepth 65536 in
theorem w_runnable : about1.curStatus? = some .runnable := by decide +kernel
set_option maxRecDepth 65536 in
theorem w_alone : about1.alone = true := by decide +kernel
set_option maxRecDepth 65536 in
theorem w_named : about1.methodNamed? x = some theMethod := by decide +kernel
set_option maxRecDepth 65536 in
theorem w_hears : about1.hears theMethod below0 = true := by decide +kernel
set_option maxRecDepth 65536 in
theorem w_ripe : about1.ripe theMethod args0 below0 = true := by decide +kernel
theorem w_running : about1.status = .running := rfl
set_option maxRecDepth 65536 in
theorem w_room : about1.hasRoom e0.platform room_1 = true :=
  launch0.hasRoom_least _ room_1 (by decide +kernel) (by decide +kernel) (by decide +kernel) (by decide +kernel) (by decide +kernel) (by decide +kernel)
theorem allAtoms_all (ts : List Jvm.Cond) (a : Array Jvm.Value) (st : Jvm.State) : (allAtoms ts).before a st = ts.all (fun c => c.before a st) := by
  induction ts with
  | nil => rfl
  | cons c t ih =>
    show (Jvm.Cond.and c (allAtoms t)).before a st = _
    rw [Jvm.Cond.before_and, ih, List.all_cons]
def words1 : List Jvm.Cond := Jvm.Cond.code x code maxLocals ret :: tables_1
/-- a 'code' word, met by the world's own term for the bytes: nothing is compared byte by byte -/
theorem code_word {y : MethodName} {bytes : ByteArray} {mx : Nat} {rt : Option FieldType} {a : Array Value} {s : State} {m : MethodId} {meth : Method} {c : Code} (h1 : s.methodNamed? y = some m) (h2 : s.vm.method? m = some meth) (h3 : meth.code = some c) (h4 : c.code = bytes)
    (h5 : (c.maxLocals == mx && c.exceptionTable.isEmpty && decide (c.maxStack ≤ mostOperands) && decide (meth.sig.returnType = rt) && !meth.locks && decide (parseMethodDescriptor y.desc = some meth.sig)) = true) : (Jvm.Cond.code y bytes mx rt).before a s = true := by
  simp only [Bool.and_eq_true, beq_iff_eq, Bool.not_eq_true', decide_eq_true_eq] at h5
  obtain ⟨⟨⟨⟨⟨g1, g2⟩, g3⟩, g4⟩, g5⟩, g6⟩ := h5
  simp [Cond.before, Cond.holds, Cond.value, h1, h2, h3, h4, g1, g2, g3, g4, g5, g6]
def isCode : Jvm.Cond → Bool
  | .code _ _ _ _ => true
  | _ => false
theorem all_split {L : List Jvm.Cond} {P : Jvm.Cond → Bool} (h1 : L.all (fun c => isCode c || P c) = true) (h2 : ∀ c ∈ L.filter isCode, P c = true) : L.all P = true := by
  refine List.all_eq_true.mpr fun c hc => ?_
  have h := List.all_eq_true.mp h1 c hc
  rcases Bool.eq_false_or_eq_true (isCode c) with hi | hi
  · exact h2 c (List.mem_filter.mpr ⟨hc, hi⟩)
  · simpa [hi] using h
set_option maxRecDepth 65536 in
theorem w_c0 : (Jvm.Cond.code x code maxLocals ret).before args0 about1 = true := code_word (m := ⟨1, 1⟩) (meth := k1m1) (c := k1c1) (by decide +kernel) rfl rfl rfl (by decide +kernel)
set_option maxRecDepth 65536 in
theorem w_c1 : (Jvm.Cond.code ({ cls := "com/example/runnymede/runnymede/AsciiEqualsIgnoreCasePinLaw", name := "draw", desc := "(III)C" } : Jvm.MethodName) method_3_code (3 : Nat) (Option.some Jvm.ClassFile.FieldType.char)).before args0 about1 = true := code_word (m := ⟨1, 2⟩) (meth := k1m2) (c := k1c2) (by decide +kernel) rfl rfl rfl (by decide +kernel)
set_option maxRecDepth 65536 in
theorem w_c2 : (Jvm.Cond.code ({ cls := "com/example/runnymede/runnymede/AsciiEqualsIgnoreCasePinLaw", name := "derive", desc := "(CIII)C" } : Jvm.MethodName) method_4_code (5 : Nat) (Option.some Jvm.ClassFile.FieldType.char)).before args0 about1 = true := code_word (m := ⟨1, 3⟩) (meth := k1m3) (c := k1c3) (by decide +kernel) rfl rfl rfl (by decide +kernel)
set_option maxRecDepth 65536 in
theorem w_c3 : (Jvm.Cond.code ({ cls := "com/example/runnymede/runnymede/AsciiEqualsIgnoreCasePinLaw", name := "make", desc := "([CI)Ljava/lang/String;" } : Jvm.MethodName) method_5_code (2 : Nat) (Option.some (Jvm.ClassFile.FieldType.object "java/lang/String"))).before args0 about1 = true := code_word (m := ⟨1, 4⟩) (meth := k1m4) (c := k1c4) (by decide +kernel) rfl rfl rfl (by decide +kernel)
set_option maxRecDepth 65536 in
theorem w_c4 : (Jvm.Cond.code ({ cls := "java/lang/String", name := "<init>", desc := "([C)V" } : Jvm.MethodName) jdk_42_method_3_code (2 : Nat) (Option.none : Option Jvm.ClassFile.FieldType)).before args0 about1 = true := code_word (m := ⟨7, 1⟩) (meth := k7m1) (c := k7c1) (by decide +kernel) rfl rfl rfl (by decide +kernel)
set_option maxRecDepth 65536 in
theorem w_c5 : (Jvm.Cond.code ({ cls := "java/lang/String", name := "<init>", desc := "([CIILjava/lang/Void;)V" } : Jvm.MethodName) jdk_42_method_149_code (6 : Nat) (Option.none : Option Jvm.ClassFile.FieldType)).before args0 about1 = true := code_word (m := ⟨7, 4⟩) (meth := k7m4) (c := k7c4) (by decide +kernel) rfl rfl rfl (by decide +kernel)
set_option maxRecDepth 65536 in
theorem w_c6 : (Jvm.Cond.code ({ cls := "java/lang/Object", name := "<init>", desc := "()V" } : Jvm.MethodName) object_method_1_code (1 : Nat) (Option.none : Option Jvm.ClassFile.FieldType)).before args0 about1 = true := code_word (m := ⟨0, 0⟩) (meth := k0m0) (c := k0c0) (by decide +kernel) rfl rfl rfl (by decide +kernel)
set_option maxRecDepth 65536 in
theorem w_c7 : (Jvm.Cond.code ({ cls := "com/example/runnymede/runnymede/Ascii", name := "equalsIgnoreCase", desc := "(Ljava/lang/String;Ljava/lang/String;)Z" } : Jvm.MethodName) prog_12_method_2_code (4 : Nat) (Option.some Jvm.ClassFile.FieldType.boolean)).before args0 about1 = true := code_word (m := ⟨8, 1⟩) (meth := k8m1) (c := k8c1) (by decide +kernel) rfl rfl rfl (by decide +kernel)
set_option maxRecDepth 65536 in
theorem w_c8 : (Jvm.Cond.code ({ cls := "java/lang/StringUTF16", name := "compress", desc := "([CII)[B" } : Jvm.MethodName) jdk_52_method_16_code (6 : Nat) (Option.some (Jvm.ClassFile.FieldType.array Jvm.ClassFile.FieldType.byte))).before args0 about1 = true := code_word (m := ⟨9, 8⟩) (meth := k9m8) (c := k9c8) (by decide +kernel) rfl rfl rfl (by decide +kernel)
set_option maxRecDepth 65536 in
theorem w_c9 : (Jvm.Cond.code ({ cls := "java/lang/StringUTF16", name := "compress", desc := "([CI[BII)I" } : Jvm.MethodName) jdk_52_method_21_code (7 : Nat) (Option.some Jvm.ClassFile.FieldType.int)).before args0 about1 = true := code_word (m := ⟨9, 9⟩) (meth := k9m9) (c := k9c9) (by decide +kernel) rfl rfl rfl (by decide +kernel)
set_option maxRecDepth 65536 in
theorem w_c10 : (Jvm.Cond.code ({ cls := "java/lang/StringUTF16", name := "coderFromArrayLen", desc := "([BI)B" } : Jvm.MethodName) jdk_52_method_15_code (2 : Nat) (Option.some Jvm.ClassFile.FieldType.byte)).before args0 about1 = true := code_word (m := ⟨9, 7⟩) (meth := k9m7) (c := k9c7) (by decide +kernel) rfl rfl rfl (by decide +kernel)
set_option maxRecDepth 65536 in
theorem w_c11 : (Jvm.Cond.code ({ cls := "java/lang/StringUTF16", name := "toBytes", desc := "([CII)[B" } : Jvm.MethodName) jdk_52_method_14_code (5 : Nat) (Option.some (Jvm.ClassFile.FieldType.array Jvm.ClassFile.FieldType.byte))).before args0 about1 = true := code_word (m := ⟨9, 6⟩) (meth := k9m6) (c := k9c6) (by decide +kernel) rfl rfl rfl (by decide +kernel)
set_option maxRecDepth 65536 in
theorem w_c12 : (Jvm.Cond.code ({ cls := "java/lang/StringUTF16", name := "newBytesFor", desc := "(I)[B" } : Jvm.MethodName) jdk_52_method_2_code (1 : Nat) (Option.some (Jvm.ClassFile.FieldType.array Jvm.ClassFile.FieldType.byte))).before args0 about1 = true := code_word (m := ⟨9, 1⟩) (meth := k9m1) (c := k9c1) (by decide +kernel) rfl rfl rfl (by decide +kernel)
set_option maxRecDepth 65536 in
theorem w_c13 : (Jvm.Cond.code ({ cls := "java/lang/StringUTF16", name := "newBytesLength", desc := "(I)I" } : Jvm.MethodName) jdk_52_method_3_code (1 : Nat) (Option.some Jvm.ClassFile.FieldType.int)).before args0 about1 = true := code_word (m := ⟨9, 2⟩) (meth := k9m2) (c := k9c2) (by decide +kernel) rfl rfl rfl (by decide +kernel)
set_option maxRecDepth 65536 in
theorem w_c14 : (Jvm.Cond.code ({ cls := "java/lang/StringUTF16", name := "putChar", desc := "([BII)V" } : Jvm.MethodName) jdk_52_method_4_code (3 : Nat) (Option.none : Option Jvm.ClassFile.FieldType)).before args0 about1 = true := code_word (m := ⟨9, 3⟩) (meth := k9m3) (c := k9c3) (by decide +kernel) rfl rfl rfl (by decide +kernel)
set_option maxRecDepth 65536 in
theorem w_c15 : (Jvm.Cond.code ({ cls := "java/lang/StringUTF16", name := "getChar", desc := "([BI)C" } : Jvm.MethodName) jdk_52_method_5_code (2 : Nat) (Option.some Jvm.ClassFile.FieldType.char)).before args0 about1 = true := code_word (m := ⟨9, 4⟩) (meth := k9m4) (c := k9c4) (by decide +kernel) rfl rfl rfl (by decide +kernel)
set_option maxRecDepth 65536 in
theorem w_c16 : (Jvm.Cond.code ({ cls := "java/lang/String", name := "length", desc := "()I" } : Jvm.MethodName) jdk_42_method_54_code (1 : Nat) (Option.some Jvm.ClassFile.FieldType.int)).before args0 about1 = true := code_word (m := ⟨7, 2⟩) (meth := k7m2) (c := k7c2) (by decide +kernel) rfl rfl rfl (by decide +kernel)
set_option maxRecDepth 65536 in
theorem w_c17 : (Jvm.Cond.code ({ cls := "java/lang/String", name := "coder", desc := "()B" } : Jvm.MethodName) jdk_42_method_152_code (1 : Nat) (Option.some Jvm.ClassFile.FieldType.byte)).before args0 about1 = true := code_word (m := ⟨7, 5⟩) (meth := k7m5) (c := k7c5) (by decide +kernel) rfl rfl rfl (by decide +kernel)
set_option maxRecDepth 65536 in
theorem w_c18 : (Jvm.Cond.code ({ cls := "java/lang/String", name := "charAt", desc := "(I)C" } : Jvm.MethodName) jdk_42_method_56_code (2 : Nat) (Option.some Jvm.ClassFile.FieldType.char)).before args0 about1 = true := code_word (m := ⟨7, 3⟩) (meth := k7m3) (c := k7c3) (by decide +kernel) rfl rfl rfl (by decide +kernel)
set_option maxRecDepth 65536 in
theorem w_c19 : (Jvm.Cond.code ({ cls := "java/lang/String", name := "isLatin1", desc := "()Z" } : Jvm.MethodName) jdk_42_method_154_code (1 : Nat) (Option.some Jvm.ClassFile.FieldType.boolean)).before args0 about1 = true := code_word (m := ⟨7, 6⟩) (meth := k7m6) (c := k7c6) (by decide +kernel) rfl rfl rfl (by decide +kernel)
set_option maxRecDepth 65536 in
theorem w_c20 : (Jvm.Cond.code ({ cls := "java/lang/StringUTF16", name := "charAt", desc := "([BI)C" } : Jvm.MethodName) jdk_52_method_83_code (2 : Nat) (Option.some Jvm.ClassFile.FieldType.char)).before args0 about1 = true := code_word (m := ⟨9, 10⟩) (meth := k9m10) (c := k9c10) (by decide +kernel) rfl rfl rfl (by decide +kernel)
set_option maxRecDepth 65536 in
theorem w_c21 : (Jvm.Cond.code ({ cls := "java/lang/StringUTF16", name := "checkIndex", desc := "(I[B)V" } : Jvm.MethodName) jdk_52_method_91_code (2 : Nat) (Option.none : Option Jvm.ClassFile.FieldType)).before args0 about1 = true := code_word (m := ⟨9, 11⟩) (meth := k9m11) (c := k9c11) (by decide +kernel) rfl rfl rfl (by decide +kernel)
set_option maxRecDepth 65536 in
theorem w_c22 : (Jvm.Cond.code ({ cls := "java/lang/StringUTF16", name := "length", desc := "([B)I" } : Jvm.MethodName) jdk_52_method_6_code (1 : Nat) (Option.some Jvm.ClassFile.FieldType.int)).before args0 about1 = true := code_word (m := ⟨9, 5⟩) (meth := k9m5) (c := k9c5) (by decide +kernel) rfl rfl rfl (by decide +kernel)
set_option maxRecDepth 65536 in
theorem w_c23 : (Jvm.Cond.code ({ cls := "java/lang/String", name := "checkIndex", desc := "(II)V" } : Jvm.MethodName) jdk_42_method_155_code (2 : Nat) (Option.none : Option Jvm.ClassFile.FieldType)).before args0 about1 = true := code_word (m := ⟨7, 7⟩) (meth := k7m7) (c := k7c7) (by decide +kernel) rfl rfl rfl (by decide +kernel)
set_option maxRecDepth 65536 in
theorem w_c24 : (Jvm.Cond.code ({ cls := "jdk/internal/util/Preconditions", name := "checkIndex", desc := "(IILjava/util/function/BiFunction;)I" } : Jvm.MethodName) jdk_41_method_11_code (3 : Nat) (Option.some Jvm.ClassFile.FieldType.int)).before args0 about1 = true := code_word (m := ⟨10, 1⟩) (meth := k10m1) (c := k10c1) (by decide +kernel) rfl rfl rfl (by decide +kernel)
set_option maxRecDepth 65536 in
theorem w_c25 : (Jvm.Cond.code ({ cls := "com/example/runnymede/runnymede/Ascii", name := "lowerCase", desc := "(C)C" } : Jvm.MethodName) prog_12_method_5_code (1 : Nat) (Option.some Jvm.ClassFile.FieldType.char)).before args0 about1 = true := code_word (m := ⟨8, 2⟩) (meth := k8m2) (c := k8c2) (by decide +kernel) rfl rfl rfl (by decide +kernel)
set_option maxRecDepth 65536 in
theorem w_c26 : (Jvm.Cond.code ({ cls := "com/example/runnymede/runnymede/AsciiEqualsIgnoreCasePinLaw", name := "same", desc := "(CC)Z" } : Jvm.MethodName) method_6_code (3 : Nat) (Option.some Jvm.ClassFile.FieldType.boolean)).before args0 about1 = true := code_word (m := ⟨1, 5⟩) (meth := k1m5) (c := k1c5) (by decide +kernel) rfl rfl rfl (by decide +kernel)
set_option maxRecDepth 65536 in
theorem w_c27 : (Jvm.Cond.code ({ cls := "java/lang/StringLatin1", name := "charAt", desc := "([BI)C" } : Jvm.MethodName) jdk_43_method_2_code (2 : Nat) (Option.some Jvm.ClassFile.FieldType.char)).before args0 about1 = true := code_word (m := ⟨11, 1⟩) (meth := k11m1) (c := k11c1) (by decide +kernel) rfl rfl rfl (by decide +kernel)
def codes1 : List Jvm.Cond := [Jvm.Cond.code x code maxLocals ret, Jvm.Cond.code ({ cls := "com/example/runnymede/runnymede/AsciiEqualsIgnoreCasePinLaw", name := "draw", desc := "(III)C" } : Jvm.MethodName) method_3_code (3 : Nat) (Option.some Jvm.ClassFile.FieldType.char), Jvm.Cond.code ({ cls := "com/example/runnymede/runnymede/AsciiEqualsIgnoreCasePinLaw", name := "derive", desc := "(CIII)C" } : Jvm.MethodName) method_4_code (5 : Nat) (Option.some Jvm.ClassFile.FieldType.char), Jvm.Cond.code ({ cls := "com/example/runnymede/runnymede/AsciiEqualsIgnoreCasePinLaw", name := "make", desc := "([CI)Ljava/lang/String;" } : Jvm.MethodName) method_5_code (2 : Nat) (Option.some (Jvm.ClassFile.FieldType.object "java/lang/String")), Jvm.Cond.code ({ cls := "java/lang/String", name := "<init>", desc := "([C)V" } : Jvm.MethodName) jdk_42_method_3_code (2 : Nat) (Option.none : Option Jvm.ClassFile.FieldType), Jvm.Cond.code ({ cls := "java/lang/String", name := "<init>", desc := "([CIILjava/lang/Void;)V" } : Jvm.MethodName) jdk_42_method_149_code (6 : Nat) (Option.none : Option Jvm.ClassFile.FieldType), Jvm.Cond.code ({ cls := "java/lang/Object", name := "<init>", desc := "()V" } : Jvm.MethodName) object_method_1_code (1 : Nat) (Option.none : Option Jvm.ClassFile.FieldType), Jvm.Cond.code ({ cls := "com/example/runnymede/runnymede/Ascii", name := "equalsIgnoreCase", desc := "(Ljava/lang/String;Ljava/lang/String;)Z" } : Jvm.MethodName) prog_12_method_2_code (4 : Nat) (Option.some Jvm.ClassFile.FieldType.boolean), Jvm.Cond.code ({ cls := "java/lang/StringUTF16", name := "compress", desc := "([CII)[B" } : Jvm.MethodName) jdk_52_method_16_code (6 : Nat) (Option.some (Jvm.ClassFile.FieldType.array Jvm.ClassFile.FieldType.byte)), Jvm.Cond.code ({ cls := "java/lang/StringUTF16", name := "compress", desc := "([CI[BII)I" } : Jvm.MethodName) jdk_52_method_21_code (7 : Nat) (Option.some Jvm.ClassFile.FieldType.int), Jvm.Cond.code ({ cls := "java/lang/StringUTF16", name := "coderFromArrayLen", desc := "([BI)B" } : Jvm.MethodName) jdk_52_method_15_code (2 : Nat) (Option.some Jvm.ClassFile.FieldType.byte), Jvm.Cond.code ({ cls := "java/lang/StringUTF16", name := "toBytes", desc := "([CII)[B" } : Jvm.MethodName) jdk_52_method_14_code (5 : Nat) (Option.some (Jvm.ClassFile.FieldType.array Jvm.ClassFile.FieldType.byte)), Jvm.Cond.code ({ cls := "java/lang/StringUTF16", name := "newBytesFor", desc := "(I)[B" } : Jvm.MethodName) jdk_52_method_2_code (1 : Nat) (Option.some (Jvm.ClassFile.FieldType.array Jvm.ClassFile.FieldType.byte)), Jvm.Cond.code ({ cls := "java/lang/StringUTF16", name := "newBytesLength", desc := "(I)I" } : Jvm.MethodName) jdk_52_method_3_code (1 : Nat) (Option.some Jvm.ClassFile.FieldType.int), Jvm.Cond.code ({ cls := "java/lang/StringUTF16", name := "putChar", desc := "([BII)V" } : Jvm.MethodName) jdk_52_method_4_code (3 : Nat) (Option.none : Option Jvm.ClassFile.FieldType), Jvm.Cond.code ({ cls := "java/lang/StringUTF16", name := "getChar", desc := "([BI)C" } : Jvm.MethodName) jdk_52_method_5_code (2 : Nat) (Option.some Jvm.ClassFile.FieldType.char), Jvm.Cond.code ({ cls := "java/lang/String", name := "length", desc := "()I" } : Jvm.MethodName) jdk_42_method_54_code (1 : Nat) (Option.some Jvm.ClassFile.FieldType.int), Jvm.Cond.code ({ cls := "java/lang/String", name := "coder", desc := "()B" } : Jvm.MethodName) jdk_42_method_152_code (1 : Nat) (Option.some Jvm.ClassFile.FieldType.byte), Jvm.Cond.code ({ cls := "java/lang/String", name := "charAt", desc := "(I)C" } : Jvm.MethodName) jdk_42_method_56_code (2 : Nat) (Option.some Jvm.ClassFile.FieldType.char), Jvm.Cond.code ({ cls := "java/lang/String", name := "isLatin1", desc := "()Z" } : Jvm.MethodName) jdk_42_method_154_code (1 : Nat) (Option.some Jvm.ClassFile.FieldType.boolean), Jvm.Cond.code ({ cls := "java/lang/StringUTF16", name := "charAt", desc := "([BI)C" } : Jvm.MethodName) jdk_52_method_83_code (2 : Nat) (Option.some Jvm.ClassFile.FieldType.char), Jvm.Cond.code ({ cls := "java/lang/StringUTF16", name := "checkIndex", desc := "(I[B)V" } : Jvm.MethodName) jdk_52_method_91_code (2 : Nat) (Option.none : Option Jvm.ClassFile.FieldType), Jvm.Cond.code ({ cls := "java/lang/StringUTF16", name := "length", desc := "([B)I" } : Jvm.MethodName) jdk_52_method_6_code (1 : Nat) (Option.some Jvm.ClassFile.FieldType.int), Jvm.Cond.code ({ cls := "java/lang/String", name := "checkIndex", desc := "(II)V" } : Jvm.MethodName) jdk_42_method_155_code (2 : Nat) (Option.none : Option Jvm.ClassFile.FieldType), Jvm.Cond.code ({ cls := "jdk/internal/util/Preconditions", name := "checkIndex", desc := "(IILjava/util/function/BiFunction;)I" } : Jvm.MethodName) jdk_41_method_11_code (3 : Nat) (Option.some Jvm.ClassFile.FieldType.int), Jvm.Cond.code ({ cls := "com/example/runnymede/runnymede/Ascii", name := "lowerCase", desc := "(C)C" } : Jvm.MethodName) prog_12_method_5_code (1 : Nat) (Option.some Jvm.ClassFile.FieldType.char), Jvm.Cond.code ({ cls := "com/example/runnymede/runnymede/AsciiEqualsIgnoreCasePinLaw", name := "same", desc := "(CC)Z" } : Jvm.MethodName) method_6_code (3 : Nat) (Option.some Jvm.ClassFile.FieldType.boolean), Jvm.Cond.code ({ cls := "java/lang/StringLatin1", name := "charAt", desc := "([BI)C" } : Jvm.MethodName) jdk_43_method_2_code (2 : Nat) (Option.some Jvm.ClassFile.FieldType.char)]
set_option maxRecDepth 65536 in
theorem codes_eq : words1.filter isCode = codes1 := rfl
theorem w_codes : ∀ c ∈ words1.filter isCode, c.before args0 about1 = true := by
  rw [codes_eq]
  intro c hc
  simp only [codes1, List.mem_cons, List.not_mem_nil, or_false] at hc
  rcases hc with rfl | rfl | rfl | rfl | rfl | rfl | rfl | rfl | rfl | rfl | rfl | rfl | rfl | rfl | rfl | rfl | rfl | rfl | rfl | rfl | rfl | rfl | rfl | rfl | rfl | rfl | rfl | rfl
  · exact w_c0
  · exact w_c1
  · exact w_c2
  · exact w_c3
  · exact w_c4
  · exact w_c5
  · exact w_c6
  · exact w_c7
  · exact w_c8
  · exact w_c9
  · exact w_c10
  · exact w_c11
  · exact w_c12
  · exact w_c13
  · exact w_c14
  · exact w_c15
  · exact w_c16
  · exact w_c17
  · exact w_c18
  · exact w_c19
  · exact w_c20
  · exact w_c21
  · exact w_c22
  · exact w_c23
  · exact w_c24
  · exact w_c25
  · exact w_c26
  · exact w_c27
set_option maxRecDepth 65536 in
theorem w_t1 : (words1.take 24).all (fun c => isCode c || c.before args0 about1) = true := by decide +kernel
set_option maxRecDepth 65536 in
theorem w_t2 : ((words1.drop 24).take 24).all (fun c => isCode c || c.before args0 about1) = true := by decide +kernel
set_option maxRecDepth 65536 in
theorem w_t3 : (((words1.drop 24).drop 24).take 24).all (fun c => isCode c || c.before args0 about1) = true := by decide +kernel
set_option maxRecDepth 65536 in
theorem w_t4 : ((((words1.drop 24).drop 24).drop 24).take 24).all (fun c => isCode c || c.before args0 about1) = true := by decide +kernel
set_option maxRecDepth 65536 in
theorem w_t5 : ((((words1.drop 24).drop 24).drop 24).drop 24).all (fun c => isCode c || c.before args0 about1) = true := by decide +kernel
theorem w_tables : (allAtoms (Jvm.Cond.code x code maxLocals ret :: tables_1)).before args0 about1 = true := by
  rw [allAtoms_all]
  show words1.all (fun c => c.before args0 about1) = true
  refine all_split ?_ w_codes
  rw [← List.take_append_drop 24 words1, List.all_append, w_t1, ← List.take_append_drop 24 (words1.drop 24), List.all_append, w_t2, ← List.take_append_drop 24 ((words1.drop 24).drop 24), List.all_append, w_t3, ← List.take_append_drop 24 (((words1.drop 24).drop 24).drop 24), List.all_append, w_t4, w_t5]
  rfl
set_option maxRecDepth 65536 in
theorem w_rest : rest_1_c.before args0 about1 = true := by decide +kernel
set_option maxRecDepth 65536 in
theorem w_case : (Jvm.Cond.and given_1 narrow_1).before args0 about1 = true := by decide +kernel
set_option maxRecDepth 65536 in
theorem w_consts : constsHeld consts_1 about1 := Jvm.Lit.constsHeldB_iff.mp (by decide +kernel)
theorem w_applies : (headSpec (Jvm.Cond.code x code maxLocals ret :: tables_1) room_1).applies x e0.platform about1 = true :=
  (Spec.applies_iff w_frames).mpr ⟨w_running, w_runnable, w_alone, w_named, w_hears, w_ripe, w_room, w_tables⟩
theorem atStart : AtStart classFile x code maxLocals ret World_1 tables_1 room_1 Calls_1 rest_1 Pre_1 launch0 p0 e0 about1 theMethod args0 below0 :=
  ⟨lists_1, trivial, launch0.admits_env _ _ _, launch0.least_env, fairChoices_fair.cas, fairChoices_fair.clock, w_frames, w_args, w_heap, w_applies, ⟨w_consts, trivial⟩, w_rest, w_case⟩
end start1
theorem witness_1 : WitnessClaimed_1 := ⟨start1.p0, start1.e0, start1.about1, start1.theMethod, start1.args0, start1.below0, start1.atStart⟩
end Jvm.Pilot.@@N@@
