import JvmDerived
import JvmDerived.Pilot.@@N@@Statement
import JvmDerived.Pilot.@@N@@Code
set_option linter.unusedVariables false
set_option linter.unusedSimpArgs false
namespace Jvm.RoadKit
open Sem ClassFile Op Lib Jvm.Stand Jvm.Free Jvm.LawKit
section Own
variable {p : Program} {l : Launch} {e : Env} {R : Room} {s : State} {m : MethodId} {args : Array Value} {below : List Frame} {meth : Method} {c : Code} {T : State} {locs : List Loc} {cells slots : Nat}
theorem retI (X : Stand p l e R s m args below meth c T locs cells slots) (hx : p.tables.exec = Jvm.exec) {pc : Nat} {Ls : Array Slot} {z : Int32} {rest : List Value} (hret : meth.sig.returnType = some .int) (hd : decode c.code pc = .ok (.ireturn, 1)) {fs : List Frame}
    (hl : ∀ (f : JFrame) (acts : List Action), f.method = m → f.locked = none → f.entered = [] → (doReturn e (T.setTop f) acts (some (.int z))).1 = T.setFrames fs) : Steps p.tables e below (T.setTop (mkF m pc Ls (.int z :: rest))) (T.setFrames fs) :=
  retOut X hx hret rfl (Or.inl ⟨rfl, Or.inl rfl, _, rfl⟩) hd hl
variable {Q : Option Value → Heap → List Loc → Prop} {kc ks : Nat} {S S' : State}
section H
variable {Z : State} {EL : List (String × Nat)} {QH : Option Value → Heap → List Loc → (Addr → Prop) → Prop} {a0 : Array Value} {h : Heap} {vm0 : Vm}
/-- a callee that may intern, at a site: what is Safe there goes in, what is Safe at its end comes out -/
theorem backOfY {y : MethodName} {bytes : ByteArray} {maxL : Nat} {ret : Option FieldType} {rm : Room} {len W : Nat} {as' : Array Value} {sf : List Addr}
    (hM : MetFree l y (head1 [Cond.code y bytes maxL ret] rm) (fun a U => a = as' ∧ Z.Warmed39 U.vm ∧ U.heap = h ∧ CHv Z EL U.vm h ∧ ∀ x ∈ sf, Safe Z EL U.vm h x) (fun _ _ _ _ _ => True) (fun _ U o U' => ∃ v L, o = .returned v ∧ QH v U'.heap L (Safe Z EL U'.vm U'.heap) ∧ CHr Z EL U.vm U.heap U'.vm U'.heap ∧ ReturnedEndW U o U' L rm.cells rm.slots))
    (hZ : Z.Warmed39 vm0) (wc : (Cond.code y bytes maxL ret).before a0 Z = true) (wz : (Cond.initialized y.cls).before a0 Z = true) (hf : rm.frames + 1 ≤ R.frames) (hl : W + (maxL + 11) + rm.locals ≤ R.locals) (hEL : EW Z a0 EL) (H : CHv Z EL vm0 h) (hs : ∀ x ∈ sf, Safe Z EL vm0 h x) (hlt : ∀ x ∈ sf, x < h.size) :
    BackS l R p e below (s.setVm vm0) args y len W (fun A a => a = as' ∧ A.U.heap = h ∧ A.cells + rm.cells ≤ R.cells ∧ A.slots + rm.slots ≤ R.slots)
      (fun A _ v B => ∃ L, QH v B.U.heap L (Safe Z EL B.U.vm B.U.heap) ∧ B.locs = A.locs ++ L ∧ B.cells = A.cells + rm.cells ∧ B.slots = A.slots + rm.slots ∧ CHr Z EL vm0 h B.U.vm B.U.heap) := by
  refine BackS.of_freeW (bytes := bytes) (maxL := maxL) (ret := ret) (E := fun _ first o t L k n => k = rm.cells ∧ n = rm.slots ∧ (∃ v, o = .returned v ∧ QH v t.heap L (Safe Z EL t.vm t.heap)) ∧ CHr Z EL first.vm first.heap t.vm t.heap) hM hf hl ?_ ?_ (fun _ _ _ _ _ _ _ _ _ => trivial) ?_ ?_
  · intro m meth c A a Y hp
    have hU : Z.Warmed39 A.U.vm := wtrans (s := s.setVm vm0) hZ Y.warmed
    exact ⟨by show (Cond.and _ .tt).before a A.U = true; rw [Cond.before_and, mv hU wc]; rfl, mv hU wc, mv hU wz, hp.2.2.1, hp.2.2.2⟩
  · intro m meth c A a g mk Y hp
    have q := CHv.at Y hZ hEL H
    exact ⟨hp.1, wtrans (s := s.setVm vm0) hZ Y.warmed, hp.2.1, q.1, fun x hx => q.safe (hlt x hx) (hs x hx)⟩
  · rintro _ _ _ _ ⟨v, L, h1, h2, h3, h4⟩
    exact ⟨L, _, _, h4, rfl, rfl, ⟨v, h1, h2⟩, h3⟩
  · rintro m meth c A a g mk v t L k n Y hp - - ⟨e1, e2, ⟨v', e3, e4⟩, e5⟩
    cases e3; subst e1 e2
    refine ⟨L, e4, rfl, rfl, rfl, (CHv.at Y hZ hEL H).trans ?_⟩
    rw [← hp.2.1]; exact e5
end H
theorem own_len {Z : State} {args : Array Value} {t : Term} {a : Addr} {c : Cell} {ty : FieldType} {z : Int32} (ev : t.eval args Z none [] Z = some (.ref a)) (A : Arr Z Z.heap a c ty) (h : (Cond.eq (.length t) (.int z)).value args Z none Z [] = some true) : c.slots.size < 2 ^ 31 ∧ c.slots.size.toInt32 = z := by
  have ha := A.fin (U := Z) (Vm.Alike.refl _)
  by_cases q : c.slots.size < 2 ^ 31
  · exact ⟨q, gotT (Cond.eq_ints (len_f ev ha q) (Term.int_eval z)) h⟩
  · simp [Cond.value, Term.eval, ev, ha, q] at h
theorem own_narref {t : FieldType} {w : Value} (h : w.isRef = true) : narrow t w = w := by
  rcases XT.refc h with rfl | ⟨r, rfl⟩ <;> cases t <;> rfl
theorem own_fitsref {t : FieldType} {w : Value} (ht : t.isReference = true) (h : w.isRef = true) : fits t w = true := by
  rcases XT.refc h with rfl | ⟨r, rfl⟩ <;> cases t <;> first | rfl | (cases ht)
theorem nar_c (x : Int32) : nar .char x.toUInt32.toUInt16.toUInt32.toInt32 = x.toUInt32.toUInt16.toUInt32.toInt32 := by
  have := XT.narrow_c x
  simpa [narrow, nar] using this
theorem nar_b (x : Int32) : nar .byte x.toInt8.toInt32 = x.toInt8.toInt32 := by
  have := XT.narrow_b x
  simpa [narrow, nar] using this
theorem nar_ite {P : Prop} [Decidable P] : nar .boolean (if P then (1 : Int32) else 0) = (if P then (1 : Int32) else 0) := by split <;> decide
theorem nar_ite' {P : Prop} [Decidable P] : nar .boolean (if P then (0 : Int32) else 1) = (if P then (0 : Int32) else 1) := by split <;> decide
theorem narrow_nar {t : FieldType} {z : Int32} (ht : t = .boolean ∨ t = .byte ∨ t = .char ∨ t = .short) (h : nar t z = z) : narrow t (.int z) = .int z := by
  have hn : narrow t (.int z) = .int (nar t z) := by rcases ht with rfl | rfl | rfl | rfl <;> rfl
  rw [hn, h]
end Own
/-- the run that stands in S ends as E says -/
def Runs (p : Program) (e : Env) (below : List Frame) (E : State → Outcome → Prop) (S : State) : Prop :=
  ∃ s₂ o, Steps p.tables e below S s₂ ∧ s₂.status = .running ∧ Ended s₂ below o ∧ E s₂ o
theorem Runs.by {p : Program} {e : Env} {below : List Frame} {E : State → Outcome → Prop} {S S' : State} (k : Runs p e below E S') (st : ∀ t, Steps p.tables e below S' t → Steps p.tables e below S t) : Runs p e below E S := by
  obtain ⟨s₂, o, h1, h2⟩ := k
  exact ⟨s₂, o, st _ h1, h2⟩
theorem Runs.tr {p : Program} {e : Env} {below : List Frame} {E : State → Outcome → Prop} {S S' : State} (k : Runs p e below E S') (st : Steps p.tables e below S S') : Runs p e below E S := by
  obtain ⟨s₂, o, h1, h2⟩ := k
  exact ⟨s₂, o, st.trans h1, h2⟩
def EndN (s : State) (Q : Option Value → Heap → List Loc → Prop) (kc ks : Nat) : State → Outcome → Prop := fun s₂ o => ∃ v L, o = .returned v ∧ Q v s₂.heap L ∧ FrameEnd s o s₂ L kc ks
def EndH (s Z : State) (EL : List (String × Nat)) (Q : Option Value → Heap → List Loc → (Addr → Prop) → Prop) (kc ks : Nat) : State → Outcome → Prop := fun s₂ o => ∃ v L, o = .returned v ∧ Q v s₂.heap L (Safe Z EL s₂.vm s₂.heap) ∧ CHr Z EL s.vm s.heap s₂.vm s₂.heap ∧ ReturnedEndW s o s₂ L kc ks
section W
variable {p : Program} {l : Launch} {e : Env} {Rm : Room} {s : State} {m : MethodId} {args : Array Value} {below : List Frame} {meth : Method} {c : Code} {T : State} {locs : List Loc} {cells slots : Nat} {E : State → Outcome → Prop} {pc pc' : Nat} {Ls : Array Slot} {st : List Value}
theorem w_done (X : Stand p l e Rm s m args below meth c T locs cells slots) (hlk : meth.locks = false) {Q : Option Value → Heap → List Loc → Prop} {kc ks : Nat} {h : Heap} {v : Option Value} {g : JFrame} (eT : T.heap = h) (hv : meth.sig.returnType = none → v = none)
    (hr : ∀ fs, (∀ (f : JFrame) (acts : List Action), f.method = m → f.locked = none → f.entered = [] → (doReturn e (T.setTop f) acts v).1 = T.setFrames fs) → Steps p.tables e below (T.setTop g) (T.setFrames fs)) (hc : cells ≤ kc) (hn : slots ≤ ks) (hQ : Q v h locs) : Runs p e below (EndN s Q kc ks) (T.setTop g) := by
  obtain ⟨fs, h1, hrun, hended, hW, hsame⟩ := X.leave hv hlk
  subst eT
  exact ⟨_, _, hr fs h1, hrun, hended, v, locs, rfl, hQ, ⟨_, rfl⟩, hW, hsame.mono hc hn⟩
theorem w_doneH {vm₁ : Vm} (X : Stand p l e Rm (s.setVm vm₁) m args below meth c T locs cells slots) (hlk : meth.locks = false) {Z : State} {a0 : Array Value} {EL : List (String × Nat)} {Q : Option Value → Heap → List Loc → (Addr → Prop) → Prop} {kc ks k0 : Nat} {h h0 : Heap} {v : Option Value} {g : JFrame} (eT : T.heap = h) (hh : s.heap = h0) (hZ : Z.Warmed39 vm₁) (hEL : EW Z a0 EL) (hS : s.Since vm₁ k0) (hk : k0 ≤ h.size) (C : CHr Z EL s.vm h0 vm₁ h) (hv : meth.sig.returnType = none → v = none)
    (hr : ∀ fs, (∀ (f : JFrame) (acts : List Action), f.method = m → f.locked = none → f.entered = [] → (doReturn e (T.setTop f) acts v).1 = T.setFrames fs) → Steps p.tables e below (T.setTop g) (T.setFrames fs)) (hc : cells ≤ kc) (hn : slots ≤ ks) (hQ : (∀ x, x < h.size → Safe Z EL vm₁ h x → Safe Z EL T.vm h x) → Q v h locs (Safe Z EL T.vm h)) : Runs p e below (EndH s Z EL Q kc ks) (T.setTop g) := by
  subst eT hh
  obtain ⟨fs, h1, hrun, hended, q1, q2, q3, q4⟩ := X.leaveW hS hk hv hlk
  have A := CHv.at X hZ hEL C.1
  exact ⟨_, _, hr fs h1, hrun, hended, v, locs, rfl, hQ (fun x hx S => A.safe hx S), C.trans A, q1, q2, q3, q4.mono hc hn⟩
theorem w_aload (X : Stand p l e Rm s m args below meth c T locs cells slots) (hx : p.tables.exec = Jvm.exec) {k : Nat} {v : Value} (hd : decode c.code pc = .ok (.aload k, 2)) (hl : Ls[k]? = some (.val v)) (hv : v.isRef = true) (hp : pc + 2 = pc') (K : Runs p e below E (T.setTop (mkF m pc' Ls (v :: st)))) : Runs p e below E (T.setTop (mkF m pc Ls st)) := by
  subst hp; exact K.by fun _ k => XS.aload X.here hx rfl hd hl hv k
theorem w_aloadN (X : Stand p l e Rm s m args below meth c T locs cells slots) (hx : p.tables.exec = Jvm.exec) {k : Fin 4} {v : Value} (hd : decode c.code pc = .ok (.aload_n k, 1)) (hl : Ls[k.val]? = some (.val v)) (hv : v.isRef = true) (hp : pc + 1 = pc') (K : Runs p e below E (T.setTop (mkF m pc' Ls (v :: st)))) : Runs p e below E (T.setTop (mkF m pc Ls st)) := by
  subst hp; exact K.by fun _ k => XS.aloadN X.here hx rfl hd hl hv k
theorem w_iload (X : Stand p l e Rm s m args below meth c T locs cells slots) (hx : p.tables.exec = Jvm.exec) {k : Nat} {v : Int32} (hd : decode c.code pc = .ok (.iload k, 2)) (hl : Ls[k]? = some (.val (.int v))) (hp : pc + 2 = pc') (K : Runs p e below E (T.setTop (mkF m pc' Ls (.int v :: st)))) : Runs p e below E (T.setTop (mkF m pc Ls st)) := by
  subst hp; exact K.by fun _ k => XS.iload X.here hx rfl hd hl k
theorem w_iloadN (X : Stand p l e Rm s m args below meth c T locs cells slots) (hx : p.tables.exec = Jvm.exec) {k : Fin 4} {v : Int32} (hd : decode c.code pc = .ok (.iload_n k, 1)) (hl : Ls[k.val]? = some (.val (.int v))) (hp : pc + 1 = pc') (K : Runs p e below E (T.setTop (mkF m pc' Ls (.int v :: st)))) : Runs p e below E (T.setTop (mkF m pc Ls st)) := by
  subst hp; exact K.by fun _ k => XS.iloadN X.here hx rfl hd hl k
theorem w_istore (X : Stand p l e Rm s m args below meth c T locs cells slots) (hx : p.tables.exec = Jvm.exec) {k : Nat} {x : Int32} {L' : Array Slot} (hd : decode c.code pc = .ok (.istore k, 2)) (hl : storeLocals Ls k (.int x) = some L') (hp : pc + 2 = pc') (K : Runs p e below E (T.setTop (mkF m pc' L' st))) : Runs p e below E (T.setTop (mkF m pc Ls (.int x :: st))) := by
  subst hp; exact K.by fun _ k => XS.istore X.here hx rfl hd rfl hl k
theorem w_istoreN (X : Stand p l e Rm s m args below meth c T locs cells slots) (hx : p.tables.exec = Jvm.exec) {k : Fin 4} {x : Int32} {L' : Array Slot} (hd : decode c.code pc = .ok (.istore_n k, 1)) (hl : storeLocals Ls k.val (.int x) = some L') (hp : pc + 1 = pc') (K : Runs p e below E (T.setTop (mkF m pc' L' st))) : Runs p e below E (T.setTop (mkF m pc Ls (.int x :: st))) := by
  subst hp; exact K.by fun _ k => XS.istoreN X.here hx rfl hd rfl hl k
theorem w_astore (X : Stand p l e Rm s m args below meth c T locs cells slots) (hx : p.tables.exec = Jvm.exec) {k : Nat} {x : Value} {L' : Array Slot} (hd : decode c.code pc = .ok (.astore k, 2)) (hv : x.isRef = true) (hl : storeLocals Ls k x = some L') (hp : pc + 2 = pc') (K : Runs p e below E (T.setTop (mkF m pc' L' st))) : Runs p e below E (T.setTop (mkF m pc Ls (x :: st))) := by
  subst hp; exact K.by fun _ k => XS.astore X.here hx rfl hd rfl hv hl k
theorem w_astoreN (X : Stand p l e Rm s m args below meth c T locs cells slots) (hx : p.tables.exec = Jvm.exec) {k : Fin 4} {x : Value} {L' : Array Slot} (hd : decode c.code pc = .ok (.astore_n k, 1)) (hv : x.isRef = true) (hl : storeLocals Ls k.val x = some L') (hp : pc + 1 = pc') (K : Runs p e below E (T.setTop (mkF m pc' L' st))) : Runs p e below E (T.setTop (mkF m pc Ls (x :: st))) := by
  subst hp; exact K.by fun _ k => XS.astoreN X.here hx rfl hd rfl hv hl k
theorem w_iconst (X : Stand p l e Rm s m args below meth c T locs cells slots) (hx : p.tables.exec = Jvm.exec) {i : Int} {v : Int32} (hd : decode c.code pc = .ok (.iconst i, 1)) (hv : Int32.ofInt i = v) (hp : pc + 1 = pc') (K : Runs p e below E (T.setTop (mkF m pc' Ls (.int v :: st)))) : Runs p e below E (T.setTop (mkF m pc Ls st)) := by
  subst hp; exact K.by fun _ k => XT.iconstV X.here hx rfl v hd hv k
theorem w_bipush (X : Stand p l e Rm s m args below meth c T locs cells slots) (hx : p.tables.exec = Jvm.exec) {i : Int} {v : Int32} (hd : decode c.code pc = .ok (.bipush i, 2)) (hv : (Int8.ofInt i).toInt32 = v) (hp : pc + 2 = pc') (K : Runs p e below E (T.setTop (mkF m pc' Ls (.int v :: st)))) : Runs p e below E (T.setTop (mkF m pc Ls st)) := by
  subst hp; exact K.by fun _ k => XT.bipushV X.here hx rfl v hd hv k
theorem w_sipush (X : Stand p l e Rm s m args below meth c T locs cells slots) (hx : p.tables.exec = Jvm.exec) {i : Int} {v : Int32} (hd : decode c.code pc = .ok (.sipush i, 3)) (hv : (Int16.ofInt i).toInt32 = v) (hp : pc + 3 = pc') (K : Runs p e below E (T.setTop (mkF m pc' Ls (.int v :: st)))) : Runs p e below E (T.setTop (mkF m pc Ls st)) := by
  subst hp; exact K.by fun _ k => XT.sipushV X.here hx rfl v hd hv k
theorem w_null (X : Stand p l e Rm s m args below meth c T locs cells slots) (hx : p.tables.exec = Jvm.exec)  (hd : decode c.code pc = .ok (.aconst_null, 1))  (hp : pc + 1 = pc') (K : Runs p e below E (T.setTop (mkF m pc' Ls (.null :: st)))) : Runs p e below E (T.setTop (mkF m pc Ls st)) := by
  subst hp; exact K.by fun _ k => XS.aconstNull X.here hx rfl hd k
theorem w_isub (X : Stand p l e Rm s m args below meth c T locs cells slots) (hx : p.tables.exec = Jvm.exec) {x y : Int32} (hd : decode c.code pc = .ok (.isub, 1))  (hp : pc + 1 = pc') (K : Runs p e below E (T.setTop (mkF m pc' Ls (.int (x - y) :: st)))) : Runs p e below E (T.setTop (mkF m pc Ls (.int y :: .int x :: st))) := by
  subst hp; exact K.by fun _ k => XS.isub X.here hx rfl hd rfl k
theorem w_iand (X : Stand p l e Rm s m args below meth c T locs cells slots) (hx : p.tables.exec = Jvm.exec) {x y : Int32} (hd : decode c.code pc = .ok (.iand, 1))  (hp : pc + 1 = pc') (K : Runs p e below E (T.setTop (mkF m pc' Ls (.int (x &&& y) :: st)))) : Runs p e below E (T.setTop (mkF m pc Ls (.int y :: .int x :: st))) := by
  subst hp; exact K.by fun _ k => XS.iand X.here hx rfl hd rfl k
theorem w_ior (X : Stand p l e Rm s m args below meth c T locs cells slots) (hx : p.tables.exec = Jvm.exec) {x y : Int32} (hd : decode c.code pc = .ok (.ior, 1))  (hp : pc + 1 = pc') (K : Runs p e below E (T.setTop (mkF m pc' Ls (.int (x ||| y) :: st)))) : Runs p e below E (T.setTop (mkF m pc Ls (.int y :: .int x :: st))) := by
  subst hp; exact K.by fun _ k => XS.ior X.here hx rfl hd rfl k
theorem w_irem (X : Stand p l e Rm s m args below meth c T locs cells slots) (hx : p.tables.exec = Jvm.exec) {x y : Int32} (hd : decode c.code pc = .ok (.irem, 1)) (hy : ¬ y = 0) (hp : pc + 1 = pc') (K : Runs p e below E (T.setTop (mkF m pc' Ls (.int (x % y) :: st)))) : Runs p e below E (T.setTop (mkF m pc Ls (.int y :: .int x :: st))) := by
  subst hp; exact K.by fun _ k => iremM (g := mkF m pc Ls _) X hx rfl hd rfl hy k
theorem w_i2b (X : Stand p l e Rm s m args below meth c T locs cells slots) (hx : p.tables.exec = Jvm.exec) {x : Int32} (hd : decode c.code pc = .ok (.i2b, 1))  (hp : pc + 1 = pc') (K : Runs p e below E (T.setTop (mkF m pc' Ls (.int (x.toInt8.toInt32) :: st)))) : Runs p e below E (T.setTop (mkF m pc Ls (.int x :: st))) := by
  subst hp; exact K.by fun _ k => XS.i2b X.here hx rfl hd rfl k
theorem w_i2c (X : Stand p l e Rm s m args below meth c T locs cells slots) (hx : p.tables.exec = Jvm.exec) {x : Int32} (hd : decode c.code pc = .ok (.i2c, 1))  (hp : pc + 1 = pc') (K : Runs p e below E (T.setTop (mkF m pc' Ls (.int (x.toUInt32.toUInt16.toUInt32.toInt32) :: st)))) : Runs p e below E (T.setTop (mkF m pc Ls (.int x :: st))) := by
  subst hp; exact K.by fun _ k => XS.i2c X.here hx rfl hd rfl k
theorem w_ishl (X : Stand p l e Rm s m args below meth c T locs cells slots) (hx : p.tables.exec = Jvm.exec) {x y : Int32} (hd : decode c.code pc = .ok (.ishl, 1))  (hp : pc + 1 = pc') (K : Runs p e below E (T.setTop (mkF m pc' Ls (.int (x <<< (y &&& 31)) :: st)))) : Runs p e below E (T.setTop (mkF m pc Ls (.int y :: .int x :: st))) := by
  subst hp; exact K.by fun _ k => XS.ishl X.here hx rfl hd rfl k
theorem w_ishr (X : Stand p l e Rm s m args below meth c T locs cells slots) (hx : p.tables.exec = Jvm.exec) {x y : Int32} (hd : decode c.code pc = .ok (.ishr, 1))  (hp : pc + 1 = pc') (K : Runs p e below E (T.setTop (mkF m pc' Ls (.int (x >>> (y &&& 31)) :: st)))) : Runs p e below E (T.setTop (mkF m pc Ls (.int y :: .int x :: st))) := by
  subst hp; exact K.by fun _ k => XS.ishr X.here hx rfl hd rfl k
theorem w_iushr (X : Stand p l e Rm s m args below meth c T locs cells slots) (hx : p.tables.exec = Jvm.exec) {x y : Int32} (hd : decode c.code pc = .ok (.iushr, 1))  (hp : pc + 1 = pc') (K : Runs p e below E (T.setTop (mkF m pc' Ls (.int ((x.toUInt32 >>> (y &&& 31).toUInt32).toInt32) :: st)))) : Runs p e below E (T.setTop (mkF m pc Ls (.int y :: .int x :: st))) := by
  subst hp; exact K.by fun _ k => XS.iushr X.here hx rfl hd rfl k
theorem w_iinc (X : Stand p l e Rm s m args below meth c T locs cells slots) (hx : p.tables.exec = Jvm.exec) {k : Nat} {cst : Int} {x v : Int32} {L' : Array Slot} (hd : decode c.code pc = .ok (.iinc k cst, 3)) (hv : Int32.ofInt cst = v) (hl : Ls[k]? = some (.val (.int x))) (hl' : storeLocals Ls k (.int (x + v)) = some L') (hp : pc + 3 = pc') (K : Runs p e below E (T.setTop (mkF m pc' L' st))) : Runs p e below E (T.setTop (mkF m pc Ls st)) := by
  subst hp; exact K.by fun _ k => XT.iincV X.here hx rfl v hd hv hl hl' k
theorem w_dup (X : Stand p l e Rm s m args below meth c T locs cells slots) (hx : p.tables.exec = Jvm.exec) {x : Value} (hd : decode c.code pc = .ok (.dup, 1)) (hc : x.category = 1) (hp : pc + 1 = pc') (K : Runs p e below E (T.setTop (mkF m pc' Ls (x :: x :: st)))) : Runs p e below E (T.setTop (mkF m pc Ls (x :: st))) := by
  subst hp; exact K.by fun _ k => XS.dup X.here hx rfl hd rfl hc k
theorem w_goto (X : Stand p l e Rm s m args below meth c T locs cells slots) (hx : p.tables.exec = Jvm.exec) {o : Int} (hd : decode c.code pc = .ok (.goto o, 3))  (ho : 0 ≤ (pc : Int) + o) (hp : ((pc : Int) + o).toNat = pc') (K : Runs p e below E (T.setTop (mkF m pc' Ls st))) : Runs p e below E (T.setTop (mkF m pc Ls st)) := by
  exact K.by fun _ k => XS.goto X.here hx rfl rfl hd ho hp k
theorem w_ifY (X : Stand p l e Rm s m args below meth c T locs cells slots) (hx : p.tables.exec = Jvm.exec) {cd : ClassFile.Cond} {x : Int32} {o : Int} (hd : decode c.code pc = .ok (.ifCond cd o, 3)) (hc : if_icmp.holds cd x 0 = true) (ho : 0 ≤ (pc : Int) + o) (hp : ((pc : Int) + o).toNat = pc') (K : Runs p e below E (T.setTop (mkF m pc' Ls st))) : Runs p e below E (T.setTop (mkF m pc Ls (.int x :: st))) := by
  exact K.by fun _ k => XS.ifYes X.here hx rfl rfl hd rfl ((if0 _ _).trans hc) ho hp k
theorem w_ifN (X : Stand p l e Rm s m args below meth c T locs cells slots) (hx : p.tables.exec = Jvm.exec) {cd : ClassFile.Cond} {x : Int32} {o : Int} (hd : decode c.code pc = .ok (.ifCond cd o, 3)) (hc : if_icmp.holds cd x 0 = false) (hp : pc + 3 = pc') (K : Runs p e below E (T.setTop (mkF m pc' Ls st))) : Runs p e below E (T.setTop (mkF m pc Ls (.int x :: st))) := by
  subst hp; exact K.by fun _ k => XS.ifNo X.here hx rfl hd rfl ((if0 _ _).trans hc) k
theorem w_icY (X : Stand p l e Rm s m args below meth c T locs cells slots) (hx : p.tables.exec = Jvm.exec) {cd : ClassFile.Cond} {x y : Int32} {o : Int} (hd : decode c.code pc = .ok (.if_icmp cd o, 3)) (hc : if_icmp.holds cd x y = true) (ho : 0 ≤ (pc : Int) + o) (hp : ((pc : Int) + o).toNat = pc') (K : Runs p e below E (T.setTop (mkF m pc' Ls st))) : Runs p e below E (T.setTop (mkF m pc Ls (.int y :: .int x :: st))) := by
  exact K.by fun _ k => XS.icmpYes X.here hx rfl rfl hd rfl hc ho hp k
theorem w_icN (X : Stand p l e Rm s m args below meth c T locs cells slots) (hx : p.tables.exec = Jvm.exec) {cd : ClassFile.Cond} {x y : Int32} {o : Int} (hd : decode c.code pc = .ok (.if_icmp cd o, 3)) (hc : if_icmp.holds cd x y = false) (hp : pc + 3 = pc') (K : Runs p e below E (T.setTop (mkF m pc' Ls st))) : Runs p e below E (T.setTop (mkF m pc Ls (.int y :: .int x :: st))) := by
  subst hp; exact K.by fun _ k => XS.icmpNo X.here hx rfl hd rfl hc k
theorem w_acmp (X : Stand p l e Rm s m args below meth c T locs cells slots) (hx : p.tables.exec = Jvm.exec) {cd : ACond} {x y : Value} {o : Int} {same : Bool} (hd : decode c.code pc = .ok (.if_acmp cd o, 3)) (h1 : x.isRef = true) (h2 : y.isRef = true) (hq : decide (x = y) = same) (ho : 0 ≤ (pc : Int) + o) (hp : pc' = if acV cd same = true then ((pc : Int) + o).toNat else pc + 3) (K : Runs p e below E (T.setTop (mkF m pc' Ls st))) : Runs p e below E (T.setTop (mkF m pc Ls (y :: x :: st))) := by
  exact K.by fun _ k => Jvm.RoadKit.acmp (g := mkF m pc Ls _) X hx rfl h1 h2 rfl hd rfl hq ho hp k
theorem w_getF (X : Stand p l e Rm s m args below meth c T locs cells slots) (hx : p.tables.exec = Jvm.exec) {Z : State} {a0 : Array Value} {h : Heap} {own R0 O n d : String} (host : String) {index : Nat} {a : Addr} {v : Value} (hZ : Z.Warmed39 s.vm) (hown : s.vm.findClass own = some m.cls) (w : (Cond.fieldLink own index R0 n d).before a0 Z = true ∨ (Cond.fieldLinkNest own index R0 n d host).before a0 Z = true) (via : Via Z R0 O n d) (eT : T.heap = h) (F : Fld Z h a O n d v) (hd : decode c.code pc = .ok (.getfield index, 3)) (hp : pc + 3 = pc') (K : ∀ T' : State, Stand p l e Rm s m args below meth c T' locs cells slots → T'.heap = h → Runs p e below E (T'.setTop (mkF m pc' Ls (v :: st)))) : Runs p e below E (T.setTop (mkF m pc Ls (.ref a :: st))) := by
  subst hp
  obtain ⟨T1, X1, e1, st1⟩ := getF X hx hZ hown (host := host) w via eT F (g := mkF m pc Ls (.ref a :: st)) rfl rfl hd
  exact (K T1 X1 e1).by st1
theorem w_getS (X : Stand p l e Rm s m args below meth c T locs cells slots) (hx : p.tables.exec = Jvm.exec) {Z : State} {a0 : Array Value} {h : Heap} {own R0 O n d : String} (host : String) {index : Nat} {v : Value} (hZ : Z.Warmed39 s.vm) (hown : s.vm.findClass own = some m.cls) (w : (Cond.fieldLink own index R0 n d).before a0 Z = true ∨ (Cond.fieldLinkNest own index R0 n d host).before a0 Z = true) (via : Via Z R0 O n d) (eT : T.heap = h) (F : Sta Z h O n d v) (hd : decode c.code pc = .ok (.getstatic index, 3)) (hp : pc + 3 = pc') (K : ∀ T' : State, Stand p l e Rm s m args below meth c T' locs cells slots → T'.heap = h → Runs p e below E (T'.setTop (mkF m pc' Ls (v :: st)))) : Runs p e below E (T.setTop (mkF m pc Ls st)) := by
  subst hp
  obtain ⟨T1, X1, e1, st1⟩ := getS2 X hx hZ hown (host := host) w via eT F (g := mkF m pc Ls st) rfl hd
  exact (K T1 X1 e1).by st1
theorem w_putF (X : Stand p l e Rm s m args below meth c T locs cells slots) (hx : p.tables.exec = Jvm.exec) {Z : State} {a0 : Array Value} {h : Heap} {own R0 O n d C : String} (host : String) {index kk : Nat} {ty : FieldType} {a : Addr} {v old : Value} (hZ : Z.Warmed39 s.vm) (hown : s.vm.findClass own = some m.cls) (w : (Cond.fieldLink own index R0 n d).before a0 Z = true ∨ (Cond.fieldLinkNest own index R0 n d host).before a0 Z = true) (via : Via Z R0 O n d) (eT : T.heap = h) (F : Fld Z h a O n d old) (Ex : Exa Z h a C) (Ly : (Cond.lays C O n d).before a0 Z = true ∨ ((Cond.laysFinal C O n d).before a0 Z = true ∧ own = O ∧ meth.name = "<init>")) (wi : (Cond.instantiable C kk).before a0 Z = true) (hty : parseFieldDescriptor d = some ty) (hn : narrow ty v = v) (hf : fits ty v = true) (hd : decode c.code pc = .ok (.putfield index, 3)) (hp : pc + 3 = pc') (K : ∀ (T' : State) (h' : Heap), Stand p l e Rm s m args below meth c T' (locs ++ [⟨a, slotOf Z O n d⟩]) cells slots → T'.heap = h' → Wr h h' a (slotOf Z O n d) v → Runs p e below E (T'.setTop (mkF m pc' Ls st))) : Runs p e below E (T.setTop (mkF m pc Ls (v :: .ref a :: st))) := by
  subst hp
  obtain ⟨T1, h1, X1, e1, W1, st1⟩ := putF X hx hZ hown (host := host) w via eT F Ex Ly wi hty hn hf (g := mkF m pc Ls (v :: .ref a :: st)) rfl rfl hd
  exact (K T1 h1 X1 e1 W1).by st1
theorem w_new (X : Stand p l e Rm s m args below meth c T locs cells slots) (hx : p.tables.exec = Jvm.exec) {Z : State} {a0 : Array Value} {h : Heap} {own C : String} {index n : Nat} (hZ : Z.Warmed39 s.vm) (hown : s.vm.findClass own = some m.cls) (w : (Cond.classLink own index C).before a0 Z = true) (wi : (Cond.instantiable C n).before a0 Z = true) (wz : (Cond.initialized C).before a0 Z = true) (eT : T.heap = h) (hd : decode c.code pc = .ok (.new index, 3)) (hc : cells + 1 ≤ Rm.cells) (hl : slots + n ≤ Rm.slots) (hp : pc + 3 = pc') (K : ∀ (T' : State) (h' : Heap) (b : Addr), Stand p l e Rm s m args below meth c T' locs (cells + 1) (slots + n) → T'.heap = h' → Ext h h' → b = h.size → Exa Z h' b C → (∀ {O nm d : String} {ty : FieldType}, Laid Z a0 C O nm d → parseFieldDescriptor d = some ty → Fld Z h' b O nm d (defaultValue ty)) → Runs p e below E (T'.setTop (mkF m pc' Ls (.ref b :: st)))) : Runs p e below E (T.setTop (mkF m pc Ls st)) := by
  subst hp
  obtain ⟨T1, h1, X1, e1, E1, A1, D1, -, st1⟩ := newO X hx hZ hown w wi wz eT (g := mkF m pc Ls st) rfl hd hc hl
  exact (K T1 h1 _ X1 e1 E1 rfl A1 D1).by st1
theorem w_newP (X : Stand p l e Rm s m args below meth c T locs cells slots) (hx : p.tables.exec = Jvm.exec) {Z : State} {a0 : Array Value} {h : Heap} (aty : ArrayType) (ty : FieldType) {n : Int32} (cap : Nat) (hty : newarray.typeOf aty = ty) (hZ : Z.Warmed39 s.vm) (w : (Cond.arrayClass ty).before a0 Z = true) (eT : T.heap = h) (hd : decode c.code pc = .ok (.newarray aty, 2)) (hn : ¬ n < 0) (hcap : n.toNatClampNeg ≤ cap) (hb : cap * 8 ≤ 536870912) (hc : cells + 1 ≤ Rm.cells) (hl : slots + cap ≤ Rm.slots) (hp : pc + 2 = pc') (K : ∀ (T' : State) (h' : Heap) (k : ClassId) (b : Addr), Stand p l e Rm s m args below meth c T' locs (cells + 1) (slots + cap) → T'.heap = h' → Ext h h' → b = h.size → Arr Z h' b (newA k ty n) ty → Runs p e below E (T'.setTop (mkF m pc' Ls (.ref b :: st)))) : Runs p e below E (T.setTop (mkF m pc Ls (.int n :: st))) := by
  subst hp
  subst hty
  obtain ⟨T1, h1, k1, X1, e1, E1, A1, st1⟩ := newP X hx hZ w eT (g := mkF m pc Ls (.int n :: st)) rfl hd rfl hn hcap hb hc hl
  exact (K T1 h1 k1 _ X1 e1 E1 rfl A1).by st1
theorem w_stC (X : Stand p l e Rm s m args below meth c T locs cells slots) (hx : p.tables.exec = Jvm.exec) {Z : State} {h : Heap} {a : Addr} {cl : Cell} {j : Int32} {x : Int32} (hZ : Z.Warmed39 s.vm) (eT : T.heap = h) (A : Arr Z h a cl .char) (hj : ¬ (j < 0 ∨ cl.slots.size ≤ j.toNatClampNeg)) (hd : decode c.code pc = .ok (.castore, 1)) (hp : pc + 1 = pc') (K : ∀ (T' : State) (h' : Heap), Stand p l e Rm s m args below meth c T' (locs ++ [⟨a, j.toNatClampNeg⟩]) cells slots → T'.heap = h' → Wr h h' a j.toNatClampNeg (.int (nar .char x)) → Runs p e below E (T'.setTop (mkF m pc' Ls st))) : Runs p e below E (T.setTop (mkF m pc Ls (.int x :: .int j :: .ref a :: st))) := by
  subst hp
  obtain ⟨T1, h1, X1, e1, W1, st1⟩ := stC X hx hZ eT A (j := j) hj (g := mkF m pc Ls (.int x :: .int j :: .ref a :: st)) rfl rfl hd
  exact (K T1 h1 X1 e1 W1).by st1
theorem w_stB (X : Stand p l e Rm s m args below meth c T locs cells slots) (hx : p.tables.exec = Jvm.exec) {Z : State} {h : Heap} {a : Addr} {cl : Cell} {j : Int32} {x : Int32} (hZ : Z.Warmed39 s.vm) (eT : T.heap = h) (A : Arr Z h a cl .byte) (hj : ¬ (j < 0 ∨ cl.slots.size ≤ j.toNatClampNeg)) (hd : decode c.code pc = .ok (.bastore, 1)) (hp : pc + 1 = pc') (K : ∀ (T' : State) (h' : Heap), Stand p l e Rm s m args below meth c T' (locs ++ [⟨a, j.toNatClampNeg⟩]) cells slots → T'.heap = h' → Wr h h' a j.toNatClampNeg (.int (nar .byte x)) → Runs p e below E (T'.setTop (mkF m pc' Ls st))) : Runs p e below E (T.setTop (mkF m pc Ls (.int x :: .int j :: .ref a :: st))) := by
  subst hp
  obtain ⟨T1, h1, X1, e1, W1, st1⟩ := stB X hx hZ eT A (j := j) hj (g := mkF m pc Ls (.int x :: .int j :: .ref a :: st)) rfl rfl hd
  exact (K T1 h1 X1 e1 W1).by st1
theorem w_caload (X : Stand p l e Rm s m args below meth c T locs cells slots) (hx : p.tables.exec = Jvm.exec) {Z : State} {h : Heap} {a : Addr} {cl : Cell} {j : Int32} {v : Int32} (hZ : Z.Warmed39 s.vm) (eT : T.heap = h) (A : Arr Z h a cl .char) (hj : ¬ (j < 0 ∨ cl.slots.size ≤ j.toNatClampNeg)) (hv : cl.slots[j.toNatClampNeg]? = some (.int v)) (hd : decode c.code pc = .ok (.caload, 1)) (hp : pc + 1 = pc') (K : Runs p e below E (T.setTop (mkF m pc' Ls (.int v :: st)))) : Runs p e below E (T.setTop (mkF m pc Ls (.int j :: .ref a :: st))) := by
  subst hp
  exact K.by fun t k => X.caload hx (j := j) (v := .int v) (by rw [eT]; exact A.1) (State.isArrayOf_alike hZ.alike A.2.1) A.2.2 hj hv (g := mkF m pc Ls (.int j :: .ref a :: st)) rfl rfl hd t k
theorem w_baload (X : Stand p l e Rm s m args below meth c T locs cells slots) (hx : p.tables.exec = Jvm.exec) {Z : State} {h : Heap} {a : Addr} {cl : Cell} {j : Int32} {v : Int32} (hZ : Z.Warmed39 s.vm) (eT : T.heap = h) (A : Arr Z h a cl .byte) (hj : ¬ (j < 0 ∨ cl.slots.size ≤ j.toNatClampNeg)) (hv : cl.slots[j.toNatClampNeg]? = some (.int v)) (hd : decode c.code pc = .ok (.baload, 1)) (hp : pc + 1 = pc') (K : Runs p e below E (T.setTop (mkF m pc' Ls (.int v :: st)))) : Runs p e below E (T.setTop (mkF m pc Ls (.int j :: .ref a :: st))) := by
  subst hp
  exact K.by fun t k => X.baloadBytes hx (j := j) (v := .int v) (by rw [eT]; exact A.1) (State.isArrayOf_alike hZ.alike A.2.1) A.2.2 hj hv (g := mkF m pc Ls (.int j :: .ref a :: st)) rfl rfl hd t k
theorem w_alen (X : Stand p l e Rm s m args below meth c T locs cells slots) (hx : p.tables.exec = Jvm.exec) {Z : State} {h : Heap} {a : Addr} {k : ClassId} {ty : FieldType} {z : Int32} {vs : List Value} {dv : Value} (hZ : Z.Warmed39 s.vm) (eT : T.heap = h) (F : Arv Z h a k ty z vs dv) (hd : decode c.code pc = .ok (.arraylength, 1)) (hp : pc + 1 = pc') (K : Runs p e below E (T.setTop (mkF m pc' Ls (.int z :: st)))) : Runs p e below E (T.setTop (mkF m pc Ls (.ref a :: st))) := by
  subst hp
  obtain ⟨cl, A, q, S, N, H, G⟩ := F
  rw [← len_of S N] at K
  exact K.by fun t k => X.arraylength hx (by rw [eT]; exact A.1) (State.isArrayOf_alike hZ.alike A.2.1) (g := mkF m pc Ls (.ref a :: st)) rfl rfl hd t k
theorem w_ldcI (X : Stand p l e Rm s m args below meth c T locs cells slots) (hx : p.tables.exec = Jvm.exec) {Z : State} {a0 : Array Value} {own : String} {index : Nat} {v : Int32} (hZ : Z.Warmed39 s.vm) (hown : s.vm.findClass own = some m.cls) (w : (Cond.constant own index v).before a0 Z = true) (hd : decode c.code pc = .ok (.ldc index, 2)) (hp : pc + 2 = pc') (K : Runs p e below E (T.setTop (mkF m pc' Ls (.int v :: st)))) : Runs p e below E (T.setTop (mkF m pc Ls st)) := by
  subst hp
  exact K.by fun t k => X.ldcInt hx hown (mvT hZ w) (g := mkF m pc Ls st) rfl hd t k
theorem w_castY (X : Stand p l e Rm s m args below meth c T locs cells slots) (hx : p.tables.exec = Jvm.exec) {Z : State} {a0 : Array Value} {h : Heap} {own K0 : String} {index : Nat} {a : Addr} (hZ : Z.Warmed39 s.vm) (hown : s.vm.findClass own = some m.cls) (w : (Cond.classLink own index K0).before a0 Z = true) (eT : T.heap = h) (F : Ins Z h a K0 true) (hd : decode c.code pc = .ok (.checkcast index, 3)) (hp : pc + 3 = pc') (K : ∀ T' : State, Stand p l e Rm s m args below meth c T' locs cells slots → T'.heap = h → Runs p e below E (T'.setTop (mkF m pc' Ls (.ref a :: st)))) : Runs p e below E (T.setTop (mkF m pc Ls (.ref a :: st))) := by
  subst hp
  obtain ⟨T1, X1, e1, st1⟩ := castY X hx hZ hown w eT F (g := mkF m pc Ls (.ref a :: st)) rfl rfl hd
  exact (K T1 X1 e1).by st1
theorem w_instY (X : Stand p l e Rm s m args below meth c T locs cells slots) (hx : p.tables.exec = Jvm.exec) {Z : State} {a0 : Array Value} {h : Heap} {own K0 : String} {index : Nat} {a : Addr} (hZ : Z.Warmed39 s.vm) (hown : s.vm.findClass own = some m.cls) (w : (Cond.classLink own index K0).before a0 Z = true) (eT : T.heap = h) (F : Ins Z h a K0 true) (hd : decode c.code pc = .ok (.instanceof index, 3)) (hp : pc + 3 = pc') (K : ∀ T' : State, Stand p l e Rm s m args below meth c T' locs cells slots → T'.heap = h → Runs p e below E (T'.setTop (mkF m pc' Ls (.int 1 :: st)))) : Runs p e below E (T.setTop (mkF m pc Ls (.ref a :: st))) := by
  subst hp
  obtain ⟨T1, X1, e1, st1⟩ := instY X hx hZ hown w eT F (g := mkF m pc Ls (.ref a :: st)) rfl rfl hd
  exact (K T1 X1 e1).by st1
theorem w_initO (X : Stand p l e Rm s m args below meth c T locs cells slots) (hx : p.tables.exec = Jvm.exec) {Z : State} {a0 : Array Value} {h : Heap} {own : String} {index : Nat} {a : Addr} (W : Nat) (hZ : Z.Warmed39 s.vm) (hown : s.vm.findClass own = some m.cls) (w1 : (Cond.methodLink own index Lib.objectInit).before a0 Z = true) (w2 : (Cond.instanceMethod Lib.objectInit).before a0 Z = true) (w3 : (Cond.code Lib.objectInit ⟨#[0xb1]⟩ 1 none).before a0 Z = true) (eT : T.heap = h) (hsz : Ls.size = c.maxLocals) (hd : decode c.code pc = .ok (.invokespecial index, 3)) (hf : 1 ≤ Rm.frames) (hW : (st.map fun v => v.category).sum ≤ W) (hl : W + 12 ≤ Rm.locals) (hp : pc + 3 = pc') (K : ∀ T' : State, Stand p l e Rm s m args below meth c T' locs cells slots → T'.heap = h → Runs p e below E (T'.setTop (mkF m pc' Ls st))) : Runs p e below E (T.setTop (mkF m pc Ls (.ref a :: st))) := by
  subst hp
  obtain ⟨T1, X1, e1, st1⟩ := initO X hx hZ hown w1 w2 w3 eT (g := mkF m pc Ls (.ref a :: st)) rfl hsz rfl hd hf (W := W) (by show 2 * 0 + _ ≤ _; omega) hl
  exact (K T1 X1 e1).by st1
theorem w_static (X : Stand p l e Rm s m args below meth c T locs cells slots) (hx : p.tables.exec = Jvm.exec) {stk : List Value} {own : String} {index : Nat} {y : MethodName} {bytes : ByteArray} {maxL : Nat} {ret : Option FieldType} {W : Nat} {Pre : Pt → Array Value → Prop} {Post : Pt → Array Value → Option Value → Pt → Prop} (hown : s.vm.findClass own = some m.cls) (hlink : (Cond.methodLink own index y).before args s = true) (hstat : (Cond.static y).before args s = true) (hinit : (Cond.initialized y.cls).before args s = true) (hcode : (Cond.code y bytes maxL ret).before args s = true) (hy : y.cls ≠ "java/lang/invoke/MethodHandle" ∧ y.cls ≠ "java/lang/invoke/VarHandle") (hK : Back l Rm p e below s args y 3 W Pre Post) (hsz : Ls.size = c.maxLocals) (argsL : List Value) (hlen : ∀ sig, parseMethodDescriptor y.desc = some sig → argsL.length = sig.parameters.length) (hst : stk = argsL.reverse ++ st) (hW : (st.map fun v => v.category).sum ≤ W) (hd : decode c.code pc = .ok (.invokestatic index, 3)) (hpre : ∀ vm₁, s.WarmedH vm₁ → Pre ⟨T.setVm vm₁, locs, cells, slots⟩ argsL.toArray) (hp : pc + 3 = pc') (K : ∀ (v : Option Value) (vm₁ : Vm) (B : Pt), Stand p l e Rm s m args below meth c B.U B.locs B.cells B.slots → Post ⟨T.setVm vm₁, locs, cells, slots⟩ argsL.toArray v B → Runs p e below E (B.U.setTop (mkF m pc' Ls (v.toList ++ st)))) : Runs p e below E (T.setTop (mkF m pc Ls stk)) := by
  subst hp
  obtain ⟨v1, vm1, B1, -, X1, q1, st1⟩ := Jvm.LawKit.callS X hx hown hlink hstat hinit hcode hy hK (g := mkF m pc Ls stk) rfl hsz (argsL := argsL) (rest := st) hlen hst (by show 2 * 0 + _ ≤ _; omega) hd hpre
  exact (K v1 vm1 B1 X1 q1).by st1
theorem w_special (X : Stand p l e Rm s m args below meth c T locs cells slots) (hx : p.tables.exec = Jvm.exec) {stk : List Value} {own : String} {index : Nat} {y : MethodName} {bytes : ByteArray} {maxL : Nat} {a : Addr} {W : Nat} {Pre : Pt → Array Value → Prop} {Post : Pt → Array Value → Option Value → Pt → Prop} (hy1 : y.name = "<init>") (hown : s.vm.findClass own = some m.cls) (hlink : (Cond.methodLink own index y).before args s = true) (hinst : (Cond.instanceMethod y).before args s = true) (hcode : (Cond.code y bytes maxL none).before args s = true) (hy : y.cls ≠ "java/lang/invoke/MethodHandle" ∧ y.cls ≠ "java/lang/invoke/VarHandle") (hK : Back l Rm p e below s args y 3 W Pre Post) (hsz : Ls.size = c.maxLocals) (argsL : List Value) (hlen : ∀ sig, parseMethodDescriptor y.desc = some sig → argsL.length = sig.parameters.length) (hst : stk = argsL.reverse ++ .ref a :: st) (hW : (st.map fun v => v.category).sum ≤ W) (hd : decode c.code pc = .ok (.invokespecial index, 3)) (hpre : ∀ vm₁, s.WarmedH vm₁ → Pre ⟨T.setVm vm₁, locs, cells, slots⟩ (.ref a :: argsL).toArray) (hp : pc + 3 = pc') (K : ∀ (v : Option Value) (vm₁ : Vm) (B : Pt), Stand p l e Rm s m args below meth c B.U B.locs B.cells B.slots → Post ⟨T.setVm vm₁, locs, cells, slots⟩ (.ref a :: argsL).toArray v B → Runs p e below E (B.U.setTop (mkF m pc' Ls (v.toList ++ st)))) : Runs p e below E (T.setTop (mkF m pc Ls stk)) := by
  subst hp
  obtain ⟨v1, vm1, B1, -, X1, q1, st1⟩ := X.specialBack hx hy1 hown hlink hinst hcode hy hK (g := mkF m pc Ls stk) rfl hsz (Steps.refl _) (a := a) (argsL := argsL) (rest := st) hlen hst (by show 2 * 0 + _ ≤ _; omega) hd hpre
  exact (K v1 vm1 B1 X1 q1).tr st1
theorem w_virtual (X : Stand p l e Rm s m args below meth c T locs cells slots) (hx : p.tables.exec = Jvm.exec) {stk : List Value} {own C : String} {index : Nat} {y z : MethodName} {b : Addr} {cB : ClassId} {W : Nat} {Pre : Pt → Array Value → Prop} {Post : Pt → Array Value → Option Value → Pt → Prop} (hown : s.vm.findClass own = some m.cls) (hlink : (Cond.methodLink own index y).before args s = true) (hdecl : (Cond.declares y).before args s = true) (hnf : NotFace s y) (hsel : (Cond.selects C y z).before args s = true) (hinst : (Cond.instanceMethod z).before args s = true) (hy : y.cls ≠ "java/lang/invoke/MethodHandle" ∧ y.cls ≠ "java/lang/invoke/VarHandle") (hK : Back l Rm p e below s args z 3 W Pre Post) (hcB : s.vm.findClass C = some cB) (hrecv : IsOf cB T b) (hsz : Ls.size = c.maxLocals) (argsL : List Value) (hlen : ∀ sig, parseMethodDescriptor y.desc = some sig → argsL.length = sig.parameters.length) (hst : stk = argsL.reverse ++ .ref b :: st) (hW : (st.map fun v => v.category).sum ≤ W) (hd : decode c.code pc = .ok (.invokevirtual index, 3)) (hpre : ∀ vm₁, s.WarmedH vm₁ → Pre ⟨T.setVm vm₁, locs, cells, slots⟩ (.ref b :: argsL).toArray) (hp : pc + 3 = pc') (K : ∀ (v : Option Value) (vm₁ : Vm) (B : Pt), Stand p l e Rm s m args below meth c B.U B.locs B.cells B.slots → Post ⟨T.setVm vm₁, locs, cells, slots⟩ (.ref b :: argsL).toArray v B → Runs p e below E (B.U.setTop (mkF m pc' Ls (v.toList ++ st)))) : Runs p e below E (T.setTop (mkF m pc Ls stk)) := by
  subst hp
  obtain ⟨v1, vm1, B1, -, X1, q1, st1⟩ := X.virtualBack hx hown hlink hdecl hnf hsel hinst hy hK hcB hrecv (g := mkF m pc Ls stk) rfl hsz (Steps.refl _) (argsL := argsL) (rest := st) hlen hst (by show 2 * 0 + _ ≤ _; omega) hd hpre
  exact (K v1 vm1 B1 X1 q1).tr st1
theorem w_staticS (X : Stand p l e Rm s m args below meth c T locs cells slots) (hx : p.tables.exec = Jvm.exec) {stk : List Value} {own : String} {index : Nat} {y : MethodName} {bytes : ByteArray} {maxL : Nat} {ret : Option FieldType} {W : Nat} {Pre : Pt → Array Value → Prop} {Post : Pt → Array Value → Option Value → Pt → Prop} (hown : s.vm.findClass own = some m.cls) (hlink : (Cond.methodLink own index y).before args s = true) (hstat : (Cond.static y).before args s = true) (hinit : (Cond.initialized y.cls).before args s = true) (hcode : (Cond.code y bytes maxL ret).before args s = true) (hy : y.cls ≠ "java/lang/invoke/MethodHandle" ∧ y.cls ≠ "java/lang/invoke/VarHandle") (hK : BackS l Rm p e below s args y 3 W Pre Post) (hsz : Ls.size = c.maxLocals) (argsL : List Value) (hlen : ∀ sig, parseMethodDescriptor y.desc = some sig → argsL.length = sig.parameters.length) (hst : stk = argsL.reverse ++ st) (hW : (st.map fun v => v.category).sum ≤ W) (hd : decode c.code pc = .ok (.invokestatic index, 3)) (hpre : ∀ vm₁, s.WarmedH vm₁ → Pre ⟨T.setVm vm₁, locs, cells, slots⟩ argsL.toArray) (hp : pc + 3 = pc') (K : ∀ (v : Option Value) (vm₁ : Vm) (B : Pt), Stand p l e Rm (s.setVm B.U.vm) m args below meth c B.U B.locs B.cells B.slots → s.Since B.U.vm B.U.heap.size → T.heap.size ≤ B.U.heap.size → Post ⟨T.setVm vm₁, locs, cells, slots⟩ argsL.toArray v B → Runs p e below E (B.U.setTop (mkF m pc' Ls (v.toList ++ st)))) : Runs p e below E (T.setTop (mkF m pc Ls stk)) := by
  subst hp
  obtain ⟨v1, vm1, B1, -, X1, s1, g1, q1, st1⟩ := callSS X hx hown hlink hstat hinit hcode hy hK (g := mkF m pc Ls stk) rfl hsz (argsL := argsL) (rest := st) hlen hst (by show 2 * 0 + _ ≤ _; omega) hd hpre
  exact (K v1 vm1 B1 X1 s1 g1 q1).tr st1
theorem w_specialS (X : Stand p l e Rm s m args below meth c T locs cells slots) (hx : p.tables.exec = Jvm.exec) {stk : List Value} {own : String} {index : Nat} {y : MethodName} {bytes : ByteArray} {maxL : Nat} {a : Addr} {W : Nat} {Pre : Pt → Array Value → Prop} {Post : Pt → Array Value → Option Value → Pt → Prop} (hy1 : y.name = "<init>") (hown : s.vm.findClass own = some m.cls) (hlink : (Cond.methodLink own index y).before args s = true) (hinst : (Cond.instanceMethod y).before args s = true) (hcode : (Cond.code y bytes maxL none).before args s = true) (hy : y.cls ≠ "java/lang/invoke/MethodHandle" ∧ y.cls ≠ "java/lang/invoke/VarHandle") (hK : BackS l Rm p e below s args y 3 W Pre Post) (hsz : Ls.size = c.maxLocals) (argsL : List Value) (hlen : ∀ sig, parseMethodDescriptor y.desc = some sig → argsL.length = sig.parameters.length) (hst : stk = argsL.reverse ++ .ref a :: st) (hW : (st.map fun v => v.category).sum ≤ W) (hd : decode c.code pc = .ok (.invokespecial index, 3)) (hpre : ∀ vm₁, s.WarmedH vm₁ → Pre ⟨T.setVm vm₁, locs, cells, slots⟩ (.ref a :: argsL).toArray) (hp : pc + 3 = pc') (K : ∀ (v : Option Value) (vm₁ : Vm) (B : Pt), Stand p l e Rm (s.setVm B.U.vm) m args below meth c B.U B.locs B.cells B.slots → s.Since B.U.vm B.U.heap.size → T.heap.size ≤ B.U.heap.size → Post ⟨T.setVm vm₁, locs, cells, slots⟩ (.ref a :: argsL).toArray v B → Runs p e below E (B.U.setTop (mkF m pc' Ls (v.toList ++ st)))) : Runs p e below E (T.setTop (mkF m pc Ls stk)) := by
  subst hp
  obtain ⟨v1, vm1, B1, -, X1, s1, g1, q1, st1⟩ := X.specialBackS hx hy1 hown hlink hinst hcode hy hK (g := mkF m pc Ls stk) rfl hsz (Steps.refl _) (a := a) (argsL := argsL) (rest := st) hlen hst (by show 2 * 0 + _ ≤ _; omega) hd hpre
  exact (K v1 vm1 B1 X1 s1 g1 q1).tr st1
end W

/-- a body's contract, and how a walk shows it -/
abbrev MetN (l : Launch) (Z : State) (y : MethodName) (bytes : ByteArray) (maxL : Nat) (ret : Option FieldType) (ws : List Cond) (rm : Room) (as' : Array Value) (h : Heap) (Q : Option Value → Heap → List Loc → Prop) : Prop :=
  MetFree l y (head1 (Cond.code y bytes maxL ret :: ws) rm) (fun a U => a = as' ∧ Z.Warmed39 U.vm ∧ U.heap = h) (fun _ _ _ _ _ => True) (fun _ U o U' => ∃ v L, o = .returned v ∧ Q v U'.heap L ∧ FrameEnd U o U' L rm.cells rm.slots)
theorem MetN.of {l : Launch} {Z : State} {y : MethodName} {bytes : ByteArray} {maxL : Nat} {ret : Option FieldType} {ws : List Cond} {rm : Room} {as' : Array Value} {h : Heap} {Q : Option Value → Heap → List Loc → Prop} (hp : plainFor y = true)
    (H : ∀ (p : Program) (e : Env) (s : State) (m : MethodId) (below : List Frame) (meth : Method) (c : Code) (s₁ : State), meth.sig.returnType = ret → p.tables.exec = Jvm.exec → c.code = bytes → c.maxLocals = maxL → s.vm.findClass y.cls = some m.cls → meth.name = y.name → meth.locks = false → Z.Warmed39 s.vm → Stand p l e rm s m as' below meth c s₁ [] 0 0 → s₁.heap = h → Runs p e below (EndN s Q rm.cells rm.slots) (s₁.setTop (entryFrame m as' maxL))) :
    MetN l Z y bytes maxL ret ws rm as' h Q := by
  refine MetFree.of_bodySF hp hisR ?_
  intro p e s m args below meth c s₁ Bd hml hP hK
  obtain ⟨rfl, hZ, hh⟩ := hP
  exact H p e s m below meth c s₁ Bd.returns Bd.exec Bd.bytes hml (findClass_of_methodNamed Bd.named) (name_of_methodNamed Bd.named Bd.method).1 Bd.notSynchronized hZ (Stand.of_body Bd) (by rw [← hh, Bd.state]; rfl)
abbrev MetH (l : Launch) (Z : State) (EL : List (String × Nat)) (y : MethodName) (bytes : ByteArray) (maxL : Nat) (ret : Option FieldType) (ws : List Cond) (rm : Room) (as' : Array Value) (h : Heap) (Q : Option Value → Heap → List Loc → (Addr → Prop) → Prop) (sf : List Addr) : Prop :=
  MetFree l y (head1 (Cond.code y bytes maxL ret :: ws) rm) (fun a U => a = as' ∧ Z.Warmed39 U.vm ∧ U.heap = h ∧ CHv Z EL U.vm h ∧ ∀ x ∈ sf, Safe Z EL U.vm h x) (fun _ _ _ _ _ => True) (fun _ U o U' => ∃ v L, o = .returned v ∧ Q v U'.heap L (Safe Z EL U'.vm U'.heap) ∧ CHr Z EL U.vm U.heap U'.vm U'.heap ∧ ReturnedEndW U o U' L rm.cells rm.slots)
theorem MetH.of {l : Launch} {Z : State} {EL : List (String × Nat)} {y : MethodName} {bytes : ByteArray} {maxL : Nat} {ret : Option FieldType} {ws : List Cond} {rm : Room} {as' : Array Value} {h : Heap} {Q : Option Value → Heap → List Loc → (Addr → Prop) → Prop} {sf : List Addr} (hp : plainFor y = true)
    (H : ∀ (p : Program) (e : Env) (s : State) (m : MethodId) (below : List Frame) (meth : Method) (c : Code) (s₁ : State), meth.sig.returnType = ret → p.tables.exec = Jvm.exec → c.code = bytes → c.maxLocals = maxL → s.vm.findClass y.cls = some m.cls → meth.name = y.name → meth.locks = false → Z.Warmed39 s.vm → Stand p l e rm (s.setVm s.vm) m as' below meth c s₁ [] 0 0 → s₁.heap = h → s.heap = h → CHv Z EL s.vm h → (∀ x ∈ sf, Safe Z EL s.vm h x) → s.Since s.vm h.size → CHr Z EL s.vm h s.vm h → Runs p e below (EndH s Z EL Q rm.cells rm.slots) (s₁.setTop (entryFrame m as' maxL))) :
    MetH l Z EL y bytes maxL ret ws rm as' h Q sf := by
  refine MetFree.of_bodySF hp hisR ?_
  intro p e s m args below meth c s₁ Bd hml hP hK
  obtain ⟨rfl, hZ, hh, hH, hsf⟩ := hP
  exact H p e s m below meth c s₁ Bd.returns Bd.exec Bd.bytes hml (findClass_of_methodNamed Bd.named) (name_of_methodNamed Bd.named Bd.method).1 Bd.notSynchronized hZ (Stand.of_body Bd) (by rw [← hh, Bd.state]; rfl) hh hH hsf ((State.WarmedH.refl s).since _) (CHr.refl hH)
end Jvm.RoadKit
namespace Jvm.Pilot.@@N@@
open Jvm Jvm.ClassFile Sem Op Lib Jvm.Free Jvm.Stand Jvm.LawKit Jvm.RoadKit Bundle Jvm.Pilot.@@N@@.Jvm.D
set_option maxRecDepth 65536
set_option maxHeartbeats 40000000
abbrev kc0 : String := "java/lang/String"
abbrev kc1 : String := "java/lang/StringUTF16"
abbrev EL : List (String × Nat) := [("com/example/runnymede/runnymede/UriSyntax", 152), ("com/example/runnymede/runnymede/UriSyntax", 180), ("java/lang/String", 7)]
theorem own_and255 (x : Int32) : ¬ ((x &&& (255 : Int32)).toUInt32.toUInt16.toUInt32.toInt32) < 0 ∧ ¬ (255 : Int32) < ((x &&& (255 : Int32)).toUInt32.toUInt16.toUInt32.toInt32) := by
  have t : ∀ k : Fin 256, ¬ ((Int32.ofNat k.val).toUInt32.toUInt16.toUInt32.toInt32) < 0 ∧ ¬ (255 : Int32) < ((Int32.ofNat k.val).toUInt32.toUInt16.toUInt32.toInt32) := by decide +kernel
  have h : (x &&& 255).toBitVec.toNat < 256 := by
    rw [Int32.toBitVec_and, BitVec.toNat_and]
    exact Nat.lt_succ_of_le Nat.and_le_right
  have e : (x &&& 255) = Int32.ofNat (x &&& 255).toBitVec.toNat := by
    apply Int32.toBitVec_inj.mp
    show _ = BitVec.ofNat 32 _
    rw [BitVec.ofNat_toNat]; simp
  rw [e]
  exact t ⟨_, h⟩
theorem own_lat (x : Int32) : (((((x &&& (255 : Int32)).toUInt32.toUInt16.toUInt32.toInt32).toInt8.toInt32) &&& (255 : Int32)).toUInt32.toUInt16.toUInt32.toInt32) = ((x &&& (255 : Int32)).toUInt32.toUInt16.toUInt32.toInt32) := by
  have t : ∀ k : Fin 256, (((((Int32.ofNat k.val).toUInt32.toUInt16.toUInt32.toInt32).toInt8.toInt32) &&& (255 : Int32)).toUInt32.toUInt16.toUInt32.toInt32) = ((Int32.ofNat k.val).toUInt32.toUInt16.toUInt32.toInt32) := by decide +kernel
  have h : (x &&& 255).toBitVec.toNat < 256 := by
    rw [Int32.toBitVec_and, BitVec.toNat_and]
    exact Nat.lt_succ_of_le Nat.and_le_right
  have e : (x &&& 255) = Int32.ofNat (x &&& 255).toBitVec.toNat := by
    apply Int32.toBitVec_inj.mp
    show _ = BitVec.ofNat 32 _
    rw [BitVec.ofNat_toNat]; simp
  rw [e]
  exact t ⟨_, h⟩
theorem own_ch0 (x : Int32) : ¬ (x.toUInt32.toUInt16.toUInt32.toInt32) < 0 := by
  have q := (c_i2c x).2.1
  rw [Int32.lt_iff_toInt_lt]
  have e0 : (0 : Int32).toInt = 0 := rfl
  omega
theorem own_le127 {x : Int32} (h : ¬ (127 : Int32) < x) : x < (128 : Int32) := by
  rw [Int32.lt_iff_toInt_lt] at h ⊢
  have e1 : (127 : Int32).toInt = 127 := rfl
  have e2 : (128 : Int32).toInt = 128 := rfl
  omega
theorem own_charI {c : Int32} (h : nar .char c = c) : 0 ≤ c.toInt ∧ c.toInt < 65536 := by
  have q := c_i2c c
  rw [show c.toUInt32.toUInt16.toUInt32.toInt32 = c from h] at q
  exact ⟨q.2.1, q.2.2⟩
theorem own_char0 {c : Int32} (h : nar .char c = c) : ¬ c < 0 := by
  have q := own_charI h
  rw [Int32.lt_iff_toInt_lt]
  have e0 : (0 : Int32).toInt = 0 := rfl
  omega
theorem own_low {c k : Int32} (h : nar .char c = c) (h2 : ¬ (255 : Int32) < c) (k0 : ¬ k < 0) (k1 : ¬ (127 : Int32) < k) (q : c.toInt8.toInt32 = k) : c = k := by
  have q1 := own_charI h
  have q2 := c_i2b c
  rw [q] at q2
  rw [Int32.lt_iff_toInt_lt] at h2 k0 k1
  have e0 : (0 : Int32).toInt = 0 := rfl
  have e1 : (255 : Int32).toInt = 255 := rfl
  have e2 : (127 : Int32).toInt = 127 := rfl
  exact Int32.toInt_inj.mp (by omega)
theorem own_utf {c : Int32} (h : nar .char c = c) : ((((((c >>> ((0 : Int32) &&& 31)).toInt8.toInt32) &&& (255 : Int32)) <<< ((0 : Int32) &&& 31)) ||| ((((c >>> ((8 : Int32) &&& 31)).toInt8.toInt32) &&& (255 : Int32)) <<< ((8 : Int32) &&& 31))).toUInt32.toUInt16.toUInt32.toInt32) = c := by
  have q1 := own_charI h
  have a1 := c_ishr c 0 0 (by decide)
  have a2 := c_i2b (c >>> ((0 : Int32) &&& 31))
  have a3 := c_mask ((c >>> ((0 : Int32) &&& 31)).toInt8.toInt32) 255 8 (by decide) (by decide)
  have a4 := c_ishl (((c >>> ((0 : Int32) &&& 31)).toInt8.toInt32) &&& 255) 0 0 (by decide)
  have b1 := c_ishr c 8 8 (by decide)
  have b2 := c_i2b (c >>> ((8 : Int32) &&& 31))
  have b3 := c_mask ((c >>> ((8 : Int32) &&& 31)).toInt8.toInt32) 255 8 (by decide) (by decide)
  have b4 := c_ishl (((c >>> ((8 : Int32) &&& 31)).toInt8.toInt32) &&& 255) 8 8 (by decide)
  have p0 : ((2 ^ 0 : Nat) : Int) = 1 := rfl
  have p8 : ((2 ^ 8 : Nat) : Int) = 256 := rfl
  rw [p0] at a1 a4
  rw [p8] at a3 b1 b3 b4
  obtain ⟨A, hA⟩ : ∃ A, A = (((c >>> ((0 : Int32) &&& 31)).toInt8.toInt32) &&& (255 : Int32)) := ⟨_, rfl⟩
  obtain ⟨B, hB⟩ : ∃ B, B = (((c >>> ((8 : Int32) &&& 31)).toInt8.toInt32) &&& (255 : Int32)) := ⟨_, rfl⟩
  rw [← hA] at a3 a4 ⊢
  rw [← hB] at b3 b4 ⊢
  obtain ⟨A2, hA2⟩ : ∃ A2, A2 = (A <<< ((0 : Int32) &&& 31)) := ⟨_, rfl⟩
  obtain ⟨B2, hB2⟩ : ∃ B2, B2 = (B <<< ((8 : Int32) &&& 31)) := ⟨_, rfl⟩
  rw [← hA2] at a4 ⊢
  rw [← hB2] at b4 ⊢
  have r1 := rng32 A2
  have r2 := rng32 B2
  have r3 := rng32 (A2 ||| B2)
  have cc := c_or' A2 B2 8 (by decide) 256 (by decide)
  have d1 := c_i2c (A2 ||| B2)
  have s1 : A2.toInt = c.toInt % 256 := by omega
  have s2 : B2.toInt = (c.toInt / 256) % 256 * 256 := by omega
  have s3 := cc (by omega) (by omega) (by omega)
  exact Int32.toInt_inj.mp (by omega)
theorem own_utf_t {c : Int32} (h : nar .char c = c) (q : (255 : Int32) < c) : (255 : Int32) < ((((((c >>> ((0 : Int32) &&& 31)).toInt8.toInt32) &&& (255 : Int32)) <<< ((0 : Int32) &&& 31)) ||| ((((c >>> ((8 : Int32) &&& 31)).toInt8.toInt32) &&& (255 : Int32)) <<< ((8 : Int32) &&& 31))).toUInt32.toUInt16.toUInt32.toInt32) := by rw [own_utf h]; exact q
theorem own_utf_f {c : Int32} (h : nar .char c = c) (q : ¬ (255 : Int32) < c) : ¬ (255 : Int32) < ((((((c >>> ((0 : Int32) &&& 31)).toInt8.toInt32) &&& (255 : Int32)) <<< ((0 : Int32) &&& 31)) ||| ((((c >>> ((8 : Int32) &&& 31)).toInt8.toInt32) &&& (255 : Int32)) <<< ((8 : Int32) &&& 31))).toUInt32.toUInt16.toUInt32.toInt32) := by rw [own_utf h]; exact q
theorem own_latx {c : Int32} (h : nar .char c = c) (q : ¬ (255 : Int32) < c) : (((c.toInt8.toInt32) &&& (255 : Int32)).toUInt32.toUInt16.toUInt32.toInt32) = c := by
  have h1 := own_charI h
  have a1 := c_i2b c
  have a2 := c_mask (c.toInt8.toInt32) 255 8 (by decide) (by decide)
  have a3 := c_i2c ((c.toInt8.toInt32) &&& (255 : Int32))
  rw [Int32.lt_iff_toInt_lt] at q
  have e1 : (255 : Int32).toInt = 255 := rfl
  have p8 : ((2 ^ 8 : Nat) : Int) = 256 := rfl
  exact Int32.toInt_inj.mp (by omega)
def gI (l : List Int32) (j : Int32) : Int32 := l.getD j.toNatClampNeg 0
def mI (l : List Int32) : List Value := l.map Value.int
def lowL (l : List Int32) : List Int32 := l.map fun c => (c.toInt8.toInt32)
def utfL : List Int32 → List Int32
  | [] => []
  | c :: l => ((c >>> ((0 : Int32) &&& 31)).toInt8.toInt32) :: ((c >>> ((8 : Int32) &&& 31)).toInt8.toInt32) :: utfL l
def cl4 (n a b c d : Int32) : List Int32 := if n = 0 then [] else if n = 1 then [a] else if n = 2 then [a, b] else if n = 3 then [a, b, c] else [a, b, c, d]
theorem own_gI (l : List Int32) (j : Int32) : (mI l).getD j.toNatClampNeg (.int 0) = .int (gI l j) := by
  unfold gI mI
  generalize j.toNatClampNeg = i
  induction l generalizing i with
  | nil => rfl
  | cons a l ih => cases i with
    | zero => rfl
    | succ i => exact ih i
theorem own_cl4_0 {a b c d : Int32} : cl4 0 a b c d = [] := rfl
theorem own_cl4_1 {a b c d : Int32} : cl4 1 a b c d = [a] := rfl
theorem own_cl4_2 {a b c d : Int32} : cl4 2 a b c d = [a, b] := rfl
theorem own_cl4_3 {a b c d : Int32} : cl4 3 a b c d = [a, b, c] := rfl
theorem own_cl4_4 {a b c d : Int32} : cl4 4 a b c d = [a, b, c, d] := rfl
theorem own_is4 {n : Int32} (h5 : n < 5) (hz : ¬ n < 0) (h0 : ¬ n = 0) (h1 : ¬ n = 1) (h2 : ¬ n = 2) (h3 : ¬ n = 3) : n = 4 := by
  rw [Int32.lt_iff_toInt_lt] at h5 hz
  rw [← Int32.toInt_inj] at h0 h1 h2 h3 ⊢
  have e0 : (0 : Int32).toInt = 0 := rfl
  have e1 : (1 : Int32).toInt = 1 := rfl
  have e2 : (2 : Int32).toInt = 2 := rfl
  have e3 : (3 : Int32).toInt = 3 := rfl
  have e4 : (4 : Int32).toInt = 4 := rfl
  have e5 : (5 : Int32).toInt = 5 := rfl
  omega
theorem own_5 {n : Int32} (h5 : n < 5) (hz : ¬ n < 0) : n = 0 ∨ n = 1 ∨ n = 2 ∨ n = 3 ∨ n = 4 := by
  by_cases h0 : n = 0
  · exact Or.inl h0
  by_cases h1 : n = 1
  · exact Or.inr (Or.inl h1)
  by_cases h2 : n = 2
  · exact Or.inr (Or.inr (Or.inl h2))
  by_cases h3 : n = 3
  · exact Or.inr (Or.inr (Or.inr (Or.inl h3)))
  exact Or.inr (Or.inr (Or.inr (Or.inr (own_is4 h5 hz h0 h1 h2 h3))))
theorem own_shr0 (x : Int32) : x >>> ((0 : Int32) &&& 31) = x := by
  have a1 := c_ishr x 0 0 (by decide)
  exact Int32.toInt_inj.mp (by have e : ((2 ^ 0 : Nat) : Int) = 1 := rfl; omega)
theorem own_shlr {n : Int32} (h5 : n < 5) (hz : ¬ n < 0) : (n <<< ((1 : Int32) &&& 31)) >>> ((1 : Int32) &&& 31) = n := by
  rcases own_5 h5 hz with rfl | rfl | rfl | rfl | rfl <;> decide
theorem own_p4 {p n : Int32} (h5 : n < 5) (pz : ¬ p < 0) (hp : p < n) : p = 0 ∨ p = 1 ∨ p = 2 ∨ p = 3 := by
  rw [Int32.lt_iff_toInt_lt] at h5 pz hp
  simp only [← Int32.toInt_inj]
  have e0 : (0 : Int32).toInt = 0 := rfl
  have e1 : (1 : Int32).toInt = 1 := rfl
  have e2 : (2 : Int32).toInt = 2 := rfl
  have e3 : (3 : Int32).toInt = 3 := rfl
  have e5 : (5 : Int32).toInt = 5 := rfl
  omega
theorem own_shl_in {p n : Int32} (h5 : n < 5) (hz : ¬ n < 0) (pz : ¬ p < 0) (hp : p < n) : (¬ (p <<< ((1 : Int32) &&& 31)) < 0 ∧ (p <<< ((1 : Int32) &&& 31)) < (n <<< ((1 : Int32) &&& 31))) ∧ (¬ ((p <<< ((1 : Int32) &&& 31)) + 1) < 0 ∧ ((p <<< ((1 : Int32) &&& 31)) + 1) < (n <<< ((1 : Int32) &&& 31))) := by
  rcases own_5 h5 hz with rfl | rfl | rfl | rfl | rfl <;> rcases own_p4 h5 pz hp with rfl | rfl | rfl | rfl <;> revert hp <;> decide
theorem own_gIl {l : List Int32} {j : Int32} (i : Nat) (h : j.toNatClampNeg = i) : gI l j = l.getD i 0 := by
  unfold gI
  rw [h]
theorem own_latG {p n a b c d : Int32} (h5 : n < 5) (hz : ¬ n < 0) (pz : ¬ p < 0) (hp : p < n) (ha : nar .char a = a) (hb : nar .char b = b) (hc : nar .char c = c) (hd : nar .char d = d) (h : ∀ x ∈ cl4 n a b c d, ¬ (255 : Int32) < x) :
    (((gI (lowL (cl4 n a b c d)) p) &&& (255 : Int32)).toUInt32.toUInt16.toUInt32.toInt32) = gI [a, b, c, d] p := by
  rcases own_5 h5 hz with rfl | rfl | rfl | rfl | rfl
  · exact absurd hp pz
  · simp only [own_cl4_1, List.forall_mem_cons] at h ⊢
    rcases own_p4 h5 pz hp with rfl | rfl | rfl | rfl
    · rw [own_gIl (l := lowL [a]) (j := 0) 0 (by decide), own_gIl (l := [a, b, c, d]) (j := 0) 0 (by decide)]
      exact own_latx ha h.1
    · exact absurd hp (by decide)
    · exact absurd hp (by decide)
    · exact absurd hp (by decide)
  · simp only [own_cl4_2, List.forall_mem_cons] at h ⊢
    rcases own_p4 h5 pz hp with rfl | rfl | rfl | rfl
    · rw [own_gIl (l := lowL [a, b]) (j := 0) 0 (by decide), own_gIl (l := [a, b, c, d]) (j := 0) 0 (by decide)]
      exact own_latx ha h.1
    · rw [own_gIl (l := lowL [a, b]) (j := 1) 1 (by decide), own_gIl (l := [a, b, c, d]) (j := 1) 1 (by decide)]
      exact own_latx hb h.2.1
    · exact absurd hp (by decide)
    · exact absurd hp (by decide)
  · simp only [own_cl4_3, List.forall_mem_cons] at h ⊢
    rcases own_p4 h5 pz hp with rfl | rfl | rfl | rfl
    · rw [own_gIl (l := lowL [a, b, c]) (j := 0) 0 (by decide), own_gIl (l := [a, b, c, d]) (j := 0) 0 (by decide)]
      exact own_latx ha h.1
    · rw [own_gIl (l := lowL [a, b, c]) (j := 1) 1 (by decide), own_gIl (l := [a, b, c, d]) (j := 1) 1 (by decide)]
      exact own_latx hb h.2.1
    · rw [own_gIl (l := lowL [a, b, c]) (j := 2) 2 (by decide), own_gIl (l := [a, b, c, d]) (j := 2) 2 (by decide)]
      exact own_latx hc h.2.2.1
    · exact absurd hp (by decide)
  · simp only [own_cl4_4, List.forall_mem_cons] at h ⊢
    rcases own_p4 h5 pz hp with rfl | rfl | rfl | rfl
    · rw [own_gIl (l := lowL [a, b, c, d]) (j := 0) 0 (by decide), own_gIl (l := [a, b, c, d]) (j := 0) 0 (by decide)]
      exact own_latx ha h.1
    · rw [own_gIl (l := lowL [a, b, c, d]) (j := 1) 1 (by decide), own_gIl (l := [a, b, c, d]) (j := 1) 1 (by decide)]
      exact own_latx hb h.2.1
    · rw [own_gIl (l := lowL [a, b, c, d]) (j := 2) 2 (by decide), own_gIl (l := [a, b, c, d]) (j := 2) 2 (by decide)]
      exact own_latx hc h.2.2.1
    · rw [own_gIl (l := lowL [a, b, c, d]) (j := 3) 3 (by decide), own_gIl (l := [a, b, c, d]) (j := 3) 3 (by decide)]
      exact own_latx hd h.2.2.2.1
theorem own_utfG {p n a b c d : Int32} (h5 : n < 5) (hz : ¬ n < 0) (pz : ¬ p < 0) (hp : p < n) (ha : nar .char a = a) (hb : nar .char b = b) (hc : nar .char c = c) (hd : nar .char d = d) :
    (((((gI (utfL (cl4 n a b c d)) (p <<< ((1 : Int32) &&& 31))) &&& (255 : Int32)) <<< ((0 : Int32) &&& 31)) ||| (((gI (utfL (cl4 n a b c d)) ((p <<< ((1 : Int32) &&& 31)) + (1 : Int32))) &&& (255 : Int32)) <<< ((8 : Int32) &&& 31))).toUInt32.toUInt16.toUInt32.toInt32) = gI [a, b, c, d] p := by
  rcases own_5 h5 hz with rfl | rfl | rfl | rfl | rfl
  · exact absurd hp pz
  · simp only [own_cl4_1]
    rcases own_p4 h5 pz hp with rfl | rfl | rfl | rfl
    · rw [own_gIl (l := utfL [a]) (j := (0 : Int32) <<< ((1 : Int32) &&& 31)) 0 (by decide), own_gIl (l := utfL [a]) (j := ((0 : Int32) <<< ((1 : Int32) &&& 31)) + (1 : Int32)) 1 (by decide), own_gIl (l := [a, b, c, d]) (j := 0) 0 (by decide)]
      exact own_utf ha
    · exact absurd hp (by decide)
    · exact absurd hp (by decide)
    · exact absurd hp (by decide)
  · simp only [own_cl4_2]
    rcases own_p4 h5 pz hp with rfl | rfl | rfl | rfl
    · rw [own_gIl (l := utfL [a, b]) (j := (0 : Int32) <<< ((1 : Int32) &&& 31)) 0 (by decide), own_gIl (l := utfL [a, b]) (j := ((0 : Int32) <<< ((1 : Int32) &&& 31)) + (1 : Int32)) 1 (by decide), own_gIl (l := [a, b, c, d]) (j := 0) 0 (by decide)]
      exact own_utf ha
    · rw [own_gIl (l := utfL [a, b]) (j := (1 : Int32) <<< ((1 : Int32) &&& 31)) 2 (by decide), own_gIl (l := utfL [a, b]) (j := ((1 : Int32) <<< ((1 : Int32) &&& 31)) + (1 : Int32)) 3 (by decide), own_gIl (l := [a, b, c, d]) (j := 1) 1 (by decide)]
      exact own_utf hb
    · exact absurd hp (by decide)
    · exact absurd hp (by decide)
  · simp only [own_cl4_3]
    rcases own_p4 h5 pz hp with rfl | rfl | rfl | rfl
    · rw [own_gIl (l := utfL [a, b, c]) (j := (0 : Int32) <<< ((1 : Int32) &&& 31)) 0 (by decide), own_gIl (l := utfL [a, b, c]) (j := ((0 : Int32) <<< ((1 : Int32) &&& 31)) + (1 : Int32)) 1 (by decide), own_gIl (l := [a, b, c, d]) (j := 0) 0 (by decide)]
      exact own_utf ha
    · rw [own_gIl (l := utfL [a, b, c]) (j := (1 : Int32) <<< ((1 : Int32) &&& 31)) 2 (by decide), own_gIl (l := utfL [a, b, c]) (j := ((1 : Int32) <<< ((1 : Int32) &&& 31)) + (1 : Int32)) 3 (by decide), own_gIl (l := [a, b, c, d]) (j := 1) 1 (by decide)]
      exact own_utf hb
    · rw [own_gIl (l := utfL [a, b, c]) (j := (2 : Int32) <<< ((1 : Int32) &&& 31)) 4 (by decide), own_gIl (l := utfL [a, b, c]) (j := ((2 : Int32) <<< ((1 : Int32) &&& 31)) + (1 : Int32)) 5 (by decide), own_gIl (l := [a, b, c, d]) (j := 2) 2 (by decide)]
      exact own_utf hc
    · exact absurd hp (by decide)
  · simp only [own_cl4_4]
    rcases own_p4 h5 pz hp with rfl | rfl | rfl | rfl
    · rw [own_gIl (l := utfL [a, b, c, d]) (j := (0 : Int32) <<< ((1 : Int32) &&& 31)) 0 (by decide), own_gIl (l := utfL [a, b, c, d]) (j := ((0 : Int32) <<< ((1 : Int32) &&& 31)) + (1 : Int32)) 1 (by decide), own_gIl (l := [a, b, c, d]) (j := 0) 0 (by decide)]
      exact own_utf ha
    · rw [own_gIl (l := utfL [a, b, c, d]) (j := (1 : Int32) <<< ((1 : Int32) &&& 31)) 2 (by decide), own_gIl (l := utfL [a, b, c, d]) (j := ((1 : Int32) <<< ((1 : Int32) &&& 31)) + (1 : Int32)) 3 (by decide), own_gIl (l := [a, b, c, d]) (j := 1) 1 (by decide)]
      exact own_utf hb
    · rw [own_gIl (l := utfL [a, b, c, d]) (j := (2 : Int32) <<< ((1 : Int32) &&& 31)) 4 (by decide), own_gIl (l := utfL [a, b, c, d]) (j := ((2 : Int32) <<< ((1 : Int32) &&& 31)) + (1 : Int32)) 5 (by decide), own_gIl (l := [a, b, c, d]) (j := 2) 2 (by decide)]
      exact own_utf hc
    · rw [own_gIl (l := utfL [a, b, c, d]) (j := (3 : Int32) <<< ((1 : Int32) &&& 31)) 6 (by decide), own_gIl (l := utfL [a, b, c, d]) (j := ((3 : Int32) <<< ((1 : Int32) &&& 31)) + (1 : Int32)) 7 (by decide), own_gIl (l := [a, b, c, d]) (j := 3) 3 (by decide)]
      exact own_utf hd
theorem own_uj1 {j a : Int32} (pz : ¬ j < 0) (hp : j < 1) (ha : nar .char a = a) : (((((gI [((a >>> ((0 : Int32) &&& 31)).toInt8.toInt32), ((a >>> ((8 : Int32) &&& 31)).toInt8.toInt32)] (j <<< ((1 : Int32) &&& 31))) &&& (255 : Int32)) <<< ((0 : Int32) &&& 31)) ||| (((gI [((a >>> ((0 : Int32) &&& 31)).toInt8.toInt32), ((a >>> ((8 : Int32) &&& 31)).toInt8.toInt32)] ((j <<< ((1 : Int32) &&& 31)) + (1 : Int32))) &&& (255 : Int32)) <<< ((8 : Int32) &&& 31))).toUInt32.toUInt16.toUInt32.toInt32) = gI [a, (0 : Int32), (0 : Int32), (0 : Int32)] j := by
  rcases own_p4 (n := 1) (by decide) pz hp with rfl | rfl | rfl | rfl
  · rw [own_gIl (l := [((a >>> ((0 : Int32) &&& 31)).toInt8.toInt32), ((a >>> ((8 : Int32) &&& 31)).toInt8.toInt32)]) (j := (0 : Int32) <<< ((1 : Int32) &&& 31)) 0 (by decide), own_gIl (l := [((a >>> ((0 : Int32) &&& 31)).toInt8.toInt32), ((a >>> ((8 : Int32) &&& 31)).toInt8.toInt32)]) (j := ((0 : Int32) <<< ((1 : Int32) &&& 31)) + (1 : Int32)) 1 (by decide), own_gIl (l := [a, (0 : Int32), (0 : Int32), (0 : Int32)]) (j := 0) 0 (by decide)]
    exact own_utf ha
  · exact absurd hp (by decide)
  · exact absurd hp (by decide)
  · exact absurd hp (by decide)
theorem own_or1 {j a : Int32} (pz : ¬ j < 0) (hp : j < 1) (h : (255 : Int32) < (gI [a, (0 : Int32), (0 : Int32), (0 : Int32)] j)) : (255 : Int32) < a := by
  rcases own_p4 (n := 1) (by decide) pz hp with rfl | rfl | rfl | rfl <;> first | exact absurd hp (by decide) | exact h
theorem own_uj2 {j a b : Int32} (pz : ¬ j < 0) (hp : j < 2) (ha : nar .char a = a) (hb : nar .char b = b) : (((((gI [((a >>> ((0 : Int32) &&& 31)).toInt8.toInt32), ((a >>> ((8 : Int32) &&& 31)).toInt8.toInt32), ((b >>> ((0 : Int32) &&& 31)).toInt8.toInt32), ((b >>> ((8 : Int32) &&& 31)).toInt8.toInt32)] (j <<< ((1 : Int32) &&& 31))) &&& (255 : Int32)) <<< ((0 : Int32) &&& 31)) ||| (((gI [((a >>> ((0 : Int32) &&& 31)).toInt8.toInt32), ((a >>> ((8 : Int32) &&& 31)).toInt8.toInt32), ((b >>> ((0 : Int32) &&& 31)).toInt8.toInt32), ((b >>> ((8 : Int32) &&& 31)).toInt8.toInt32)] ((j <<< ((1 : Int32) &&& 31)) + (1 : Int32))) &&& (255 : Int32)) <<< ((8 : Int32) &&& 31))).toUInt32.toUInt16.toUInt32.toInt32) = gI [a, b, (0 : Int32), (0 : Int32)] j := by
  rcases own_p4 (n := 2) (by decide) pz hp with rfl | rfl | rfl | rfl
  · rw [own_gIl (l := [((a >>> ((0 : Int32) &&& 31)).toInt8.toInt32), ((a >>> ((8 : Int32) &&& 31)).toInt8.toInt32), ((b >>> ((0 : Int32) &&& 31)).toInt8.toInt32), ((b >>> ((8 : Int32) &&& 31)).toInt8.toInt32)]) (j := (0 : Int32) <<< ((1 : Int32) &&& 31)) 0 (by decide), own_gIl (l := [((a >>> ((0 : Int32) &&& 31)).toInt8.toInt32), ((a >>> ((8 : Int32) &&& 31)).toInt8.toInt32), ((b >>> ((0 : Int32) &&& 31)).toInt8.toInt32), ((b >>> ((8 : Int32) &&& 31)).toInt8.toInt32)]) (j := ((0 : Int32) <<< ((1 : Int32) &&& 31)) + (1 : Int32)) 1 (by decide), own_gIl (l := [a, b, (0 : Int32), (0 : Int32)]) (j := 0) 0 (by decide)]
    exact own_utf ha
  · rw [own_gIl (l := [((a >>> ((0 : Int32) &&& 31)).toInt8.toInt32), ((a >>> ((8 : Int32) &&& 31)).toInt8.toInt32), ((b >>> ((0 : Int32) &&& 31)).toInt8.toInt32), ((b >>> ((8 : Int32) &&& 31)).toInt8.toInt32)]) (j := (1 : Int32) <<< ((1 : Int32) &&& 31)) 2 (by decide), own_gIl (l := [((a >>> ((0 : Int32) &&& 31)).toInt8.toInt32), ((a >>> ((8 : Int32) &&& 31)).toInt8.toInt32), ((b >>> ((0 : Int32) &&& 31)).toInt8.toInt32), ((b >>> ((8 : Int32) &&& 31)).toInt8.toInt32)]) (j := ((1 : Int32) <<< ((1 : Int32) &&& 31)) + (1 : Int32)) 3 (by decide), own_gIl (l := [a, b, (0 : Int32), (0 : Int32)]) (j := 1) 1 (by decide)]
    exact own_utf hb
  · exact absurd hp (by decide)
  · exact absurd hp (by decide)
theorem own_or2 {j a b : Int32} (pz : ¬ j < 0) (hp : j < 2) (h : (255 : Int32) < (gI [a, b, (0 : Int32), (0 : Int32)] j)) : (255 : Int32) < a ∨ (255 : Int32) < b := by
  rcases own_p4 (n := 2) (by decide) pz hp with rfl | rfl | rfl | rfl <;> first | exact absurd hp (by decide) | exact Or.inl h | exact Or.inr (h)
theorem own_uj3 {j a b c : Int32} (pz : ¬ j < 0) (hp : j < 3) (ha : nar .char a = a) (hb : nar .char b = b) (hc : nar .char c = c) : (((((gI [((a >>> ((0 : Int32) &&& 31)).toInt8.toInt32), ((a >>> ((8 : Int32) &&& 31)).toInt8.toInt32), ((b >>> ((0 : Int32) &&& 31)).toInt8.toInt32), ((b >>> ((8 : Int32) &&& 31)).toInt8.toInt32), ((c >>> ((0 : Int32) &&& 31)).toInt8.toInt32), ((c >>> ((8 : Int32) &&& 31)).toInt8.toInt32)] (j <<< ((1 : Int32) &&& 31))) &&& (255 : Int32)) <<< ((0 : Int32) &&& 31)) ||| (((gI [((a >>> ((0 : Int32) &&& 31)).toInt8.toInt32), ((a >>> ((8 : Int32) &&& 31)).toInt8.toInt32), ((b >>> ((0 : Int32) &&& 31)).toInt8.toInt32), ((b >>> ((8 : Int32) &&& 31)).toInt8.toInt32), ((c >>> ((0 : Int32) &&& 31)).toInt8.toInt32), ((c >>> ((8 : Int32) &&& 31)).toInt8.toInt32)] ((j <<< ((1 : Int32) &&& 31)) + (1 : Int32))) &&& (255 : Int32)) <<< ((8 : Int32) &&& 31))).toUInt32.toUInt16.toUInt32.toInt32) = gI [a, b, c, (0 : Int32)] j := by
  rcases own_p4 (n := 3) (by decide) pz hp with rfl | rfl | rfl | rfl
  · rw [own_gIl (l := [((a >>> ((0 : Int32) &&& 31)).toInt8.toInt32), ((a >>> ((8 : Int32) &&& 31)).toInt8.toInt32), ((b >>> ((0 : Int32) &&& 31)).toInt8.toInt32), ((b >>> ((8 : Int32) &&& 31)).toInt8.toInt32), ((c >>> ((0 : Int32) &&& 31)).toInt8.toInt32), ((c >>> ((8 : Int32) &&& 31)).toInt8.toInt32)]) (j := (0 : Int32) <<< ((1 : Int32) &&& 31)) 0 (by decide), own_gIl (l := [((a >>> ((0 : Int32) &&& 31)).toInt8.toInt32), ((a >>> ((8 : Int32) &&& 31)).toInt8.toInt32), ((b >>> ((0 : Int32) &&& 31)).toInt8.toInt32), ((b >>> ((8 : Int32) &&& 31)).toInt8.toInt32), ((c >>> ((0 : Int32) &&& 31)).toInt8.toInt32), ((c >>> ((8 : Int32) &&& 31)).toInt8.toInt32)]) (j := ((0 : Int32) <<< ((1 : Int32) &&& 31)) + (1 : Int32)) 1 (by decide), own_gIl (l := [a, b, c, (0 : Int32)]) (j := 0) 0 (by decide)]
    exact own_utf ha
  · rw [own_gIl (l := [((a >>> ((0 : Int32) &&& 31)).toInt8.toInt32), ((a >>> ((8 : Int32) &&& 31)).toInt8.toInt32), ((b >>> ((0 : Int32) &&& 31)).toInt8.toInt32), ((b >>> ((8 : Int32) &&& 31)).toInt8.toInt32), ((c >>> ((0 : Int32) &&& 31)).toInt8.toInt32), ((c >>> ((8 : Int32) &&& 31)).toInt8.toInt32)]) (j := (1 : Int32) <<< ((1 : Int32) &&& 31)) 2 (by decide), own_gIl (l := [((a >>> ((0 : Int32) &&& 31)).toInt8.toInt32), ((a >>> ((8 : Int32) &&& 31)).toInt8.toInt32), ((b >>> ((0 : Int32) &&& 31)).toInt8.toInt32), ((b >>> ((8 : Int32) &&& 31)).toInt8.toInt32), ((c >>> ((0 : Int32) &&& 31)).toInt8.toInt32), ((c >>> ((8 : Int32) &&& 31)).toInt8.toInt32)]) (j := ((1 : Int32) <<< ((1 : Int32) &&& 31)) + (1 : Int32)) 3 (by decide), own_gIl (l := [a, b, c, (0 : Int32)]) (j := 1) 1 (by decide)]
    exact own_utf hb
  · rw [own_gIl (l := [((a >>> ((0 : Int32) &&& 31)).toInt8.toInt32), ((a >>> ((8 : Int32) &&& 31)).toInt8.toInt32), ((b >>> ((0 : Int32) &&& 31)).toInt8.toInt32), ((b >>> ((8 : Int32) &&& 31)).toInt8.toInt32), ((c >>> ((0 : Int32) &&& 31)).toInt8.toInt32), ((c >>> ((8 : Int32) &&& 31)).toInt8.toInt32)]) (j := (2 : Int32) <<< ((1 : Int32) &&& 31)) 4 (by decide), own_gIl (l := [((a >>> ((0 : Int32) &&& 31)).toInt8.toInt32), ((a >>> ((8 : Int32) &&& 31)).toInt8.toInt32), ((b >>> ((0 : Int32) &&& 31)).toInt8.toInt32), ((b >>> ((8 : Int32) &&& 31)).toInt8.toInt32), ((c >>> ((0 : Int32) &&& 31)).toInt8.toInt32), ((c >>> ((8 : Int32) &&& 31)).toInt8.toInt32)]) (j := ((2 : Int32) <<< ((1 : Int32) &&& 31)) + (1 : Int32)) 5 (by decide), own_gIl (l := [a, b, c, (0 : Int32)]) (j := 2) 2 (by decide)]
    exact own_utf hc
  · exact absurd hp (by decide)
theorem own_or3 {j a b c : Int32} (pz : ¬ j < 0) (hp : j < 3) (h : (255 : Int32) < (gI [a, b, c, (0 : Int32)] j)) : (255 : Int32) < a ∨ (255 : Int32) < b ∨ (255 : Int32) < c := by
  rcases own_p4 (n := 3) (by decide) pz hp with rfl | rfl | rfl | rfl <;> first | exact absurd hp (by decide) | exact Or.inl h | exact Or.inr (Or.inl h) | exact Or.inr (Or.inr (h))
theorem own_uj4 {j a b c d : Int32} (pz : ¬ j < 0) (hp : j < 4) (ha : nar .char a = a) (hb : nar .char b = b) (hc : nar .char c = c) (hd : nar .char d = d) : (((((gI [((a >>> ((0 : Int32) &&& 31)).toInt8.toInt32), ((a >>> ((8 : Int32) &&& 31)).toInt8.toInt32), ((b >>> ((0 : Int32) &&& 31)).toInt8.toInt32), ((b >>> ((8 : Int32) &&& 31)).toInt8.toInt32), ((c >>> ((0 : Int32) &&& 31)).toInt8.toInt32), ((c >>> ((8 : Int32) &&& 31)).toInt8.toInt32), ((d >>> ((0 : Int32) &&& 31)).toInt8.toInt32), ((d >>> ((8 : Int32) &&& 31)).toInt8.toInt32)] (j <<< ((1 : Int32) &&& 31))) &&& (255 : Int32)) <<< ((0 : Int32) &&& 31)) ||| (((gI [((a >>> ((0 : Int32) &&& 31)).toInt8.toInt32), ((a >>> ((8 : Int32) &&& 31)).toInt8.toInt32), ((b >>> ((0 : Int32) &&& 31)).toInt8.toInt32), ((b >>> ((8 : Int32) &&& 31)).toInt8.toInt32), ((c >>> ((0 : Int32) &&& 31)).toInt8.toInt32), ((c >>> ((8 : Int32) &&& 31)).toInt8.toInt32), ((d >>> ((0 : Int32) &&& 31)).toInt8.toInt32), ((d >>> ((8 : Int32) &&& 31)).toInt8.toInt32)] ((j <<< ((1 : Int32) &&& 31)) + (1 : Int32))) &&& (255 : Int32)) <<< ((8 : Int32) &&& 31))).toUInt32.toUInt16.toUInt32.toInt32) = gI [a, b, c, d] j := by
  rcases own_p4 (n := 4) (by decide) pz hp with rfl | rfl | rfl | rfl
  · rw [own_gIl (l := [((a >>> ((0 : Int32) &&& 31)).toInt8.toInt32), ((a >>> ((8 : Int32) &&& 31)).toInt8.toInt32), ((b >>> ((0 : Int32) &&& 31)).toInt8.toInt32), ((b >>> ((8 : Int32) &&& 31)).toInt8.toInt32), ((c >>> ((0 : Int32) &&& 31)).toInt8.toInt32), ((c >>> ((8 : Int32) &&& 31)).toInt8.toInt32), ((d >>> ((0 : Int32) &&& 31)).toInt8.toInt32), ((d >>> ((8 : Int32) &&& 31)).toInt8.toInt32)]) (j := (0 : Int32) <<< ((1 : Int32) &&& 31)) 0 (by decide), own_gIl (l := [((a >>> ((0 : Int32) &&& 31)).toInt8.toInt32), ((a >>> ((8 : Int32) &&& 31)).toInt8.toInt32), ((b >>> ((0 : Int32) &&& 31)).toInt8.toInt32), ((b >>> ((8 : Int32) &&& 31)).toInt8.toInt32), ((c >>> ((0 : Int32) &&& 31)).toInt8.toInt32), ((c >>> ((8 : Int32) &&& 31)).toInt8.toInt32), ((d >>> ((0 : Int32) &&& 31)).toInt8.toInt32), ((d >>> ((8 : Int32) &&& 31)).toInt8.toInt32)]) (j := ((0 : Int32) <<< ((1 : Int32) &&& 31)) + (1 : Int32)) 1 (by decide), own_gIl (l := [a, b, c, d]) (j := 0) 0 (by decide)]
    exact own_utf ha
  · rw [own_gIl (l := [((a >>> ((0 : Int32) &&& 31)).toInt8.toInt32), ((a >>> ((8 : Int32) &&& 31)).toInt8.toInt32), ((b >>> ((0 : Int32) &&& 31)).toInt8.toInt32), ((b >>> ((8 : Int32) &&& 31)).toInt8.toInt32), ((c >>> ((0 : Int32) &&& 31)).toInt8.toInt32), ((c >>> ((8 : Int32) &&& 31)).toInt8.toInt32), ((d >>> ((0 : Int32) &&& 31)).toInt8.toInt32), ((d >>> ((8 : Int32) &&& 31)).toInt8.toInt32)]) (j := (1 : Int32) <<< ((1 : Int32) &&& 31)) 2 (by decide), own_gIl (l := [((a >>> ((0 : Int32) &&& 31)).toInt8.toInt32), ((a >>> ((8 : Int32) &&& 31)).toInt8.toInt32), ((b >>> ((0 : Int32) &&& 31)).toInt8.toInt32), ((b >>> ((8 : Int32) &&& 31)).toInt8.toInt32), ((c >>> ((0 : Int32) &&& 31)).toInt8.toInt32), ((c >>> ((8 : Int32) &&& 31)).toInt8.toInt32), ((d >>> ((0 : Int32) &&& 31)).toInt8.toInt32), ((d >>> ((8 : Int32) &&& 31)).toInt8.toInt32)]) (j := ((1 : Int32) <<< ((1 : Int32) &&& 31)) + (1 : Int32)) 3 (by decide), own_gIl (l := [a, b, c, d]) (j := 1) 1 (by decide)]
    exact own_utf hb
  · rw [own_gIl (l := [((a >>> ((0 : Int32) &&& 31)).toInt8.toInt32), ((a >>> ((8 : Int32) &&& 31)).toInt8.toInt32), ((b >>> ((0 : Int32) &&& 31)).toInt8.toInt32), ((b >>> ((8 : Int32) &&& 31)).toInt8.toInt32), ((c >>> ((0 : Int32) &&& 31)).toInt8.toInt32), ((c >>> ((8 : Int32) &&& 31)).toInt8.toInt32), ((d >>> ((0 : Int32) &&& 31)).toInt8.toInt32), ((d >>> ((8 : Int32) &&& 31)).toInt8.toInt32)]) (j := (2 : Int32) <<< ((1 : Int32) &&& 31)) 4 (by decide), own_gIl (l := [((a >>> ((0 : Int32) &&& 31)).toInt8.toInt32), ((a >>> ((8 : Int32) &&& 31)).toInt8.toInt32), ((b >>> ((0 : Int32) &&& 31)).toInt8.toInt32), ((b >>> ((8 : Int32) &&& 31)).toInt8.toInt32), ((c >>> ((0 : Int32) &&& 31)).toInt8.toInt32), ((c >>> ((8 : Int32) &&& 31)).toInt8.toInt32), ((d >>> ((0 : Int32) &&& 31)).toInt8.toInt32), ((d >>> ((8 : Int32) &&& 31)).toInt8.toInt32)]) (j := ((2 : Int32) <<< ((1 : Int32) &&& 31)) + (1 : Int32)) 5 (by decide), own_gIl (l := [a, b, c, d]) (j := 2) 2 (by decide)]
    exact own_utf hc
  · rw [own_gIl (l := [((a >>> ((0 : Int32) &&& 31)).toInt8.toInt32), ((a >>> ((8 : Int32) &&& 31)).toInt8.toInt32), ((b >>> ((0 : Int32) &&& 31)).toInt8.toInt32), ((b >>> ((8 : Int32) &&& 31)).toInt8.toInt32), ((c >>> ((0 : Int32) &&& 31)).toInt8.toInt32), ((c >>> ((8 : Int32) &&& 31)).toInt8.toInt32), ((d >>> ((0 : Int32) &&& 31)).toInt8.toInt32), ((d >>> ((8 : Int32) &&& 31)).toInt8.toInt32)]) (j := (3 : Int32) <<< ((1 : Int32) &&& 31)) 6 (by decide), own_gIl (l := [((a >>> ((0 : Int32) &&& 31)).toInt8.toInt32), ((a >>> ((8 : Int32) &&& 31)).toInt8.toInt32), ((b >>> ((0 : Int32) &&& 31)).toInt8.toInt32), ((b >>> ((8 : Int32) &&& 31)).toInt8.toInt32), ((c >>> ((0 : Int32) &&& 31)).toInt8.toInt32), ((c >>> ((8 : Int32) &&& 31)).toInt8.toInt32), ((d >>> ((0 : Int32) &&& 31)).toInt8.toInt32), ((d >>> ((8 : Int32) &&& 31)).toInt8.toInt32)]) (j := ((3 : Int32) <<< ((1 : Int32) &&& 31)) + (1 : Int32)) 7 (by decide), own_gIl (l := [a, b, c, d]) (j := 3) 3 (by decide)]
    exact own_utf hd
theorem own_or4 {j a b c d : Int32} (pz : ¬ j < 0) (hp : j < 4) (h : (255 : Int32) < (gI [a, b, c, d] j)) : (255 : Int32) < a ∨ (255 : Int32) < b ∨ (255 : Int32) < c ∨ (255 : Int32) < d := by
  rcases own_p4 (n := 4) (by decide) pz hp with rfl | rfl | rfl | rfl <;> first | exact absurd hp (by decide) | exact Or.inl h | exact Or.inr (Or.inl h) | exact Or.inr (Or.inr (Or.inl h)) | exact Or.inr (Or.inr (Or.inr (h)))
abbrev DC (b : ByteArray) (p : Nat) (i : Instr) (n : Nat) : Prop := ∀ {c : Code}, c.code = b → decode c.code p = .ok (i, n)
abbrev WD (w : Jvm.Cond) : Prop := ∀ {Z : State} {a0 : Array Value}, (∀ d ∈ tables_1, d.before a0 Z = true) → w.before a0 Z = true
theorem own_wd (i : Nat) {w : Jvm.Cond} (h : tables_1[i]? = some w) {Z : State} {a0 : Array Value} (hw : ∀ d ∈ tables_1, d.before a0 Z = true) : w.before a0 Z = true := hw _ (List.mem_of_getElem? h)
abbrev yn_1 : MethodName := ⟨"com/example/runnymede/runnymede/UriSyntaxIsDotSegmentPinLaw", "pick", "(I)C"⟩
abbrev yn_2 : MethodName := ⟨"java/lang/String", "<init>", "([C)V"⟩
abbrev yn_3 : MethodName := ⟨"java/lang/String", "<init>", "([CIILjava/lang/Void;)V"⟩
abbrev yn_5 : MethodName := ⟨"com/example/runnymede/runnymede/UriSyntax", "isDotSegment", "(Ljava/lang/String;)Z"⟩
abbrev yn_6 : MethodName := ⟨"java/lang/String", "equals", "(Ljava/lang/Object;)Z"⟩
abbrev yn_7 : MethodName := ⟨"java/lang/StringLatin1", "equals", "([B[B)Z"⟩
abbrev yn_8 : MethodName := ⟨"java/lang/StringUTF16", "compress", "([CII)[B"⟩
abbrev yn_9 : MethodName := ⟨"java/lang/StringUTF16", "compress", "([CI[BII)I"⟩
abbrev yn_10 : MethodName := ⟨"java/lang/StringUTF16", "coderFromArrayLen", "([BI)B"⟩
abbrev yn_11 : MethodName := ⟨"java/lang/StringUTF16", "toBytes", "([CII)[B"⟩
abbrev yn_12 : MethodName := ⟨"java/lang/StringUTF16", "newBytesFor", "(I)[B"⟩
abbrev yn_13 : MethodName := ⟨"java/lang/StringUTF16", "newBytesLength", "(I)I"⟩
abbrev yn_14 : MethodName := ⟨"java/lang/StringUTF16", "putChar", "([BII)V"⟩
abbrev yn_15 : MethodName := ⟨"java/lang/StringUTF16", "getChar", "([BI)C"⟩
theorem d3_0 : DC jdk_42_method_149_code 0 (.aload_n 0) 1 := fun h => hb h (by decide +kernel)
theorem d3_1 : DC jdk_42_method_149_code 1 (.invokespecial 1) 3 := fun h => hb h (by decide +kernel)
theorem d3_4 : DC jdk_42_method_149_code 4 (.iload_n 3) 1 := fun h => hb h (by decide +kernel)
theorem d3_5 : DC jdk_42_method_149_code 5 (.ifCond .ne 22) 3 := fun h => hb h (by decide +kernel)
theorem d3_8 : DC jdk_42_method_149_code 8 (.aload_n 0) 1 := fun h => hb h (by decide +kernel)
theorem d3_9 : DC jdk_42_method_149_code 9 (.ldc 7) 2 := fun h => hb h (by decide +kernel)
theorem d3_11 : DC jdk_42_method_149_code 11 (.getfield 9) 3 := fun h => hb h (by decide +kernel)
theorem d3_14 : DC jdk_42_method_149_code 14 (.putfield 9) 3 := fun h => hb h (by decide +kernel)
theorem d3_17 : DC jdk_42_method_149_code 17 (.aload_n 0) 1 := fun h => hb h (by decide +kernel)
theorem d3_18 : DC jdk_42_method_149_code 18 (.ldc 7) 2 := fun h => hb h (by decide +kernel)
theorem d3_20 : DC jdk_42_method_149_code 20 (.getfield 15) 3 := fun h => hb h (by decide +kernel)
theorem d3_23 : DC jdk_42_method_149_code 23 (.putfield 15) 3 := fun h => hb h (by decide +kernel)
theorem d3_26 : DC jdk_42_method_149_code 26 (.return_) 1 := fun h => hb h (by decide +kernel)
theorem d3_27 : DC jdk_42_method_149_code 27 (.getstatic 38) 3 := fun h => hb h (by decide +kernel)
theorem d3_30 : DC jdk_42_method_149_code 30 (.ifCond .eq 28) 3 := fun h => hb h (by decide +kernel)
theorem d3_33 : DC jdk_42_method_149_code 33 (.aload_n 1) 1 := fun h => hb h (by decide +kernel)
theorem d3_34 : DC jdk_42_method_149_code 34 (.iload_n 2) 1 := fun h => hb h (by decide +kernel)
theorem d3_35 : DC jdk_42_method_149_code 35 (.iload_n 3) 1 := fun h => hb h (by decide +kernel)
theorem d3_36 : DC jdk_42_method_149_code 36 (.invokestatic 177) 3 := fun h => hb h (by decide +kernel)
theorem d3_39 : DC jdk_42_method_149_code 39 (.astore 5) 2 := fun h => hb h (by decide +kernel)
theorem d3_41 : DC jdk_42_method_149_code 41 (.aload_n 0) 1 := fun h => hb h (by decide +kernel)
theorem d3_42 : DC jdk_42_method_149_code 42 (.aload 5) 2 := fun h => hb h (by decide +kernel)
theorem d3_44 : DC jdk_42_method_149_code 44 (.iload_n 3) 1 := fun h => hb h (by decide +kernel)
theorem d3_45 : DC jdk_42_method_149_code 45 (.invokestatic 47) 3 := fun h => hb h (by decide +kernel)
theorem d3_48 : DC jdk_42_method_149_code 48 (.putfield 15) 3 := fun h => hb h (by decide +kernel)
theorem d3_51 : DC jdk_42_method_149_code 51 (.aload_n 0) 1 := fun h => hb h (by decide +kernel)
theorem d3_52 : DC jdk_42_method_149_code 52 (.aload 5) 2 := fun h => hb h (by decide +kernel)
theorem d3_54 : DC jdk_42_method_149_code 54 (.putfield 9) 3 := fun h => hb h (by decide +kernel)
theorem d3_57 : DC jdk_42_method_149_code 57 (.return_) 1 := fun h => hb h (by decide +kernel)
theorem d2_0 : DC jdk_42_method_3_code 0 (.aload_n 0) 1 := fun h => hb h (by decide +kernel)
theorem d2_1 : DC jdk_42_method_3_code 1 (.aload_n 1) 1 := fun h => hb h (by decide +kernel)
theorem d2_2 : DC jdk_42_method_3_code 2 (.iconst 0) 1 := fun h => hb h (by decide +kernel)
theorem d2_3 : DC jdk_42_method_3_code 3 (.aload_n 1) 1 := fun h => hb h (by decide +kernel)
theorem d2_4 : DC jdk_42_method_3_code 4 (.arraylength) 1 := fun h => hb h (by decide +kernel)
theorem d2_5 : DC jdk_42_method_3_code 5 (.aconst_null) 1 := fun h => hb h (by decide +kernel)
theorem d2_6 : DC jdk_42_method_3_code 6 (.invokespecial 27) 3 := fun h => hb h (by decide +kernel)
theorem d2_9 : DC jdk_42_method_3_code 9 (.return_) 1 := fun h => hb h (by decide +kernel)
theorem d6_0 : DC jdk_42_method_66_code 0 (.aload_n 0) 1 := fun h => hb h (by decide +kernel)
theorem d6_1 : DC jdk_42_method_66_code 1 (.aload_n 1) 1 := fun h => hb h (by decide +kernel)
theorem d6_2 : DC jdk_42_method_66_code 2 (.if_acmp .ne 5) 3 := fun h => hb h (by decide +kernel)
theorem d6_7 : DC jdk_42_method_66_code 7 (.aload_n 1) 1 := fun h => hb h (by decide +kernel)
theorem d6_8 : DC jdk_42_method_66_code 8 (.instanceof 10) 3 := fun h => hb h (by decide +kernel)
theorem d6_11 : DC jdk_42_method_66_code 11 (.ifCond .eq 43) 3 := fun h => hb h (by decide +kernel)
theorem d6_14 : DC jdk_42_method_66_code 14 (.aload_n 1) 1 := fun h => hb h (by decide +kernel)
theorem d6_15 : DC jdk_42_method_66_code 15 (.checkcast 10) 3 := fun h => hb h (by decide +kernel)
theorem d6_18 : DC jdk_42_method_66_code 18 (.astore_n 2) 1 := fun h => hb h (by decide +kernel)
theorem d6_19 : DC jdk_42_method_66_code 19 (.getstatic 38) 3 := fun h => hb h (by decide +kernel)
theorem d6_22 : DC jdk_42_method_66_code 22 (.ifCond .eq 14) 3 := fun h => hb h (by decide +kernel)
theorem d6_25 : DC jdk_42_method_66_code 25 (.aload_n 0) 1 := fun h => hb h (by decide +kernel)
theorem d6_26 : DC jdk_42_method_66_code 26 (.getfield 15) 3 := fun h => hb h (by decide +kernel)
theorem d6_29 : DC jdk_42_method_66_code 29 (.aload_n 2) 1 := fun h => hb h (by decide +kernel)
theorem d6_30 : DC jdk_42_method_66_code 30 (.getfield 15) 3 := fun h => hb h (by decide +kernel)
theorem d6_33 : DC jdk_42_method_66_code 33 (.if_icmp .ne 21) 3 := fun h => hb h (by decide +kernel)
theorem d6_36 : DC jdk_42_method_66_code 36 (.aload_n 0) 1 := fun h => hb h (by decide +kernel)
theorem d6_37 : DC jdk_42_method_66_code 37 (.getfield 9) 3 := fun h => hb h (by decide +kernel)
theorem d6_40 : DC jdk_42_method_66_code 40 (.aload_n 2) 1 := fun h => hb h (by decide +kernel)
theorem d6_41 : DC jdk_42_method_66_code 41 (.getfield 9) 3 := fun h => hb h (by decide +kernel)
theorem d6_44 : DC jdk_42_method_66_code 44 (.invokestatic 541) 3 := fun h => hb h (by decide +kernel)
theorem d6_47 : DC jdk_42_method_66_code 47 (.ifCond .eq 7) 3 := fun h => hb h (by decide +kernel)
theorem d6_50 : DC jdk_42_method_66_code 50 (.iconst 1) 1 := fun h => hb h (by decide +kernel)
theorem d6_51 : DC jdk_42_method_66_code 51 (.goto 4) 3 := fun h => hb h (by decide +kernel)
theorem d6_54 : DC jdk_42_method_66_code 54 (.iconst 0) 1 := fun h => hb h (by decide +kernel)
theorem d6_55 : DC jdk_42_method_66_code 55 (.ireturn) 1 := fun h => hb h (by decide +kernel)
theorem d7_0 : DC jdk_43_method_13_code 0 (.aload_n 0) 1 := fun h => hb h (by decide +kernel)
theorem d7_1 : DC jdk_43_method_13_code 1 (.arraylength) 1 := fun h => hb h (by decide +kernel)
theorem d7_2 : DC jdk_43_method_13_code 2 (.aload_n 1) 1 := fun h => hb h (by decide +kernel)
theorem d7_3 : DC jdk_43_method_13_code 3 (.arraylength) 1 := fun h => hb h (by decide +kernel)
theorem d7_4 : DC jdk_43_method_13_code 4 (.if_icmp .ne 30) 3 := fun h => hb h (by decide +kernel)
theorem d7_7 : DC jdk_43_method_13_code 7 (.iconst 0) 1 := fun h => hb h (by decide +kernel)
theorem d7_8 : DC jdk_43_method_13_code 8 (.istore_n 2) 1 := fun h => hb h (by decide +kernel)
theorem d7_9 : DC jdk_43_method_13_code 9 (.iload_n 2) 1 := fun h => hb h (by decide +kernel)
theorem d7_10 : DC jdk_43_method_13_code 10 (.aload_n 0) 1 := fun h => hb h (by decide +kernel)
theorem d7_11 : DC jdk_43_method_13_code 11 (.arraylength) 1 := fun h => hb h (by decide +kernel)
theorem d7_12 : DC jdk_43_method_13_code 12 (.if_icmp .ge 20) 3 := fun h => hb h (by decide +kernel)
theorem d7_15 : DC jdk_43_method_13_code 15 (.aload_n 0) 1 := fun h => hb h (by decide +kernel)
theorem d7_16 : DC jdk_43_method_13_code 16 (.iload_n 2) 1 := fun h => hb h (by decide +kernel)
theorem d7_17 : DC jdk_43_method_13_code 17 (.baload) 1 := fun h => hb h (by decide +kernel)
theorem d7_18 : DC jdk_43_method_13_code 18 (.aload_n 1) 1 := fun h => hb h (by decide +kernel)
theorem d7_19 : DC jdk_43_method_13_code 19 (.iload_n 2) 1 := fun h => hb h (by decide +kernel)
theorem d7_20 : DC jdk_43_method_13_code 20 (.baload) 1 := fun h => hb h (by decide +kernel)
theorem d7_21 : DC jdk_43_method_13_code 21 (.if_icmp .eq 5) 3 := fun h => hb h (by decide +kernel)
theorem d7_24 : DC jdk_43_method_13_code 24 (.iconst 0) 1 := fun h => hb h (by decide +kernel)
theorem d7_25 : DC jdk_43_method_13_code 25 (.ireturn) 1 := fun h => hb h (by decide +kernel)
theorem d7_26 : DC jdk_43_method_13_code 26 (.iinc 2 1) 3 := fun h => hb h (by decide +kernel)
theorem d7_29 : DC jdk_43_method_13_code 29 (.goto (-20)) 3 := fun h => hb h (by decide +kernel)
theorem d7_32 : DC jdk_43_method_13_code 32 (.iconst 1) 1 := fun h => hb h (by decide +kernel)
theorem d7_33 : DC jdk_43_method_13_code 33 (.ireturn) 1 := fun h => hb h (by decide +kernel)
theorem d7_34 : DC jdk_43_method_13_code 34 (.iconst 0) 1 := fun h => hb h (by decide +kernel)
theorem d7_35 : DC jdk_43_method_13_code 35 (.ireturn) 1 := fun h => hb h (by decide +kernel)
theorem d11_0 : DC jdk_52_method_14_code 0 (.iload_n 2) 1 := fun h => hb h (by decide +kernel)
theorem d11_1 : DC jdk_52_method_14_code 1 (.invokestatic 107) 3 := fun h => hb h (by decide +kernel)
theorem d11_4 : DC jdk_52_method_14_code 4 (.astore_n 3) 1 := fun h => hb h (by decide +kernel)
theorem d11_5 : DC jdk_52_method_14_code 5 (.iconst 0) 1 := fun h => hb h (by decide +kernel)
theorem d11_6 : DC jdk_52_method_14_code 6 (.istore 4) 2 := fun h => hb h (by decide +kernel)
theorem d11_8 : DC jdk_52_method_14_code 8 (.iload 4) 2 := fun h => hb h (by decide +kernel)
theorem d11_10 : DC jdk_52_method_14_code 10 (.iload_n 2) 1 := fun h => hb h (by decide +kernel)
theorem d11_11 : DC jdk_52_method_14_code 11 (.if_icmp .ge 21) 3 := fun h => hb h (by decide +kernel)
theorem d11_14 : DC jdk_52_method_14_code 14 (.aload_n 3) 1 := fun h => hb h (by decide +kernel)
theorem d11_15 : DC jdk_52_method_14_code 15 (.iload 4) 2 := fun h => hb h (by decide +kernel)
theorem d11_17 : DC jdk_52_method_14_code 17 (.aload_n 0) 1 := fun h => hb h (by decide +kernel)
theorem d11_18 : DC jdk_52_method_14_code 18 (.iload_n 1) 1 := fun h => hb h (by decide +kernel)
theorem d11_19 : DC jdk_52_method_14_code 19 (.caload) 1 := fun h => hb h (by decide +kernel)
theorem d11_20 : DC jdk_52_method_14_code 20 (.invokestatic 111) 3 := fun h => hb h (by decide +kernel)
theorem d11_23 : DC jdk_52_method_14_code 23 (.iinc 1 1) 3 := fun h => hb h (by decide +kernel)
theorem d11_26 : DC jdk_52_method_14_code 26 (.iinc 4 1) 3 := fun h => hb h (by decide +kernel)
theorem d11_29 : DC jdk_52_method_14_code 29 (.goto (-21)) 3 := fun h => hb h (by decide +kernel)
theorem d11_32 : DC jdk_52_method_14_code 32 (.aload_n 3) 1 := fun h => hb h (by decide +kernel)
theorem d11_33 : DC jdk_52_method_14_code 33 (.areturn) 1 := fun h => hb h (by decide +kernel)
theorem d10_0 : DC jdk_52_method_15_code 0 (.iload_n 1) 1 := fun h => hb h (by decide +kernel)
theorem d10_1 : DC jdk_52_method_15_code 1 (.aload_n 0) 1 := fun h => hb h (by decide +kernel)
theorem d10_2 : DC jdk_52_method_15_code 2 (.arraylength) 1 := fun h => hb h (by decide +kernel)
theorem d10_3 : DC jdk_52_method_15_code 3 (.isub) 1 := fun h => hb h (by decide +kernel)
theorem d10_4 : DC jdk_52_method_15_code 4 (.bipush 31) 2 := fun h => hb h (by decide +kernel)
theorem d10_6 : DC jdk_52_method_15_code 6 (.iushr) 1 := fun h => hb h (by decide +kernel)
theorem d10_7 : DC jdk_52_method_15_code 7 (.i2b) 1 := fun h => hb h (by decide +kernel)
theorem d10_8 : DC jdk_52_method_15_code 8 (.ireturn) 1 := fun h => hb h (by decide +kernel)
theorem d8_0 : DC jdk_52_method_16_code 0 (.iload_n 2) 1 := fun h => hb h (by decide +kernel)
theorem d8_1 : DC jdk_52_method_16_code 1 (.newarray .byte) 2 := fun h => hb h (by decide +kernel)
theorem d8_3 : DC jdk_52_method_16_code 3 (.astore_n 3) 1 := fun h => hb h (by decide +kernel)
theorem d8_4 : DC jdk_52_method_16_code 4 (.aload_n 0) 1 := fun h => hb h (by decide +kernel)
theorem d8_5 : DC jdk_52_method_16_code 5 (.iload_n 1) 1 := fun h => hb h (by decide +kernel)
theorem d8_6 : DC jdk_52_method_16_code 6 (.aload_n 3) 1 := fun h => hb h (by decide +kernel)
theorem d8_7 : DC jdk_52_method_16_code 7 (.iconst 0) 1 := fun h => hb h (by decide +kernel)
theorem d8_8 : DC jdk_52_method_16_code 8 (.iload_n 2) 1 := fun h => hb h (by decide +kernel)
theorem d8_9 : DC jdk_52_method_16_code 9 (.invokestatic 115) 3 := fun h => hb h (by decide +kernel)
theorem d8_12 : DC jdk_52_method_16_code 12 (.istore 4) 2 := fun h => hb h (by decide +kernel)
theorem d8_14 : DC jdk_52_method_16_code 14 (.iload 4) 2 := fun h => hb h (by decide +kernel)
theorem d8_16 : DC jdk_52_method_16_code 16 (.iload_n 2) 1 := fun h => hb h (by decide +kernel)
theorem d8_17 : DC jdk_52_method_16_code 17 (.if_icmp .eq 40) 3 := fun h => hb h (by decide +kernel)
theorem d8_20 : DC jdk_52_method_16_code 20 (.aload_n 0) 1 := fun h => hb h (by decide +kernel)
theorem d8_21 : DC jdk_52_method_16_code 21 (.iload_n 1) 1 := fun h => hb h (by decide +kernel)
theorem d8_22 : DC jdk_52_method_16_code 22 (.iload_n 2) 1 := fun h => hb h (by decide +kernel)
theorem d8_23 : DC jdk_52_method_16_code 23 (.invokestatic 119) 3 := fun h => hb h (by decide +kernel)
theorem d8_26 : DC jdk_52_method_16_code 26 (.astore 5) 2 := fun h => hb h (by decide +kernel)
theorem d8_28 : DC jdk_52_method_16_code 28 (.aload 5) 2 := fun h => hb h (by decide +kernel)
theorem d8_30 : DC jdk_52_method_16_code 30 (.iload 4) 2 := fun h => hb h (by decide +kernel)
theorem d8_32 : DC jdk_52_method_16_code 32 (.invokestatic 71) 3 := fun h => hb h (by decide +kernel)
theorem d8_35 : DC jdk_52_method_16_code 35 (.sipush 255) 3 := fun h => hb h (by decide +kernel)
theorem d8_38 : DC jdk_52_method_16_code 38 (.if_icmp .gt 16) 3 := fun h => hb h (by decide +kernel)
theorem d8_54 : DC jdk_52_method_16_code 54 (.aload 5) 2 := fun h => hb h (by decide +kernel)
theorem d8_56 : DC jdk_52_method_16_code 56 (.areturn) 1 := fun h => hb h (by decide +kernel)
theorem d8_57 : DC jdk_52_method_16_code 57 (.aload_n 3) 1 := fun h => hb h (by decide +kernel)
theorem d8_58 : DC jdk_52_method_16_code 58 (.areturn) 1 := fun h => hb h (by decide +kernel)
theorem d9_0 : DC jdk_52_method_21_code 0 (.iconst 0) 1 := fun h => hb h (by decide +kernel)
theorem d9_1 : DC jdk_52_method_21_code 1 (.istore 5) 2 := fun h => hb h (by decide +kernel)
theorem d9_3 : DC jdk_52_method_21_code 3 (.iload 5) 2 := fun h => hb h (by decide +kernel)
theorem d9_5 : DC jdk_52_method_21_code 5 (.iload 4) 2 := fun h => hb h (by decide +kernel)
theorem d9_7 : DC jdk_52_method_21_code 7 (.if_icmp .ge 37) 3 := fun h => hb h (by decide +kernel)
theorem d9_10 : DC jdk_52_method_21_code 10 (.aload_n 0) 1 := fun h => hb h (by decide +kernel)
theorem d9_11 : DC jdk_52_method_21_code 11 (.iload_n 1) 1 := fun h => hb h (by decide +kernel)
theorem d9_12 : DC jdk_52_method_21_code 12 (.caload) 1 := fun h => hb h (by decide +kernel)
theorem d9_13 : DC jdk_52_method_21_code 13 (.istore 6) 2 := fun h => hb h (by decide +kernel)
theorem d9_15 : DC jdk_52_method_21_code 15 (.iload 6) 2 := fun h => hb h (by decide +kernel)
theorem d9_17 : DC jdk_52_method_21_code 17 (.sipush 255) 3 := fun h => hb h (by decide +kernel)
theorem d9_20 : DC jdk_52_method_21_code 20 (.if_icmp .le 6) 3 := fun h => hb h (by decide +kernel)
theorem d9_23 : DC jdk_52_method_21_code 23 (.iload 5) 2 := fun h => hb h (by decide +kernel)
theorem d9_25 : DC jdk_52_method_21_code 25 (.ireturn) 1 := fun h => hb h (by decide +kernel)
theorem d9_26 : DC jdk_52_method_21_code 26 (.aload_n 2) 1 := fun h => hb h (by decide +kernel)
theorem d9_27 : DC jdk_52_method_21_code 27 (.iload_n 3) 1 := fun h => hb h (by decide +kernel)
theorem d9_28 : DC jdk_52_method_21_code 28 (.iload 6) 2 := fun h => hb h (by decide +kernel)
theorem d9_30 : DC jdk_52_method_21_code 30 (.i2b) 1 := fun h => hb h (by decide +kernel)
theorem d9_31 : DC jdk_52_method_21_code 31 (.bastore) 1 := fun h => hb h (by decide +kernel)
theorem d9_32 : DC jdk_52_method_21_code 32 (.iinc 1 1) 3 := fun h => hb h (by decide +kernel)
theorem d9_35 : DC jdk_52_method_21_code 35 (.iinc 3 1) 3 := fun h => hb h (by decide +kernel)
theorem d9_38 : DC jdk_52_method_21_code 38 (.iinc 5 1) 3 := fun h => hb h (by decide +kernel)
theorem d9_41 : DC jdk_52_method_21_code 41 (.goto (-38)) 3 := fun h => hb h (by decide +kernel)
theorem d9_44 : DC jdk_52_method_21_code 44 (.iload 4) 2 := fun h => hb h (by decide +kernel)
theorem d9_46 : DC jdk_52_method_21_code 46 (.ireturn) 1 := fun h => hb h (by decide +kernel)
theorem d12_0 : DC jdk_52_method_2_code 0 (.iload_n 0) 1 := fun h => hb h (by decide +kernel)
theorem d12_1 : DC jdk_52_method_2_code 1 (.invokestatic 11) 3 := fun h => hb h (by decide +kernel)
theorem d12_4 : DC jdk_52_method_2_code 4 (.newarray .byte) 2 := fun h => hb h (by decide +kernel)
theorem d12_6 : DC jdk_52_method_2_code 6 (.areturn) 1 := fun h => hb h (by decide +kernel)
theorem d13_0 : DC jdk_52_method_3_code 0 (.iload_n 0) 1 := fun h => hb h (by decide +kernel)
theorem d13_1 : DC jdk_52_method_3_code 1 (.ifCond .ge 11) 3 := fun h => hb h (by decide +kernel)
theorem d13_12 : DC jdk_52_method_3_code 12 (.iload_n 0) 1 := fun h => hb h (by decide +kernel)
theorem d13_13 : DC jdk_52_method_3_code 13 (.ldc 20) 2 := fun h => hb h (by decide +kernel)
theorem d13_15 : DC jdk_52_method_3_code 15 (.if_icmp .lt 40) 3 := fun h => hb h (by decide +kernel)
theorem d13_55 : DC jdk_52_method_3_code 55 (.iload_n 0) 1 := fun h => hb h (by decide +kernel)
theorem d13_56 : DC jdk_52_method_3_code 56 (.iconst 1) 1 := fun h => hb h (by decide +kernel)
theorem d13_57 : DC jdk_52_method_3_code 57 (.ishl) 1 := fun h => hb h (by decide +kernel)
theorem d13_58 : DC jdk_52_method_3_code 58 (.ireturn) 1 := fun h => hb h (by decide +kernel)
theorem d14_0 : DC jdk_52_method_4_code 0 (.getstatic 44) 3 := fun h => hb h (by decide +kernel)
theorem d14_3 : DC jdk_52_method_4_code 3 (.ifCond .ne 25) 3 := fun h => hb h (by decide +kernel)
theorem d14_28 : DC jdk_52_method_4_code 28 (.iload_n 1) 1 := fun h => hb h (by decide +kernel)
theorem d14_29 : DC jdk_52_method_4_code 29 (.iconst 1) 1 := fun h => hb h (by decide +kernel)
theorem d14_30 : DC jdk_52_method_4_code 30 (.ishl) 1 := fun h => hb h (by decide +kernel)
theorem d14_31 : DC jdk_52_method_4_code 31 (.istore_n 1) 1 := fun h => hb h (by decide +kernel)
theorem d14_32 : DC jdk_52_method_4_code 32 (.aload_n 0) 1 := fun h => hb h (by decide +kernel)
theorem d14_33 : DC jdk_52_method_4_code 33 (.iload_n 1) 1 := fun h => hb h (by decide +kernel)
theorem d14_34 : DC jdk_52_method_4_code 34 (.iinc 1 1) 3 := fun h => hb h (by decide +kernel)
theorem d14_37 : DC jdk_52_method_4_code 37 (.iload_n 2) 1 := fun h => hb h (by decide +kernel)
theorem d14_38 : DC jdk_52_method_4_code 38 (.getstatic 59) 3 := fun h => hb h (by decide +kernel)
theorem d14_41 : DC jdk_52_method_4_code 41 (.ishr) 1 := fun h => hb h (by decide +kernel)
theorem d14_42 : DC jdk_52_method_4_code 42 (.i2b) 1 := fun h => hb h (by decide +kernel)
theorem d14_43 : DC jdk_52_method_4_code 43 (.bastore) 1 := fun h => hb h (by decide +kernel)
theorem d14_44 : DC jdk_52_method_4_code 44 (.aload_n 0) 1 := fun h => hb h (by decide +kernel)
theorem d14_45 : DC jdk_52_method_4_code 45 (.iload_n 1) 1 := fun h => hb h (by decide +kernel)
theorem d14_46 : DC jdk_52_method_4_code 46 (.iload_n 2) 1 := fun h => hb h (by decide +kernel)
theorem d14_47 : DC jdk_52_method_4_code 47 (.getstatic 63) 3 := fun h => hb h (by decide +kernel)
theorem d14_50 : DC jdk_52_method_4_code 50 (.ishr) 1 := fun h => hb h (by decide +kernel)
theorem d14_51 : DC jdk_52_method_4_code 51 (.i2b) 1 := fun h => hb h (by decide +kernel)
theorem d14_52 : DC jdk_52_method_4_code 52 (.bastore) 1 := fun h => hb h (by decide +kernel)
theorem d14_53 : DC jdk_52_method_4_code 53 (.return_) 1 := fun h => hb h (by decide +kernel)
theorem d15_0 : DC jdk_52_method_5_code 0 (.getstatic 44) 3 := fun h => hb h (by decide +kernel)
theorem d15_3 : DC jdk_52_method_5_code 3 (.ifCond .ne 25) 3 := fun h => hb h (by decide +kernel)
theorem d15_28 : DC jdk_52_method_5_code 28 (.iload_n 1) 1 := fun h => hb h (by decide +kernel)
theorem d15_29 : DC jdk_52_method_5_code 29 (.iconst 1) 1 := fun h => hb h (by decide +kernel)
theorem d15_30 : DC jdk_52_method_5_code 30 (.ishl) 1 := fun h => hb h (by decide +kernel)
theorem d15_31 : DC jdk_52_method_5_code 31 (.istore_n 1) 1 := fun h => hb h (by decide +kernel)
theorem d15_32 : DC jdk_52_method_5_code 32 (.aload_n 0) 1 := fun h => hb h (by decide +kernel)
theorem d15_33 : DC jdk_52_method_5_code 33 (.iload_n 1) 1 := fun h => hb h (by decide +kernel)
theorem d15_34 : DC jdk_52_method_5_code 34 (.iinc 1 1) 3 := fun h => hb h (by decide +kernel)
theorem d15_37 : DC jdk_52_method_5_code 37 (.baload) 1 := fun h => hb h (by decide +kernel)
theorem d15_38 : DC jdk_52_method_5_code 38 (.sipush 255) 3 := fun h => hb h (by decide +kernel)
theorem d15_41 : DC jdk_52_method_5_code 41 (.iand) 1 := fun h => hb h (by decide +kernel)
theorem d15_42 : DC jdk_52_method_5_code 42 (.getstatic 59) 3 := fun h => hb h (by decide +kernel)
theorem d15_45 : DC jdk_52_method_5_code 45 (.ishl) 1 := fun h => hb h (by decide +kernel)
theorem d15_46 : DC jdk_52_method_5_code 46 (.aload_n 0) 1 := fun h => hb h (by decide +kernel)
theorem d15_47 : DC jdk_52_method_5_code 47 (.iload_n 1) 1 := fun h => hb h (by decide +kernel)
theorem d15_48 : DC jdk_52_method_5_code 48 (.baload) 1 := fun h => hb h (by decide +kernel)
theorem d15_49 : DC jdk_52_method_5_code 49 (.sipush 255) 3 := fun h => hb h (by decide +kernel)
theorem d15_52 : DC jdk_52_method_5_code 52 (.iand) 1 := fun h => hb h (by decide +kernel)
theorem d15_53 : DC jdk_52_method_5_code 53 (.getstatic 63) 3 := fun h => hb h (by decide +kernel)
theorem d15_56 : DC jdk_52_method_5_code 56 (.ishl) 1 := fun h => hb h (by decide +kernel)
theorem d15_57 : DC jdk_52_method_5_code 57 (.ior) 1 := fun h => hb h (by decide +kernel)
theorem d15_58 : DC jdk_52_method_5_code 58 (.i2c) 1 := fun h => hb h (by decide +kernel)
theorem d15_59 : DC jdk_52_method_5_code 59 (.ireturn) 1 := fun h => hb h (by decide +kernel)
theorem d1_0 : DC method_3_code 0 (.iload_n 0) 1 := fun h => hb h (by decide +kernel)
theorem d1_1 : DC method_3_code 1 (.bipush 16) 2 := fun h => hb h (by decide +kernel)
theorem d1_3 : DC method_3_code 3 (.iushr) 1 := fun h => hb h (by decide +kernel)
theorem d1_4 : DC method_3_code 4 (.iconst 1) 1 := fun h => hb h (by decide +kernel)
theorem d1_5 : DC method_3_code 5 (.iand) 1 := fun h => hb h (by decide +kernel)
theorem d1_6 : DC method_3_code 6 (.ifCond .eq 8) 3 := fun h => hb h (by decide +kernel)
theorem d1_9 : DC method_3_code 9 (.bipush 46) 2 := fun h => hb h (by decide +kernel)
theorem d1_11 : DC method_3_code 11 (.goto 8) 3 := fun h => hb h (by decide +kernel)
theorem d1_14 : DC method_3_code 14 (.iload_n 0) 1 := fun h => hb h (by decide +kernel)
theorem d1_15 : DC method_3_code 15 (.ldc 25) 2 := fun h => hb h (by decide +kernel)
theorem d1_17 : DC method_3_code 17 (.iand) 1 := fun h => hb h (by decide +kernel)
theorem d1_18 : DC method_3_code 18 (.i2c) 1 := fun h => hb h (by decide +kernel)
theorem d1_19 : DC method_3_code 19 (.ireturn) 1 := fun h => hb h (by decide +kernel)
theorem d5_0 : DC prog_59_method_10_code 0 (.aload_n 0) 1 := fun h => hb h (by decide +kernel)
theorem d5_1 : DC prog_59_method_10_code 1 (.ldc 180) 2 := fun h => hb h (by decide +kernel)
theorem d5_3 : DC prog_59_method_10_code 3 (.invokevirtual 154) 3 := fun h => hb h (by decide +kernel)
theorem d5_6 : DC prog_59_method_10_code 6 (.ifCond .ne 12) 3 := fun h => hb h (by decide +kernel)
theorem d5_9 : DC prog_59_method_10_code 9 (.aload_n 0) 1 := fun h => hb h (by decide +kernel)
theorem d5_10 : DC prog_59_method_10_code 10 (.ldc 152) 2 := fun h => hb h (by decide +kernel)
theorem d5_12 : DC prog_59_method_10_code 12 (.invokevirtual 154) 3 := fun h => hb h (by decide +kernel)
theorem d5_15 : DC prog_59_method_10_code 15 (.ifCond .eq 7) 3 := fun h => hb h (by decide +kernel)
theorem d5_18 : DC prog_59_method_10_code 18 (.iconst 1) 1 := fun h => hb h (by decide +kernel)
theorem d5_19 : DC prog_59_method_10_code 19 (.goto 4) 3 := fun h => hb h (by decide +kernel)
theorem d5_22 : DC prog_59_method_10_code 22 (.iconst 0) 1 := fun h => hb h (by decide +kernel)
theorem d5_23 : DC prog_59_method_10_code 23 (.ireturn) 1 := fun h => hb h (by decide +kernel)
theorem pn_0 : plainName "com/example/runnymede/runnymede/UriSyntaxIsDotSegmentPinLaw" = true := by first | (simp [plainName, overriddenIn]; done) | decide +kernel
theorem pn_1 : plainName "java/lang/String" = true := by first | (simp [plainName, overriddenIn]; done) | decide +kernel
theorem pn_2 : plainName "java/lang/StringLatin1" = true := by first | (simp [plainName, overriddenIn]; done) | decide +kernel
theorem pn_3 : plainName "com/example/runnymede/runnymede/UriSyntax" = true := by first | (simp [plainName, overriddenIn]; done) | decide +kernel
theorem pn_4 : plainName "java/lang/StringUTF16" = true := by first | (simp [plainName, overriddenIn]; done) | decide +kernel
theorem pd_0 : parseMethodDescriptor "(I)C" = some ⟨[.int], some .char⟩ := by decide +kernel
theorem pd_1 : parseMethodDescriptor "([CIILjava/lang/Void;)V" = some ⟨[(.array .char), .int, .int, (.object "java/lang/Void")], none⟩ := by decide +kernel
theorem pd_2 : parseMethodDescriptor "([C)V" = some ⟨[(.array .char)], none⟩ := by decide +kernel
theorem pd_3 : parseMethodDescriptor "([B[B)Z" = some ⟨[(.array .byte), (.array .byte)], some .boolean⟩ := by decide +kernel
theorem pd_4 : parseMethodDescriptor "(Ljava/lang/Object;)Z" = some ⟨[(.object "java/lang/Object")], some .boolean⟩ := by decide +kernel
theorem pd_5 : parseMethodDescriptor "(Ljava/lang/String;)Z" = some ⟨[(.object "java/lang/String")], some .boolean⟩ := by decide +kernel
theorem pd_6 : parseMethodDescriptor "([CI[BII)I" = some ⟨[(.array .char), .int, (.array .byte), .int, .int], some .int⟩ := by decide +kernel
theorem pd_7 : parseMethodDescriptor "(I)I" = some ⟨[.int], some .int⟩ := by decide +kernel
theorem pd_8 : parseMethodDescriptor "(I)[B" = some ⟨[.int], some (.array .byte)⟩ := by decide +kernel
theorem pd_9 : parseMethodDescriptor "([BII)V" = some ⟨[(.array .byte), .int, .int], none⟩ := by decide +kernel
theorem pd_10 : parseMethodDescriptor "([CII)[B" = some ⟨[(.array .char), .int, .int], some (.array .byte)⟩ := by decide +kernel
theorem pd_11 : parseMethodDescriptor "([BI)C" = some ⟨[(.array .byte), .int], some .char⟩ := by decide +kernel
theorem pd_12 : parseMethodDescriptor "([BI)B" = some ⟨[(.array .byte), .int], some .byte⟩ := by decide +kernel
theorem wd_0 : WD (Jvm.Cond.constant "com/example/runnymede/runnymede/UriSyntaxIsDotSegmentPinLaw" (7 : Nat) (2147483647 : Int32)) := own_wd 0 rfl
theorem wd_1 : WD (Jvm.Cond.methodLink "com/example/runnymede/runnymede/UriSyntaxIsDotSegmentPinLaw" (8 : Nat) ({ cls := "com/example/runnymede/runnymede/UriSyntaxIsDotSegmentPinLaw", name := "pick", desc := "(I)C" } : Jvm.MethodName)) := own_wd 1 rfl
theorem wd_2 : WD (Jvm.Cond.static ({ cls := "com/example/runnymede/runnymede/UriSyntaxIsDotSegmentPinLaw", name := "pick", desc := "(I)C" } : Jvm.MethodName)) := own_wd 2 rfl
theorem wd_3 : WD (Jvm.Cond.initialized "com/example/runnymede/runnymede/UriSyntaxIsDotSegmentPinLaw") := own_wd 3 rfl
theorem wd_4 : WD (Jvm.Cond.code ({ cls := "com/example/runnymede/runnymede/UriSyntaxIsDotSegmentPinLaw", name := "pick", desc := "(I)C" } : Jvm.MethodName) method_3_code (1 : Nat) (Option.some Jvm.ClassFile.FieldType.char)) := own_wd 4 rfl
theorem wd_5 : WD (Jvm.Cond.constant "com/example/runnymede/runnymede/UriSyntaxIsDotSegmentPinLaw" (25 : Nat) (65535 : Int32)) := own_wd 5 rfl
theorem wd_6 : WD (Jvm.Cond.arrayClass Jvm.ClassFile.FieldType.char) := own_wd 6 rfl
theorem wd_7 : WD (Jvm.Cond.classLink "com/example/runnymede/runnymede/UriSyntaxIsDotSegmentPinLaw" (14 : Nat) kc0) := own_wd 7 rfl
theorem wd_8 : WD (Jvm.Cond.instantiable kc0 (4 : Nat)) := own_wd 8 rfl
theorem wd_9 : WD (Jvm.Cond.initialized kc0) := own_wd 9 rfl
theorem wd_10 : WD (Jvm.Cond.methodLink "com/example/runnymede/runnymede/UriSyntaxIsDotSegmentPinLaw" (16 : Nat) ({ cls := kc0, name := "<init>", desc := "([C)V" } : Jvm.MethodName)) := own_wd 10 rfl
theorem wd_11 : WD (Jvm.Cond.instanceMethod ({ cls := kc0, name := "<init>", desc := "([C)V" } : Jvm.MethodName)) := own_wd 11 rfl
theorem wd_12 : WD (Jvm.Cond.code ({ cls := kc0, name := "<init>", desc := "([C)V" } : Jvm.MethodName) jdk_42_method_3_code (2 : Nat) (Option.none : Option Jvm.ClassFile.FieldType)) := own_wd 12 rfl
theorem wd_13 : WD (Jvm.Cond.methodLink kc0 (27 : Nat) ({ cls := kc0, name := "<init>", desc := "([CIILjava/lang/Void;)V" } : Jvm.MethodName)) := own_wd 13 rfl
theorem wd_14 : WD (Jvm.Cond.instanceMethod ({ cls := kc0, name := "<init>", desc := "([CIILjava/lang/Void;)V" } : Jvm.MethodName)) := own_wd 14 rfl
theorem wd_16 : WD (Jvm.Cond.code ({ cls := kc0, name := "<init>", desc := "([CIILjava/lang/Void;)V" } : Jvm.MethodName) jdk_42_method_149_code (6 : Nat) (Option.none : Option Jvm.ClassFile.FieldType)) := own_wd 16 rfl
theorem wd_17 : WD (Jvm.Cond.methodLink kc0 (1 : Nat) ({ cls := "java/lang/Object", name := "<init>", desc := "()V" } : Jvm.MethodName)) := own_wd 17 rfl
theorem wd_18 : WD (Jvm.Cond.instanceMethod ({ cls := "java/lang/Object", name := "<init>", desc := "()V" } : Jvm.MethodName)) := own_wd 18 rfl
theorem wd_19 : WD (Jvm.Cond.code ({ cls := "java/lang/Object", name := "<init>", desc := "()V" } : Jvm.MethodName) object_method_1_code (1 : Nat) (Option.none : Option Jvm.ClassFile.FieldType)) := own_wd 19 rfl
theorem wd_20 : WD (Jvm.Cond.stringLink kc0 (7 : Nat) "") := own_wd 20 rfl
theorem wd_21 : WD (Jvm.Cond.arrayClass Jvm.ClassFile.FieldType.byte) := own_wd 21 rfl
theorem wd_22 : WD (Jvm.Cond.laysFinal kc0 kc0 "value" "[B") := own_wd 22 rfl
theorem wd_23 : WD (Jvm.Cond.laysFinal kc0 kc0 "coder" "B") := own_wd 23 rfl
theorem wd_26 : WD (Jvm.Cond.fieldLink kc0 (9 : Nat) kc0 "value" "[B") := own_wd 26 rfl
theorem wd_27 : WD (Jvm.Cond.fieldLink kc0 (15 : Nat) kc0 "coder" "B") := own_wd 27 rfl
theorem wd_28 : WD (Jvm.Cond.methodLink "com/example/runnymede/runnymede/UriSyntaxIsDotSegmentPinLaw" (19 : Nat) ({ cls := "com/example/runnymede/runnymede/UriSyntax", name := "isDotSegment", desc := "(Ljava/lang/String;)Z" } : Jvm.MethodName)) := own_wd 28 rfl
theorem wd_29 : WD (Jvm.Cond.static ({ cls := "com/example/runnymede/runnymede/UriSyntax", name := "isDotSegment", desc := "(Ljava/lang/String;)Z" } : Jvm.MethodName)) := own_wd 29 rfl
theorem wd_30 : WD (Jvm.Cond.initialized "com/example/runnymede/runnymede/UriSyntax") := own_wd 30 rfl
theorem wd_31 : WD (Jvm.Cond.code ({ cls := "com/example/runnymede/runnymede/UriSyntax", name := "isDotSegment", desc := "(Ljava/lang/String;)Z" } : Jvm.MethodName) prog_59_method_10_code (1 : Nat) (Option.some Jvm.ClassFile.FieldType.boolean)) := own_wd 31 rfl
theorem wd_32 : WD (Jvm.Cond.stringLink "com/example/runnymede/runnymede/UriSyntax" (180 : Nat) ".") := own_wd 32 rfl
theorem wd_33 : WD (Jvm.Cond.methodLink "com/example/runnymede/runnymede/UriSyntax" (154 : Nat) ({ cls := kc0, name := "equals", desc := "(Ljava/lang/Object;)Z" } : Jvm.MethodName)) := own_wd 33 rfl
theorem wd_34 : WD (Jvm.Cond.declares ({ cls := kc0, name := "equals", desc := "(Ljava/lang/Object;)Z" } : Jvm.MethodName)) := own_wd 34 rfl
theorem wd_35 : WD (Jvm.Cond.instanceMethod ({ cls := kc0, name := "equals", desc := "(Ljava/lang/Object;)Z" } : Jvm.MethodName)) := own_wd 35 rfl
theorem wd_36 : WD (Jvm.Cond.selects kc0 ({ cls := kc0, name := "equals", desc := "(Ljava/lang/Object;)Z" } : Jvm.MethodName) ({ cls := kc0, name := "equals", desc := "(Ljava/lang/Object;)Z" } : Jvm.MethodName)) := own_wd 36 rfl
theorem wd_37 : WD (Jvm.Cond.code ({ cls := kc0, name := "equals", desc := "(Ljava/lang/Object;)Z" } : Jvm.MethodName) jdk_42_method_66_code (3 : Nat) (Option.some Jvm.ClassFile.FieldType.boolean)) := own_wd 37 rfl
theorem wd_38 : WD (Jvm.Cond.classLink kc0 (10 : Nat) kc0) := own_wd 38 rfl
theorem wd_39 : WD (Jvm.Cond.fieldLink kc0 (38 : Nat) kc0 "COMPACT_STRINGS" "Z") := own_wd 39 rfl
theorem wd_40 : WD (Jvm.Cond.methodLink kc0 (541 : Nat) ({ cls := "java/lang/StringLatin1", name := "equals", desc := "([B[B)Z" } : Jvm.MethodName)) := own_wd 40 rfl
theorem wd_41 : WD (Jvm.Cond.static ({ cls := "java/lang/StringLatin1", name := "equals", desc := "([B[B)Z" } : Jvm.MethodName)) := own_wd 41 rfl
theorem wd_42 : WD (Jvm.Cond.initialized "java/lang/StringLatin1") := own_wd 42 rfl
theorem wd_43 : WD (Jvm.Cond.code ({ cls := "java/lang/StringLatin1", name := "equals", desc := "([B[B)Z" } : Jvm.MethodName) jdk_43_method_13_code (3 : Nat) (Option.some Jvm.ClassFile.FieldType.boolean)) := own_wd 43 rfl
theorem wd_44 : WD (Jvm.Cond.stringLink "com/example/runnymede/runnymede/UriSyntax" (152 : Nat) "..") := own_wd 44 rfl
theorem wd_45 : WD (Jvm.Cond.methodLink kc0 (177 : Nat) ({ cls := kc1, name := "compress", desc := "([CII)[B" } : Jvm.MethodName)) := own_wd 45 rfl
theorem wd_46 : WD (Jvm.Cond.static ({ cls := kc1, name := "compress", desc := "([CII)[B" } : Jvm.MethodName)) := own_wd 46 rfl
theorem wd_47 : WD (Jvm.Cond.initialized kc1) := own_wd 47 rfl
theorem wd_48 : WD (Jvm.Cond.code ({ cls := kc1, name := "compress", desc := "([CII)[B" } : Jvm.MethodName) jdk_52_method_16_code (6 : Nat) (Option.some (Jvm.ClassFile.FieldType.array Jvm.ClassFile.FieldType.byte))) := own_wd 48 rfl
theorem wd_49 : WD (Jvm.Cond.methodLink kc1 (115 : Nat) ({ cls := kc1, name := "compress", desc := "([CI[BII)I" } : Jvm.MethodName)) := own_wd 49 rfl
theorem wd_50 : WD (Jvm.Cond.static ({ cls := kc1, name := "compress", desc := "([CI[BII)I" } : Jvm.MethodName)) := own_wd 50 rfl
theorem wd_51 : WD (Jvm.Cond.code ({ cls := kc1, name := "compress", desc := "([CI[BII)I" } : Jvm.MethodName) jdk_52_method_21_code (7 : Nat) (Option.some Jvm.ClassFile.FieldType.int)) := own_wd 51 rfl
theorem wd_52 : WD (Jvm.Cond.methodLink kc0 (47 : Nat) ({ cls := kc1, name := "coderFromArrayLen", desc := "([BI)B" } : Jvm.MethodName)) := own_wd 52 rfl
theorem wd_53 : WD (Jvm.Cond.static ({ cls := kc1, name := "coderFromArrayLen", desc := "([BI)B" } : Jvm.MethodName)) := own_wd 53 rfl
theorem wd_54 : WD (Jvm.Cond.code ({ cls := kc1, name := "coderFromArrayLen", desc := "([BI)B" } : Jvm.MethodName) jdk_52_method_15_code (2 : Nat) (Option.some Jvm.ClassFile.FieldType.byte)) := own_wd 54 rfl
theorem wd_55 : WD (Jvm.Cond.methodLink kc1 (119 : Nat) ({ cls := kc1, name := "toBytes", desc := "([CII)[B" } : Jvm.MethodName)) := own_wd 55 rfl
theorem wd_56 : WD (Jvm.Cond.static ({ cls := kc1, name := "toBytes", desc := "([CII)[B" } : Jvm.MethodName)) := own_wd 56 rfl
theorem wd_57 : WD (Jvm.Cond.code ({ cls := kc1, name := "toBytes", desc := "([CII)[B" } : Jvm.MethodName) jdk_52_method_14_code (5 : Nat) (Option.some (Jvm.ClassFile.FieldType.array Jvm.ClassFile.FieldType.byte))) := own_wd 57 rfl
theorem wd_58 : WD (Jvm.Cond.methodLink kc1 (107 : Nat) ({ cls := kc1, name := "newBytesFor", desc := "(I)[B" } : Jvm.MethodName)) := own_wd 58 rfl
theorem wd_59 : WD (Jvm.Cond.static ({ cls := kc1, name := "newBytesFor", desc := "(I)[B" } : Jvm.MethodName)) := own_wd 59 rfl
theorem wd_60 : WD (Jvm.Cond.code ({ cls := kc1, name := "newBytesFor", desc := "(I)[B" } : Jvm.MethodName) jdk_52_method_2_code (1 : Nat) (Option.some (Jvm.ClassFile.FieldType.array Jvm.ClassFile.FieldType.byte))) := own_wd 60 rfl
theorem wd_61 : WD (Jvm.Cond.methodLink kc1 (11 : Nat) ({ cls := kc1, name := "newBytesLength", desc := "(I)I" } : Jvm.MethodName)) := own_wd 61 rfl
theorem wd_62 : WD (Jvm.Cond.static ({ cls := kc1, name := "newBytesLength", desc := "(I)I" } : Jvm.MethodName)) := own_wd 62 rfl
theorem wd_63 : WD (Jvm.Cond.code ({ cls := kc1, name := "newBytesLength", desc := "(I)I" } : Jvm.MethodName) jdk_52_method_3_code (1 : Nat) (Option.some Jvm.ClassFile.FieldType.int)) := own_wd 63 rfl
theorem wd_64 : WD (Jvm.Cond.constant kc1 (20 : Nat) (1073741823 : Int32)) := own_wd 64 rfl
theorem wd_65 : WD (Jvm.Cond.methodLink kc1 (111 : Nat) ({ cls := kc1, name := "putChar", desc := "([BII)V" } : Jvm.MethodName)) := own_wd 65 rfl
theorem wd_66 : WD (Jvm.Cond.static ({ cls := kc1, name := "putChar", desc := "([BII)V" } : Jvm.MethodName)) := own_wd 66 rfl
theorem wd_67 : WD (Jvm.Cond.code ({ cls := kc1, name := "putChar", desc := "([BII)V" } : Jvm.MethodName) jdk_52_method_4_code (3 : Nat) (Option.none : Option Jvm.ClassFile.FieldType)) := own_wd 67 rfl
theorem wd_68 : WD (Jvm.Cond.fieldLink kc1 (44 : Nat) kc1 "$assertionsDisabled" "Z") := own_wd 68 rfl
theorem wd_69 : WD (Jvm.Cond.fieldLink kc1 (59 : Nat) kc1 "HI_BYTE_SHIFT" "I") := own_wd 69 rfl
theorem wd_70 : WD (Jvm.Cond.fieldLink kc1 (63 : Nat) kc1 "LO_BYTE_SHIFT" "I") := own_wd 70 rfl
theorem wd_71 : WD (Jvm.Cond.methodLink kc1 (71 : Nat) ({ cls := kc1, name := "getChar", desc := "([BI)C" } : Jvm.MethodName)) := own_wd 71 rfl
theorem wd_72 : WD (Jvm.Cond.static ({ cls := kc1, name := "getChar", desc := "([BI)C" } : Jvm.MethodName)) := own_wd 72 rfl
theorem wd_73 : WD (Jvm.Cond.code ({ cls := kc1, name := "getChar", desc := "([BI)C" } : Jvm.MethodName) jdk_52_method_5_code (2 : Nat) (Option.some Jvm.ClassFile.FieldType.char)) := own_wd 73 rfl
theorem own_EW {Z : State} {a0 : Array Value} (hw : ∀ d ∈ tables_1, d.before a0 Z = true) : EW Z a0 EL := (EW.cons (wd_44 hw) (by decide +kernel) (EW.cons (wd_32 hw) (by decide +kernel) (EW.cons (wd_20 hw) (by decide +kernel) EW.nil)))
theorem own_wS {Z : State} {a0 : Array Value} (hw : ∀ d ∈ tables_1, d.before a0 Z = true) : ∀ d ∈ Bundle.stringAtoms, d.before a0 Z = true := fun d hd => hw d ((by decide +kernel : ∀ d ∈ Bundle.stringAtoms, d ∈ tables_1) d hd)
theorem ef_pick (m : MethodId) (p0 : Int32)  : entryFrame m #[(.int p0)] 1 = mkF m 0 #[.val (.int p0)] [] := by first | (simp [entryFrame, mkF, argsToLocals, Value.category]; done) | rfl
def Q_pick (Z : State) (p0 : Int32) (h0 : Heap) (n0 : Nat) (v : Option Value) (h : Heap) (L : List Loc) : Prop := ∃ (c : Int32), v = some (.int c) ∧ Fr n0 L ∧ h = h0 ∧ nar .char c = c
theorem rm_pick (l : Launch) (Z : State) (aZ : Array Value) (hw : ∀ d ∈ tables_1, d.before aZ Z = true) (ws : List Jvm.Cond) (p0 : Int32) (h0 : Heap) (n0 : Nat) (Z0 : n0 ≤ h0.size) :
    MetN l Z yn_1 method_3_code 1 (some .char) ws ({ frames := 0, cells := 0, slots := 0, locals := 0 } : Room) #[(.int p0)] h0 (Q_pick Z p0 h0 n0) := by
 refine MetN.of (plainFor_of_name pn_0) ?_
 intro p e s m below meth c s₁ hret hx hby hml hown hnm hlk hZ X0 e0
 have N0 := Fr.nil n0
 rw [ef_pick m p0]
 refine w_iloadN X0 hx (d1_0 hby) rfl (pc' := 1) rfl ?_
 refine w_bipush X0 hx (d1_1 hby) (v := (16 : Int32)) rfl (pc' := 3) rfl ?_
 refine w_iushr X0 hx (d1_3 hby) (pc' := 4) rfl ?_
 refine w_iconst X0 hx (d1_4 hby) (v := (1 : Int32)) rfl (pc' := 5) rfl ?_
 refine w_iand X0 hx (d1_5 hby) (pc' := 6) rfl ?_
 by_cases hc20 : (((p0.toUInt32 >>> ((16 : Int32) &&& 31).toUInt32).toInt32) &&& (1 : Int32)) = (0 : Int32)
 · refine w_ifY X0 hx (d1_6 hby) (teq hc20).1 (pc' := 14) (by decide) (by decide) ?_
   refine w_iloadN X0 hx (d1_14 hby) rfl (pc' := 15) rfl ?_
   refine w_ldcI X0 hx hZ hown (wd_5 hw) (d1_15 hby) (pc' := 17) rfl ?_
   refine w_iand X0 hx (d1_17 hby) (pc' := 18) rfl ?_
   refine w_i2c X0 hx (d1_18 hby) (pc' := 19) rfl ?_
   exact w_done X0 hlk (v := some (.int ((p0 &&& (65535 : Int32)).toUInt32.toUInt16.toUInt32.toInt32))) e0 (fun h => by rw [hret] at h; cases h) (fun fs hr => retOut X0 hx hret (t := .char) (XT.narrow_c _) (Or.inl ⟨rfl, by simp, _, rfl⟩) (d1_19 hby) hr) (by decide) (by decide) (⟨((p0 &&& (65535 : Int32)).toUInt32.toUInt16.toUInt32.toInt32), rfl, N0, rfl, (nar_c _)⟩)
 · refine w_ifN X0 hx (d1_6 hby) (feq hc20).1 (pc' := 9) rfl ?_
   refine w_bipush X0 hx (d1_9 hby) (v := (46 : Int32)) rfl (pc' := 11) rfl ?_
   refine w_goto X0 hx (d1_11 hby) (pc' := 19) (by decide) (by decide) ?_
   exact w_done X0 hlk (v := some (.int (46 : Int32))) e0 (fun h => by rw [hret] at h; cases h) (fun fs hr => retN X0 hx (t := .char) hret (by simp) (d1_19 hby) hr) (by decide) (by decide) (⟨(46 : Int32), rfl, N0, rfl, (by decide : nar .char (46 : Int32) = (46 : Int32))⟩)
theorem ef_m3_3 (m : MethodId) (a0 : Addr) (a1 : Addr)  : entryFrame m #[(.ref a0), (.ref a1), (.int (0 : Int32)), (.int (0 : Int32)), .null] 6 = mkF m 0 #[.val (.ref a0), .val (.ref a1), .val (.int (0 : Int32)), .val (.int (0 : Int32)), .val .null, .unset] [] := by first | (simp [entryFrame, mkF, argsToLocals, Value.category]; done) | rfl
def Q_m3_3 (Z : State) (a0 : Addr) (a1 : Addr) (h0 : Heap) (n0 : Nat) (v : Option Value) (h : Heap) (L : List Loc) (S : Addr → Prop) : Prop := ∃ (r0 : Addr) (c0 : ClassId), v = none ∧ Fr n0 L ∧ Keep h0 h [a0] ∧ Arv Z h r0 c0 .byte (0 : Int32) [] (.int (0 : Int32)) ∧ Exa Z h a0 kc0 ∧ Fld Z h a0 kc0 "value" "[B" (.ref r0) ∧ Fld Z h a0 kc0 "coder" "B" (.int (0 : Int32))
theorem rm_m3_3 (l : Launch) (Z : State) (aZ : Array Value) (hw : ∀ d ∈ tables_1, d.before aZ Z = true) (ws : List Jvm.Cond) (a0 : Addr) (a1 : Addr) (h0 : Heap) (n0 : Nat) (Z0 : n0 ≤ h0.size) (E_a0 : Exa Z h0 a0 kc0) (zz0 : Fld Z h0 a0 kc0 "value" "[B" .null) (zz1 : n0 ≤ a0) (zz2 : Fld Z h0 a0 kc0 "coder" "B" (.int (0 : Int32))) :
    MetH l Z EL yn_3 jdk_42_method_149_code 6 none ws ({ frames := 1, cells := 4, slots := 8, locals := 12 } : Room) #[(.ref a0), (.ref a1), (.int (0 : Int32)), (.int (0 : Int32)), .null] h0 (Q_m3_3 Z a0 a1 h0 n0) [a0] := by
 refine MetH.of (plainFor_of_name pn_1) ?_
 intro p e s m below meth c s₁ hret hx hby hml hown hnm hlk hZ X0 e0 hh hH hsf hS0 C0
 have N0 := Fr.nil n0
 rw [ef_m3_3 m a0 a1]
 refine w_aloadN X0 hx (d3_0 hby) rfl rfl (pc' := 1) rfl ?_
 refine w_initO X0 hx 0 hZ hown (wd_17 hw) (wd_18 hw) (wd_19 hw) e0 (by rw [hml]; rfl) (d3_1 hby) (by decide) (Nat.le_of_eq rfl) (by decide) (pc' := 4) rfl ?_
 intro T20 X20 e20
 refine w_iloadN X20 hx (d3_4 hby) rfl (pc' := 5) rfl ?_
 refine w_ifN X20 hx (d3_5 hby) (teq (by decide : (0 : Int32) = (0 : Int32))).2 (pc' := 8) rfl ?_
 refine w_aloadN X20 hx (d3_8 hby) rfl rfl (pc' := 9) rfl ?_
 obtain ⟨a21, T21, h21, k21, b21, c21, X21, e21, E21, hS21, hk21, hZ21, hown21, gE21, gC21, gV21, gA21, lt21, ltb21, A21, -, ns21, st21⟩ := ldcCH X20 hx hZ hown (wd_20 hw) (own_wS hw) e20 hS0 (Nat.le_refl _) (own_EW hw) (by simp [EL]) C0.1 (vs := []) (z := (0 : Int32)) (by decide +kernel) (by decide) (by decide) (g := (mkF m 9 #[.val (.ref a0), .val (.ref a1), .val (.int (0 : Int32)), .val (.int (0 : Int32)), .val .null, .unset] [(.ref a0)])) rfl (d3_9 hby) (n := 0) (by decide +kernel) (by decide) (by decide) (by decide)
 refine Runs.by ?_ st21
 have C22 : CHr Z EL s.vm h0 T21.vm h21 := C0.trans A21
 have K23 : Keep h0 h21 [a0] := (Keep.refl h0 [a0]).ext E21
 show Runs _ _ _ _ (T21.setTop (mkF m 11 #[.val (.ref a0), .val (.ref a1), .val (.int (0 : Int32)), .val (.int (0 : Int32)), .val .null, .unset] [(.ref a21), (.ref a0)]))
 refine w_getF X21 hx "" hZ21 hown21 (Or.inl (wd_26 hw)) Via.refl e21 gV21 (d3_11 hby) (pc' := 14) rfl ?_
 intro T24 X24 e24
 have f25 : Exa Z h21 a0 kc0 := (E_a0.ext E21)
 have f26 : Fld Z h21 a0 kc0 "value" "[B" .null := (zz0.ext E21)
 refine w_putF X24 hx "" hZ21 hown21 (Or.inl (wd_26 hw)) Via.refl e24 f26 f25 (Or.inr ⟨(wd_22 hw), rfl, hnm⟩) (wd_8 hw) (ty := (.array .byte)) (by decide) rfl rfl (d3_14 hby) (pc' := 17) rfl ?_
 intro T27 h27 X27 e27 W27
 have y28 : Safe Z EL T21.vm h21 a0 := (CHr.safe A21 (Nat.lt_of_lt_of_le E_a0.lt (Nat.le_refl _)) (hsf a0 (by simp)))
 have C29 : CHr Z EL s.vm h0 T21.vm h27 := C22.trans (CHr.wr W27 y28 C22.1)
 have f30 : Fld Z h27 a0 kc0 "value" "[B" (.ref b21) := f26.same W27
 have K31 : Keep h0 h27 [a0] := K23.wr W27 (Or.inl (by simp))
 have N32 := Fr.snoc X27 N0 zz1
 refine w_aloadN X27 hx (d3_17 hby) rfl rfl (pc' := 18) rfl ?_
 obtain ⟨a33, T33, h33, k33, b33, c33, X33, e33, E33, hS33, hk33, hZ33, hown33, gE33, gC33, gV33, gA33, lt33, ltb33, A33, -, ns33, st33⟩ := ldcCH X27 hx hZ21 hown21 (wd_20 hw) (own_wS hw) e27 hS21 (Nat.le_trans hk21 (Keep.of_wr W27).1) (own_EW hw) (by simp [EL]) C29.1 (vs := []) (z := (0 : Int32)) (by decide +kernel) (by decide) (by decide) (g := (mkF m 18 #[.val (.ref a0), .val (.ref a1), .val (.int (0 : Int32)), .val (.int (0 : Int32)), .val .null, .unset] [(.ref a0)])) rfl (d3_18 hby) (n := 0) (by decide +kernel) (by decide) (by decide) (by decide)
 refine Runs.by ?_ st33
 have C34 : CHr Z EL s.vm h0 T33.vm h33 := C29.trans A33
 have K35 : Keep h0 h33 [a0] := K31.ext E33
 show Runs _ _ _ _ (T33.setTop (mkF m 20 #[.val (.ref a0), .val (.ref a1), .val (.int (0 : Int32)), .val (.int (0 : Int32)), .val .null, .unset] [(.ref a33), (.ref a0)]))
 refine w_getF X33 hx "" hZ33 hown33 (Or.inl (wd_27 hw)) Via.refl e33 gC33 (d3_20 hby) (pc' := 23) rfl ?_
 intro T36 X36 e36
 have f37 : Exa Z h33 a0 kc0 := ((f25.wr W27).ext E33)
 have f38 : Fld Z h33 a0 kc0 "coder" "B" (.int (0 : Int32)) := (((zz2.ext E21).other W27 (Or.inr (slot_ne (Or.inr (wd_23 hw)) (Or.inr (wd_22 hw)) (by decide) (t := .byte) (t' := (.array .byte)) (by decide) (by decide)))).ext E33)
 refine w_putF X36 hx "" hZ33 hown33 (Or.inl (wd_27 hw)) Via.refl e36 f38 f37 (Or.inr ⟨(wd_23 hw), rfl, hnm⟩) (wd_8 hw) (ty := .byte) (by decide) rfl rfl (d3_23 hby) (pc' := 26) rfl ?_
 intro T39 h39 X39 e39 W39
 have le40 : h0.size ≤ h27.size := (Nat.le_trans E21.1 (Keep.of_wr W27).1)
 have y41 : Safe Z EL T33.vm h33 a0 := (CHr.safe A33 (Nat.lt_of_lt_of_le E_a0.lt le40) (Safe.wr W27 y28 C22.1 y28))
 have C42 : CHr Z EL s.vm h0 T33.vm h39 := C34.trans (CHr.wr W39 y41 C34.1)
 have f43 : Fld Z h39 a0 kc0 "coder" "B" (.int (0 : Int32)) := f38.same W39
 have K44 : Keep h0 h39 [a0] := K35.wr W39 (Or.inl (by simp))
 have N45 := Fr.snoc X39 N32 zz1
 have ne46 : a0 ≠ b21 := (ns21 a0 (CHr.safe A21 (Nat.lt_of_lt_of_le E_a0.lt (Nat.le_refl _)) (hsf a0 (by simp)))).2
 have f47 : Arv Z h39 b21 c21 .byte (0 : Int32) [] (.int (0 : Int32)) := (((gA21.other W27 (Ne.symm ne46)).ext E33).other W39 (Ne.symm ne46))
 have f48 : Exa Z h39 a0 kc0 := (f37.wr W39)
 have f49 : Fld Z h39 a0 kc0 "value" "[B" (.ref b21) := ((f30.ext E33).other W39 (Or.inr (slot_ne (Or.inr (wd_22 hw)) (Or.inr (wd_23 hw)) (by decide) (t := (.array .byte)) (t' := .byte) (by decide) (by decide))))
 exact w_doneH X39 hlk (v := none) e39 hh hZ33 (own_EW hw) hS33 (Nat.le_trans hk33 (Keep.of_wr W39).1) C42 (fun _ => rfl) (fun fs hr => X39.returnOut hx hret (d3_26 hby) hr) (by decide) (by decide) (fun hsy => ⟨b21, c21, rfl, N45, K44, f47, f48, f49, f43⟩)
theorem ef_m2_2 (m : MethodId) (a0 : Addr) (a1 : Addr)  : entryFrame m #[(.ref a0), (.ref a1)] 2 = mkF m 0 #[.val (.ref a0), .val (.ref a1)] [] := by first | (simp [entryFrame, mkF, argsToLocals, Value.category]; done) | rfl
def Q_m2_2 (Z : State) (a0 : Addr) (a1 : Addr) (k_a1 : ClassId) (h0 : Heap) (n0 : Nat) (v : Option Value) (h : Heap) (L : List Loc) (S : Addr → Prop) : Prop := ∃ (r0 : Addr) (c0 : ClassId), v = none ∧ Fr n0 L ∧ Keep h0 h [a0] ∧ Arv Z h r0 c0 .byte (0 : Int32) [] (.int (0 : Int32)) ∧ Exa Z h a0 kc0 ∧ Fld Z h a0 kc0 "value" "[B" (.ref r0) ∧ Fld Z h a0 kc0 "coder" "B" (.int (0 : Int32))
theorem rm_m2_2 (l : Launch) (Z : State) (aZ : Array Value) (hw : ∀ d ∈ tables_1, d.before aZ Z = true) (ws : List Jvm.Cond) (a0 : Addr) (a1 : Addr) (k_a1 : ClassId) (h0 : Heap) (n0 : Nat) (Z0 : n0 ≤ h0.size) (V_a1 : Arv Z h0 a1 k_a1 .char (0 : Int32) [] (.int (0 : Int32))) (E_a0 : Exa Z h0 a0 kc0) (zz0 : Fld Z h0 a0 kc0 "value" "[B" .null) (zz1 : Fld Z h0 a0 kc0 "coder" "B" (.int (0 : Int32))) (zz2 : n0 ≤ a0) :
    MetH l Z EL yn_2 jdk_42_method_3_code 2 none ws ({ frames := 2, cells := 4, slots := 8, locals := 29 } : Room) #[(.ref a0), (.ref a1)] h0 (Q_m2_2 Z a0 a1 k_a1 h0 n0) [a0] := by
 refine MetH.of (plainFor_of_name pn_1) ?_
 intro p e s m below meth c s₁ hret hx hby hml hown hnm hlk hZ X0 e0 hh hH hsf hS0 C0
 have N0 := Fr.nil n0
 rw [ef_m2_2 m a0 a1]
 refine w_aloadN X0 hx (d2_0 hby) rfl rfl (pc' := 1) rfl ?_
 refine w_aloadN X0 hx (d2_1 hby) rfl rfl (pc' := 2) rfl ?_
 refine w_iconst X0 hx (d2_2 hby) (v := (0 : Int32)) rfl (pc' := 3) rfl ?_
 refine w_aloadN X0 hx (d2_3 hby) rfl rfl (pc' := 4) rfl ?_
 refine w_alen X0 hx hZ e0 V_a1 (d2_4 hby) (pc' := 5) rfl ?_
 refine w_null X0 hx (d2_5 hby) (pc' := 6) rfl ?_
 refine w_specialS X0 hx (y := yn_3) rfl hown (mvT hZ (wd_13 hw)) (mvT hZ (wd_14 hw)) (mvT hZ (wd_16 hw)) (by decide) (backOfY (W := 0) (rm_m3_3 l Z aZ hw [] a0 a1 h0 n0 Z0 E_a0 zz0 zz2 zz1) hZ (wd_16 hw) (wd_9 hw) (by decide) (by decide) (own_EW hw) C0.1 (sfS (hsf a0 (by simp)) sf0) (allS (Nat.lt_of_lt_of_le E_a0.lt (Nat.le_refl _)) all0)) (by rw [hml]; rfl) [(.ref a1), (.int (0 : Int32)), (.int (0 : Int32)), .null] (lenOf pd_1 rfl) rfl (Nat.le_of_eq rfl) (d2_6 hby) (fun _ _ => ⟨rfl, e0, (by decide : 0 + 4 ≤ _), (by decide : 0 + 8 ≤ _)⟩) (pc' := 9) rfl ?_
 rintro _ _ ⟨T20, L20, k20, n20⟩ XX20 hSS20 hg20 ⟨Lc20, hQ20, l20, y20, z20, A20⟩
 dsimp only [Pt.U, Pt.locs, Pt.cells, Pt.slots] at XX20 l20 y20 z20 hQ20 hSS20 hg20 A20 ⊢
 subst l20 y20 z20
 obtain ⟨X20, hS20, hZ20, hown20⟩ := rebS hS0 (Nat.le_refl _) XX20 hSS20 (e0 ▸ hg20) hZ hown
 obtain ⟨r0_20, c0_20, rfl, N20q, K20, g20_0, g20_1, g20_2, g20_3⟩ := hQ20
 have N21 := Fr.app N0 N20q
 have C22 : CHr Z EL s.vm h0 T20.vm T20.heap := C0.trans A20
 have K23 : Keep h0 T20.heap [a0] := (Keep.refl h0 [a0]).trans K20 (allS (Or.inl (by simp)) (all0 (P := fun x => x ∈ [a0] ∨ h0.size ≤ x)))
 show Runs _ _ _ _ (T20.setTop (mkF m 9 #[.val (.ref a0), .val (.ref a1)] []))
 exact w_doneH X20 hlk (v := none) rfl hh hZ20 (own_EW hw) hS20 (Nat.le_refl _) C22 (fun _ => rfl) (fun fs hr => X20.returnOut hx hret (d2_9 hby) hr) (by decide) (by decide) (fun hsy => ⟨r0_20, c0_20, rfl, N21, K23, g20_0, g20_1, g20_2, g20_3⟩)
theorem ef_m7_6 (m : MethodId) (a0 : Addr) (a1 : Addr)  : entryFrame m #[(.ref a0), (.ref a1)] 3 = mkF m 0 #[.val (.ref a0), .val (.ref a1), .unset] [] := by first | (simp [entryFrame, mkF, argsToLocals, Value.category]; done) | rfl
def Q_m7_6 (Z : State) (a0 : Addr) (a1 : Addr) (k_a0 : ClassId) (k_a1 : ClassId) (h0 : Heap) (n0 : Nat) (v : Option Value) (h : Heap) (L : List Loc) : Prop := v = some (.int (0 : Int32)) ∧ Fr n0 L ∧ h = h0
theorem rm_m7_6 (l : Launch) (Z : State) (aZ : Array Value) (hw : ∀ d ∈ tables_1, d.before aZ Z = true) (ws : List Jvm.Cond) (a0 : Addr) (a1 : Addr) (k_a0 : ClassId) (k_a1 : ClassId) (h0 : Heap) (n0 : Nat) (Z0 : n0 ≤ h0.size) (V_a0 : Arv Z h0 a0 k_a0 .byte (0 : Int32) [] (.int (0 : Int32))) (V_a1 : Arv Z h0 a1 k_a1 .byte (1 : Int32) [(.int (46 : Int32))] (.int (0 : Int32))) :
    MetN l Z yn_7 jdk_43_method_13_code 3 (some .boolean) ws ({ frames := 0, cells := 0, slots := 0, locals := 0 } : Room) #[(.ref a0), (.ref a1)] h0 (Q_m7_6 Z a0 a1 k_a0 k_a1 h0 n0) := by
 refine MetN.of (plainFor_of_name pn_2) ?_
 intro p e s m below meth c s₁ hret hx hby hml hown hnm hlk hZ X0 e0
 have N0 := Fr.nil n0
 rw [ef_m7_6 m a0 a1]
 refine w_aloadN X0 hx (d7_0 hby) rfl rfl (pc' := 1) rfl ?_
 refine w_alen X0 hx hZ e0 V_a0 (d7_1 hby) (pc' := 2) rfl ?_
 refine w_aloadN X0 hx (d7_2 hby) rfl rfl (pc' := 3) rfl ?_
 refine w_alen X0 hx hZ e0 V_a1 (d7_3 hby) (pc' := 4) rfl ?_
 refine w_icY X0 hx (d7_4 hby) (feq (by decide : ¬ ((0 : Int32) = (1 : Int32)))).2 (pc' := 34) (by decide) (by decide) ?_
 refine w_iconst X0 hx (d7_34 hby) (v := (0 : Int32)) rfl (pc' := 35) rfl ?_
 exact w_done X0 hlk (v := some (.int (0 : Int32))) e0 (fun h => by rw [hret] at h; cases h) (fun fs hr => retN X0 hx (t := .boolean) hret (by simp) (d7_35 hby) hr) (by decide) (by decide) (⟨rfl, N0, rfl⟩)
theorem ef_m6_5 (m : MethodId) (a0 : Addr) (a1 : Addr)  : entryFrame m #[(.ref a0), (.ref a1)] 3 = mkF m 0 #[.val (.ref a0), .val (.ref a1), .unset] [] := by first | (simp [entryFrame, mkF, argsToLocals, Value.category]; done) | rfl
def Q_m6_5 (Z : State) (a0 : Addr) (a1 : Addr) (jj0 : Int32) (jj1 : Addr) (jj2 : Addr) (jj3 : ClassId) (jj4 : ClassId) (h0 : Heap) (n0 : Nat) (v : Option Value) (h : Heap) (L : List Loc) : Prop := v = some (.int (0 : Int32)) ∧ Fr n0 L ∧ h = h0
theorem rm_m6_5 (l : Launch) (Z : State) (aZ : Array Value) (hw : ∀ d ∈ tables_1, d.before aZ Z = true) (ws : List Jvm.Cond) (a0 : Addr) (a1 : Addr) (jj0 : Int32) (jj1 : Addr) (jj2 : Addr) (jj3 : ClassId) (jj4 : ClassId) (h0 : Heap) (n0 : Nat) (Z0 : n0 ≤ h0.size) (zz5 : a0 ≠ a1) (E_a1 : Exa Z h0 a1 kc0) (zz6 : Sta Z Z.heap kc0 "COMPACT_STRINGS" "Z" (.int jj0)) (O0 : Old Z n0 h0) (hP_4 : ¬ (jj0 = (0 : Int32))) (zz7 : Fld Z h0 a0 kc0 "coder" "B" (.int (0 : Int32))) (zz8 : Fld Z h0 a1 kc0 "coder" "B" (.int (0 : Int32))) (zz9 : Fld Z h0 a0 kc0 "value" "[B" (.ref jj1)) (zz10 : Fld Z h0 a1 kc0 "value" "[B" (.ref jj2)) (zz11 : Arv Z h0 jj1 jj3 .byte (0 : Int32) [] (.int (0 : Int32))) (zz12 : Arv Z h0 jj2 jj4 .byte (1 : Int32) [(.int (46 : Int32))] (.int (0 : Int32))) :
    MetN l Z yn_6 jdk_42_method_66_code 3 (some .boolean) ws ({ frames := 1, cells := 0, slots := 0, locals := 14 } : Room) #[(.ref a0), (.ref a1)] h0 (Q_m6_5 Z a0 a1 jj0 jj1 jj2 jj3 jj4 h0 n0) := by
 refine MetN.of (plainFor_of_name pn_1) ?_
 intro p e s m below meth c s₁ hret hx hby hml hown hnm hlk hZ X0 e0
 have N0 := Fr.nil n0
 rw [ef_m6_5 m a0 a1]
 refine w_aloadN X0 hx (d6_0 hby) rfl rfl (pc' := 1) rfl ?_
 refine w_aloadN X0 hx (d6_1 hby) rfl rfl (pc' := 2) rfl ?_
 refine w_acmp X0 hx (d6_2 hby) (same := false) rfl rfl (decide_eq_false fun q => zz5 (Value.ref.inj q)) (pc' := 7) (by decide) (by decide) ?_
 refine w_aloadN X0 hx (d6_7 hby) rfl rfl (pc' := 8) rfl ?_
 refine w_instY X0 hx hZ hown (wd_38 hw) e0 (Ins.self E_a1) (d6_8 hby) (pc' := 11) rfl ?_
 intro T20 X20 e20
 refine w_ifN X20 hx (d6_11 hby) (feq (by decide : ¬ ((1 : Int32) = (0 : Int32)))).1 (pc' := 14) rfl ?_
 refine w_aloadN X20 hx (d6_14 hby) rfl rfl (pc' := 15) rfl ?_
 refine w_castY X20 hx hZ hown (wd_38 hw) e20 (Ins.self E_a1) (d6_15 hby) (pc' := 18) rfl ?_
 intro T21 X21 e21
 refine w_astoreN X21 hx (d6_18 hby) rfl (L' := #[.val (.ref a0), .val (.ref a1), .val (.ref a1)]) rfl (pc' := 19) rfl ?_
 refine w_getS X21 hx "" hZ hown (Or.inl (wd_39 hw)) Via.refl e21 (zz6.ext O0.2) (d6_19 hby) (pc' := 22) rfl ?_
 intro T22 X22 e22
 refine w_ifN X22 hx (d6_22 hby) (feq hP_4).1 (pc' := 25) rfl ?_
 refine w_aloadN X22 hx (d6_25 hby) rfl rfl (pc' := 26) rfl ?_
 refine w_getF X22 hx "" hZ hown (Or.inl (wd_27 hw)) Via.refl e22 zz7 (d6_26 hby) (pc' := 29) rfl ?_
 intro T23 X23 e23
 refine w_aloadN X23 hx (d6_29 hby) rfl rfl (pc' := 30) rfl ?_
 refine w_getF X23 hx "" hZ hown (Or.inl (wd_27 hw)) Via.refl e23 zz8 (d6_30 hby) (pc' := 33) rfl ?_
 intro T24 X24 e24
 refine w_icN X24 hx (d6_33 hby) (teq (by decide : (0 : Int32) = (0 : Int32))).2 (pc' := 36) rfl ?_
 refine w_aloadN X24 hx (d6_36 hby) rfl rfl (pc' := 37) rfl ?_
 refine w_getF X24 hx "" hZ hown (Or.inl (wd_26 hw)) Via.refl e24 zz9 (d6_37 hby) (pc' := 40) rfl ?_
 intro T25 X25 e25
 refine w_aloadN X25 hx (d6_40 hby) rfl rfl (pc' := 41) rfl ?_
 refine w_getF X25 hx "" hZ hown (Or.inl (wd_26 hw)) Via.refl e25 zz10 (d6_41 hby) (pc' := 44) rfl ?_
 intro T26 X26 e26
 refine w_static X26 hx (y := yn_7) hown (mvT hZ (wd_40 hw)) (mvT hZ (wd_41 hw)) (mvT hZ (wd_42 hw)) (mvT hZ (wd_43 hw)) (by decide) (backOf (W := 0) (rm_m7_6 l Z aZ hw [] jj1 jj2 jj3 jj4 h0 n0 Z0 zz11 zz12) hZ (wd_43 hw) (wd_42 hw) (by decide) (by decide)) (by rw [hml]; rfl) [(.ref jj1), (.ref jj2)] (lenOf pd_3 rfl) rfl (Nat.le_of_eq rfl) (d6_44 hby) (fun _ _ => ⟨rfl, e26, (by decide : 0 + 0 ≤ _), (by decide : 0 + 0 ≤ _)⟩) (pc' := 47) rfl ?_
 rintro _ _ ⟨T27, L27, k27, n27⟩ X27 ⟨Lc27, hQ27, l27, y27, z27⟩
 dsimp only [Pt.U, Pt.locs, Pt.cells, Pt.slots] at X27 l27 y27 z27 hQ27 ⊢
 subst l27 y27 z27
 obtain ⟨rfl, N27q, e27⟩ := hQ27
 have N28 := Fr.app N0 N27q
 show Runs _ _ _ _ (T27.setTop (mkF m 47 #[.val (.ref a0), .val (.ref a1), .val (.ref a1)] [(.int (0 : Int32))]))
 refine w_ifY X27 hx (d6_47 hby) (teq (by decide : (0 : Int32) = (0 : Int32))).1 (pc' := 54) (by decide) (by decide) ?_
 refine w_iconst X27 hx (d6_54 hby) (v := (0 : Int32)) rfl (pc' := 55) rfl ?_
 exact w_done X27 hlk (v := some (.int (0 : Int32))) e27 (fun h => by rw [hret] at h; cases h) (fun fs hr => retN X27 hx (t := .boolean) hret (by simp) (d6_55 hby) hr) (by decide) (by decide) (⟨rfl, N28, rfl⟩)
theorem ef_m7_8 (m : MethodId) (a0 : Addr) (a1 : Addr)  : entryFrame m #[(.ref a0), (.ref a1)] 3 = mkF m 0 #[.val (.ref a0), .val (.ref a1), .unset] [] := by first | (simp [entryFrame, mkF, argsToLocals, Value.category]; done) | rfl
def Q_m7_8 (Z : State) (a0 : Addr) (a1 : Addr) (k_a0 : ClassId) (k_a1 : ClassId) (h0 : Heap) (n0 : Nat) (v : Option Value) (h : Heap) (L : List Loc) : Prop := v = some (.int (0 : Int32)) ∧ Fr n0 L ∧ h = h0
theorem rm_m7_8 (l : Launch) (Z : State) (aZ : Array Value) (hw : ∀ d ∈ tables_1, d.before aZ Z = true) (ws : List Jvm.Cond) (a0 : Addr) (a1 : Addr) (k_a0 : ClassId) (k_a1 : ClassId) (h0 : Heap) (n0 : Nat) (Z0 : n0 ≤ h0.size) (V_a0 : Arv Z h0 a0 k_a0 .byte (0 : Int32) [] (.int (0 : Int32))) (V_a1 : Arv Z h0 a1 k_a1 .byte (2 : Int32) [(.int (46 : Int32)), (.int (46 : Int32))] (.int (0 : Int32))) :
    MetN l Z yn_7 jdk_43_method_13_code 3 (some .boolean) ws ({ frames := 0, cells := 0, slots := 0, locals := 0 } : Room) #[(.ref a0), (.ref a1)] h0 (Q_m7_8 Z a0 a1 k_a0 k_a1 h0 n0) := by
 refine MetN.of (plainFor_of_name pn_2) ?_
 intro p e s m below meth c s₁ hret hx hby hml hown hnm hlk hZ X0 e0
 have N0 := Fr.nil n0
 rw [ef_m7_8 m a0 a1]
 refine w_aloadN X0 hx (d7_0 hby) rfl rfl (pc' := 1) rfl ?_
 refine w_alen X0 hx hZ e0 V_a0 (d7_1 hby) (pc' := 2) rfl ?_
 refine w_aloadN X0 hx (d7_2 hby) rfl rfl (pc' := 3) rfl ?_
 refine w_alen X0 hx hZ e0 V_a1 (d7_3 hby) (pc' := 4) rfl ?_
 refine w_icY X0 hx (d7_4 hby) (feq (by decide : ¬ ((0 : Int32) = (2 : Int32)))).2 (pc' := 34) (by decide) (by decide) ?_
 refine w_iconst X0 hx (d7_34 hby) (v := (0 : Int32)) rfl (pc' := 35) rfl ?_
 exact w_done X0 hlk (v := some (.int (0 : Int32))) e0 (fun h => by rw [hret] at h; cases h) (fun fs hr => retN X0 hx (t := .boolean) hret (by simp) (d7_35 hby) hr) (by decide) (by decide) (⟨rfl, N0, rfl⟩)
theorem ef_m6_7 (m : MethodId) (a0 : Addr) (a1 : Addr)  : entryFrame m #[(.ref a0), (.ref a1)] 3 = mkF m 0 #[.val (.ref a0), .val (.ref a1), .unset] [] := by first | (simp [entryFrame, mkF, argsToLocals, Value.category]; done) | rfl
def Q_m6_7 (Z : State) (a0 : Addr) (a1 : Addr) (jj0 : Int32) (jj1 : Addr) (jj2 : Addr) (jj3 : ClassId) (jj4 : ClassId) (h0 : Heap) (n0 : Nat) (v : Option Value) (h : Heap) (L : List Loc) : Prop := v = some (.int (0 : Int32)) ∧ Fr n0 L ∧ h = h0
theorem rm_m6_7 (l : Launch) (Z : State) (aZ : Array Value) (hw : ∀ d ∈ tables_1, d.before aZ Z = true) (ws : List Jvm.Cond) (a0 : Addr) (a1 : Addr) (jj0 : Int32) (jj1 : Addr) (jj2 : Addr) (jj3 : ClassId) (jj4 : ClassId) (h0 : Heap) (n0 : Nat) (Z0 : n0 ≤ h0.size) (zz5 : a0 ≠ a1) (E_a1 : Exa Z h0 a1 kc0) (zz6 : Sta Z Z.heap kc0 "COMPACT_STRINGS" "Z" (.int jj0)) (O0 : Old Z n0 h0) (hP_4 : ¬ (jj0 = (0 : Int32))) (zz7 : Fld Z h0 a0 kc0 "coder" "B" (.int (0 : Int32))) (zz8 : Fld Z h0 a1 kc0 "coder" "B" (.int (0 : Int32))) (zz9 : Fld Z h0 a0 kc0 "value" "[B" (.ref jj1)) (zz10 : Fld Z h0 a1 kc0 "value" "[B" (.ref jj2)) (zz11 : Arv Z h0 jj1 jj3 .byte (0 : Int32) [] (.int (0 : Int32))) (zz12 : Arv Z h0 jj2 jj4 .byte (2 : Int32) [(.int (46 : Int32)), (.int (46 : Int32))] (.int (0 : Int32))) :
    MetN l Z yn_6 jdk_42_method_66_code 3 (some .boolean) ws ({ frames := 1, cells := 0, slots := 0, locals := 14 } : Room) #[(.ref a0), (.ref a1)] h0 (Q_m6_7 Z a0 a1 jj0 jj1 jj2 jj3 jj4 h0 n0) := by
 refine MetN.of (plainFor_of_name pn_1) ?_
 intro p e s m below meth c s₁ hret hx hby hml hown hnm hlk hZ X0 e0
 have N0 := Fr.nil n0
 rw [ef_m6_7 m a0 a1]
 refine w_aloadN X0 hx (d6_0 hby) rfl rfl (pc' := 1) rfl ?_
 refine w_aloadN X0 hx (d6_1 hby) rfl rfl (pc' := 2) rfl ?_
 refine w_acmp X0 hx (d6_2 hby) (same := false) rfl rfl (decide_eq_false fun q => zz5 (Value.ref.inj q)) (pc' := 7) (by decide) (by decide) ?_
 refine w_aloadN X0 hx (d6_7 hby) rfl rfl (pc' := 8) rfl ?_
 refine w_instY X0 hx hZ hown (wd_38 hw) e0 (Ins.self E_a1) (d6_8 hby) (pc' := 11) rfl ?_
 intro T20 X20 e20
 refine w_ifN X20 hx (d6_11 hby) (feq (by decide : ¬ ((1 : Int32) = (0 : Int32)))).1 (pc' := 14) rfl ?_
 refine w_aloadN X20 hx (d6_14 hby) rfl rfl (pc' := 15) rfl ?_
 refine w_castY X20 hx hZ hown (wd_38 hw) e20 (Ins.self E_a1) (d6_15 hby) (pc' := 18) rfl ?_
 intro T21 X21 e21
 refine w_astoreN X21 hx (d6_18 hby) rfl (L' := #[.val (.ref a0), .val (.ref a1), .val (.ref a1)]) rfl (pc' := 19) rfl ?_
 refine w_getS X21 hx "" hZ hown (Or.inl (wd_39 hw)) Via.refl e21 (zz6.ext O0.2) (d6_19 hby) (pc' := 22) rfl ?_
 intro T22 X22 e22
 refine w_ifN X22 hx (d6_22 hby) (feq hP_4).1 (pc' := 25) rfl ?_
 refine w_aloadN X22 hx (d6_25 hby) rfl rfl (pc' := 26) rfl ?_
 refine w_getF X22 hx "" hZ hown (Or.inl (wd_27 hw)) Via.refl e22 zz7 (d6_26 hby) (pc' := 29) rfl ?_
 intro T23 X23 e23
 refine w_aloadN X23 hx (d6_29 hby) rfl rfl (pc' := 30) rfl ?_
 refine w_getF X23 hx "" hZ hown (Or.inl (wd_27 hw)) Via.refl e23 zz8 (d6_30 hby) (pc' := 33) rfl ?_
 intro T24 X24 e24
 refine w_icN X24 hx (d6_33 hby) (teq (by decide : (0 : Int32) = (0 : Int32))).2 (pc' := 36) rfl ?_
 refine w_aloadN X24 hx (d6_36 hby) rfl rfl (pc' := 37) rfl ?_
 refine w_getF X24 hx "" hZ hown (Or.inl (wd_26 hw)) Via.refl e24 zz9 (d6_37 hby) (pc' := 40) rfl ?_
 intro T25 X25 e25
 refine w_aloadN X25 hx (d6_40 hby) rfl rfl (pc' := 41) rfl ?_
 refine w_getF X25 hx "" hZ hown (Or.inl (wd_26 hw)) Via.refl e25 zz10 (d6_41 hby) (pc' := 44) rfl ?_
 intro T26 X26 e26
 refine w_static X26 hx (y := yn_7) hown (mvT hZ (wd_40 hw)) (mvT hZ (wd_41 hw)) (mvT hZ (wd_42 hw)) (mvT hZ (wd_43 hw)) (by decide) (backOf (W := 0) (rm_m7_8 l Z aZ hw [] jj1 jj2 jj3 jj4 h0 n0 Z0 zz11 zz12) hZ (wd_43 hw) (wd_42 hw) (by decide) (by decide)) (by rw [hml]; rfl) [(.ref jj1), (.ref jj2)] (lenOf pd_3 rfl) rfl (Nat.le_of_eq rfl) (d6_44 hby) (fun _ _ => ⟨rfl, e26, (by decide : 0 + 0 ≤ _), (by decide : 0 + 0 ≤ _)⟩) (pc' := 47) rfl ?_
 rintro _ _ ⟨T27, L27, k27, n27⟩ X27 ⟨Lc27, hQ27, l27, y27, z27⟩
 dsimp only [Pt.U, Pt.locs, Pt.cells, Pt.slots] at X27 l27 y27 z27 hQ27 ⊢
 subst l27 y27 z27
 obtain ⟨rfl, N27q, e27⟩ := hQ27
 have N28 := Fr.app N0 N27q
 show Runs _ _ _ _ (T27.setTop (mkF m 47 #[.val (.ref a0), .val (.ref a1), .val (.ref a1)] [(.int (0 : Int32))]))
 refine w_ifY X27 hx (d6_47 hby) (teq (by decide : (0 : Int32) = (0 : Int32))).1 (pc' := 54) (by decide) (by decide) ?_
 refine w_iconst X27 hx (d6_54 hby) (v := (0 : Int32)) rfl (pc' := 55) rfl ?_
 exact w_done X27 hlk (v := some (.int (0 : Int32))) e27 (fun h => by rw [hret] at h; cases h) (fun fs hr => retN X27 hx (t := .boolean) hret (by simp) (d6_55 hby) hr) (by decide) (by decide) (⟨rfl, N28, rfl⟩)
theorem ef_m5_4 (m : MethodId) (a0 : Addr)  : entryFrame m #[(.ref a0)] 1 = mkF m 0 #[.val (.ref a0)] [] := by first | (simp [entryFrame, mkF, argsToLocals, Value.category]; done) | rfl
def Q_m5_4 (Z : State) (a0 : Addr) (jj0 : Addr) (jj1 : ClassId) (jj2 : Int32) (h0 : Heap) (n0 : Nat) (v : Option Value) (h : Heap) (L : List Loc) (S : Addr → Prop) : Prop := v = some (.int (0 : Int32)) ∧ Fr n0 L ∧ Keep h0 h []
theorem rm_m5_4 (l : Launch) (Z : State) (aZ : Array Value) (hw : ∀ d ∈ tables_1, d.before aZ Z = true) (ws : List Jvm.Cond) (a0 : Addr) (jj0 : Addr) (jj1 : ClassId) (jj2 : Int32) (h0 : Heap) (n0 : Nat) (Z0 : n0 ≤ h0.size) (E_a0 : Exa Z h0 a0 kc0) (hP_1 : ¬ (jj2 = (0 : Int32))) (zz3 : Fld Z h0 a0 kc0 "coder" "B" (.int (0 : Int32))) (zz4 : Fld Z h0 a0 kc0 "value" "[B" (.ref jj0)) (zz5 : Arv Z h0 jj0 jj1 .byte (0 : Int32) [] (.int (0 : Int32))) (zz6 : Sta Z Z.heap kc0 "COMPACT_STRINGS" "Z" (.int jj2)) (O0 : Old Z n0 h0) :
    MetH l Z EL yn_5 prog_59_method_10_code 1 (some .boolean) ws ({ frames := 2, cells := 4, slots := 20, locals := 28 } : Room) #[(.ref a0)] h0 (Q_m5_4 Z a0 jj0 jj1 jj2 h0 n0) [a0] := by
 refine MetH.of (plainFor_of_name pn_3) ?_
 intro p e s m below meth c s₁ hret hx hby hml hown hnm hlk hZ X0 e0 hh hH hsf hS0 C0
 have N0 := Fr.nil n0
 rw [ef_m5_4 m a0]
 refine w_aloadN X0 hx (d5_0 hby) rfl rfl (pc' := 1) rfl ?_
 obtain ⟨a20, T20, h20, k20, b20, c20, X20, e20, E20, hS20, hk20, hZ20, hown20, gE20, gC20, gV20, gA20, lt20, ltb20, A20, -, ns20, st20⟩ := ldcCH X0 hx hZ hown (wd_32 hw) (own_wS hw) e0 hS0 (Nat.le_refl _) (own_EW hw) (by simp [EL]) C0.1 (vs := [(.int (46 : Int32))]) (z := (1 : Int32)) (by decide +kernel) (by decide) (by decide) (g := (mkF m 1 #[.val (.ref a0)] [(.ref a0)])) rfl (d5_1 hby) (n := 4) (by decide +kernel) (by decide) (by decide) (by decide)
 refine Runs.by ?_ st20
 have C21 : CHr Z EL s.vm h0 T20.vm h20 := C0.trans A20
 have K22 : Keep h0 h20 [] := (Keep.refl h0 []).ext E20
 show Runs _ _ _ _ (T20.setTop (mkF m 3 #[.val (.ref a0)] [(.ref a20), (.ref a0)]))
 have f23 : Old Z n0 h20 := (O0.ext E20)
 have f24 : Fld Z h20 a0 kc0 "coder" "B" (.int (0 : Int32)) := (zz3.ext E20)
 have f25 : Fld Z h20 a0 kc0 "value" "[B" (.ref jj0) := (zz4.ext E20)
 have f26 : Arv Z h20 jj0 jj1 .byte (0 : Int32) [] (.int (0 : Int32)) := (zz5.ext E20)
 have ne27 : a0 ≠ a20 := (ns20 a0 (CHr.safe A20 (Nat.lt_of_lt_of_le zz3.lt (Nat.le_refl _)) (hsf a0 (by simp)))).1
 have f29 : Exa Z h20 a0 kc0 := (E_a0.ext E20)
 obtain ⟨cq28, kq28, q28a, q28b, q28c⟩ := isOf hZ20 e20 f29
 refine w_virtual X20 hx (y := yn_6) (z := yn_6) hown20 (mvT hZ20 (wd_33 hw)) (mvT hZ20 (wd_34 hw)) (notFace_of_selects (args := #[]) (mvT hZ20 (wd_36 hw))) (mvT hZ20 (wd_36 hw)) (mvT hZ20 (wd_35 hw)) (by decide) (backOf (W := 0) (rm_m6_5 l Z aZ hw [] a0 a20 jj2 jj0 b20 jj1 c20 h20 n0 (Nat.le_trans Z0 E20.1) ne27 gE20 zz6 f23 hP_1 f24 gC20 f25 gV20 f26 gA20) hZ20 (wd_37 hw) (wd_9 hw) (by decide) (by decide)) q28a q28c (by rw [hml]; rfl) [(.ref a20)] (lenOf pd_4 rfl) rfl (Nat.le_of_eq rfl) (d5_3 hby) (fun _ _ => ⟨rfl, e20, (by decide : 2 + 0 ≤ _), (by decide : 8 + 0 ≤ _)⟩) (pc' := 6) rfl ?_
 rintro _ _ ⟨T28, L28, k28, n28⟩ X28 ⟨Lc28, hQ28, l28, y28, z28⟩
 dsimp only [Pt.U, Pt.locs, Pt.cells, Pt.slots] at X28 l28 y28 z28 hQ28 ⊢
 subst l28 y28 z28
 obtain ⟨rfl, N28q, e28⟩ := hQ28
 have N30 := Fr.app N0 N28q
 show Runs _ _ _ _ (T28.setTop (mkF m 6 #[.val (.ref a0)] [(.int (0 : Int32))]))
 refine w_ifN X28 hx (d5_6 hby) (teq (by decide : (0 : Int32) = (0 : Int32))).2 (pc' := 9) rfl ?_
 refine w_aloadN X28 hx (d5_9 hby) rfl rfl (pc' := 10) rfl ?_
 obtain ⟨a31, T31, h31, k31, b31, c31, X31, e31, E31, hS31, hk31, hZ31, hown31, gE31, gC31, gV31, gA31, lt31, ltb31, A31, -, ns31, st31⟩ := ldcCH X28 hx hZ20 hown20 (wd_44 hw) (own_wS hw) e28 hS20 hk20 (own_EW hw) (by simp [EL]) C21.1 (vs := [(.int (46 : Int32)), (.int (46 : Int32))]) (z := (2 : Int32)) (by decide +kernel) (by decide) (by decide) (g := (mkF m 10 #[.val (.ref a0)] [(.ref a0)])) rfl (d5_10 hby) (n := 8) (by decide +kernel) (by decide) (by decide) (by decide)
 refine Runs.by ?_ st31
 have C32 : CHr Z EL s.vm h0 T31.vm h31 := C21.trans A31
 have K33 : Keep h0 h31 [] := K22.ext E31
 show Runs _ _ _ _ (T31.setTop (mkF m 12 #[.val (.ref a0)] [(.ref a31), (.ref a0)]))
 have f38 : Old Z n0 h31 := (f23.ext E31)
 have f39 : Fld Z h31 a0 kc0 "coder" "B" (.int (0 : Int32)) := (f24.ext E31)
 have f40 : Fld Z h31 a0 kc0 "value" "[B" (.ref jj0) := (f25.ext E31)
 have f41 : Arv Z h31 jj0 jj1 .byte (0 : Int32) [] (.int (0 : Int32)) := (f26.ext E31)
 have ne42 : a0 ≠ a31 := (ns31 a0 (CHr.safe A31 (Nat.lt_of_lt_of_le zz3.lt E20.1) (CHr.safe A20 (Nat.lt_of_lt_of_le zz3.lt (Nat.le_refl _)) (hsf a0 (by simp))))).1
 have le43 : h0.size ≤ h31.size := (Nat.le_trans E20.1 E31.1)
 have f45 : Exa Z h31 a0 kc0 := (f29.ext E31)
 obtain ⟨cq44, kq44, q44a, q44b, q44c⟩ := isOf hZ31 e31 f45
 refine w_virtual X31 hx (y := yn_6) (z := yn_6) hown31 (mvT hZ31 (wd_33 hw)) (mvT hZ31 (wd_34 hw)) (notFace_of_selects (args := #[]) (mvT hZ31 (wd_36 hw))) (mvT hZ31 (wd_36 hw)) (mvT hZ31 (wd_35 hw)) (by decide) (backOf (W := 0) (rm_m6_7 l Z aZ hw [] a0 a31 jj2 jj0 b31 jj1 c31 h31 n0 (Nat.le_trans Z0 le43) ne42 gE31 zz6 f38 hP_1 f39 gC31 f40 gV31 f41 gA31) hZ31 (wd_37 hw) (wd_9 hw) (by decide) (by decide)) q44a q44c (by rw [hml]; rfl) [(.ref a31)] (lenOf pd_4 rfl) rfl (Nat.le_of_eq rfl) (d5_12 hby) (fun _ _ => ⟨rfl, e31, (by decide : 4 + 0 ≤ _), (by decide : 20 + 0 ≤ _)⟩) (pc' := 15) rfl ?_
 rintro _ _ ⟨T44, L44, k44, n44⟩ X44 ⟨Lc44, hQ44, l44, y44, z44⟩
 dsimp only [Pt.U, Pt.locs, Pt.cells, Pt.slots] at X44 l44 y44 z44 hQ44 ⊢
 subst l44 y44 z44
 obtain ⟨rfl, N44q, e44⟩ := hQ44
 have N46 := Fr.app N30 N44q
 show Runs _ _ _ _ (T44.setTop (mkF m 15 #[.val (.ref a0)] [(.int (0 : Int32))]))
 refine w_ifY X44 hx (d5_15 hby) (teq (by decide : (0 : Int32) = (0 : Int32))).1 (pc' := 22) (by decide) (by decide) ?_
 refine w_iconst X44 hx (d5_22 hby) (v := (0 : Int32)) rfl (pc' := 23) rfl ?_
 exact w_doneH X44 hlk (v := some (.int (0 : Int32))) e44 hh hZ31 (own_EW hw) hS31 hk31 C32 (fun h => by rw [hret] at h; cases h) (fun fs hr => retN X44 hx (t := .boolean) hret (by simp) (d5_23 hby) hr) (by decide) (by decide) (fun hsy => ⟨rfl, N46, K33⟩)
theorem ef_m9_12 (m : MethodId) (a0 : Addr) (a2 : Addr)  : entryFrame m #[(.ref a0), (.int (0 : Int32)), (.ref a2), (.int (0 : Int32)), (.int (1 : Int32))] 7 = mkF m 0 #[.val (.ref a0), .val (.int (0 : Int32)), .val (.ref a2), .val (.int (0 : Int32)), .val (.int (1 : Int32)), .unset, .unset] [] := by first | (simp [entryFrame, mkF, argsToLocals, Value.category]; done) | rfl
def Q_m9_12 (Z : State) (a0 : Addr) (a2 : Addr) (k_a0 : ClassId) (jj0 : Int32) (k_a2 : ClassId) (h0 : Heap) (n0 : Nat) (v : Option Value) (h : Heap) (L : List Loc) : Prop := (v = some (.int (1 : Int32)) ∧ Fr n0 L ∧ Keep h0 h [a2] ∧ Arv Z h a2 k_a2 .byte (1 : Int32) [(.int (jj0.toInt8.toInt32))] (.int (0 : Int32)) ∧ ¬ ((255 : Int32) < jj0)) ∨ (∃ (j : Int32), v = some (.int j) ∧ Fr n0 L ∧ Keep h0 h [a2] ∧ ¬ (j < (0 : Int32)) ∧ j < (1 : Int32) ∧ (255 : Int32) < (gI [jj0, (0 : Int32), (0 : Int32), (0 : Int32)] j))
theorem rm_m9_12 (l : Launch) (Z : State) (aZ : Array Value) (hw : ∀ d ∈ tables_1, d.before aZ Z = true) (ws : List Jvm.Cond) (a0 : Addr) (a2 : Addr) (k_a0 : ClassId) (jj0 : Int32) (k_a2 : ClassId) (h0 : Heap) (n0 : Nat) (Z0 : n0 ≤ h0.size) (V_a0 : Arv Z h0 a0 k_a0 .char (1 : Int32) [(.int jj0)] (.int (0 : Int32))) (V_a2 : Arv Z h0 a2 k_a2 .byte (1 : Int32) [(.int (0 : Int32))] (.int (0 : Int32))) (zz1 : n0 ≤ a2) :
    MetN l Z yn_9 jdk_52_method_21_code 7 (some .int) ws ({ frames := 0, cells := 0, slots := 0, locals := 0 } : Room) #[(.ref a0), (.int (0 : Int32)), (.ref a2), (.int (0 : Int32)), (.int (1 : Int32))] h0 (Q_m9_12 Z a0 a2 k_a0 jj0 k_a2 h0 n0) := by
 refine MetN.of (plainFor_of_name pn_4) ?_
 intro p e s m below meth c s₁ hret hx hby hml hown hnm hlk hZ X0 e0
 have N0 := Fr.nil n0
 rw [ef_m9_12 m a0 a2]
 refine w_iconst X0 hx (d9_0 hby) (v := (0 : Int32)) rfl (pc' := 1) rfl ?_
 refine w_istore X0 hx (d9_1 hby) (L' := #[.val (.ref a0), .val (.int (0 : Int32)), .val (.ref a2), .val (.int (0 : Int32)), .val (.int (1 : Int32)), .val (.int (0 : Int32)), .unset]) rfl (pc' := 3) rfl ?_
 refine w_iload X0 hx (d9_3 hby) rfl (pc' := 5) rfl ?_
 refine w_iload X0 hx (d9_5 hby) rfl (pc' := 7) rfl ?_
 refine w_icN X0 hx (d9_7 hby) (tlt (by decide : (0 : Int32) < (1 : Int32))).2.1 (pc' := 10) rfl ?_
 refine w_aloadN X0 hx (d9_10 hby) rfl rfl (pc' := 11) rfl ?_
 refine w_iloadN X0 hx (d9_11 hby) rfl (pc' := 12) rfl ?_
 obtain ⟨clu20, Aru20, qu20, Su20, Nu20, Hu20, Gu20⟩ := id V_a0
 have hinu20 := inb_of (j := (0 : Int32)) Su20 ⟨by decide, by decide⟩
 refine w_caload X0 hx hZ e0 Aru20 hinu20 (Hu20.at hinu20 rfl) (d9_12 hby) (pc' := 13) rfl ?_
 refine w_istore X0 hx (d9_13 hby) (L' := #[.val (.ref a0), .val (.int (0 : Int32)), .val (.ref a2), .val (.int (0 : Int32)), .val (.int (1 : Int32)), .val (.int (0 : Int32)), .val (.int jj0)]) rfl (pc' := 15) rfl ?_
 refine w_iload X0 hx (d9_15 hby) rfl (pc' := 17) rfl ?_
 refine w_sipush X0 hx (d9_17 hby) (v := (255 : Int32)) rfl (pc' := 20) rfl ?_
 by_cases hc21 : (255 : Int32) < jj0
 · refine w_icN X0 hx (d9_20 hby) (tlt hc21).2.2.2 (pc' := 23) rfl ?_
   refine w_iload X0 hx (d9_23 hby) rfl (pc' := 25) rfl ?_
   exact w_done X0 hlk (v := some (.int (0 : Int32))) e0 (fun h => by rw [hret] at h; cases h) (fun fs hr => retI X0 hx hret (d9_25 hby) hr) (by decide) (by decide) (Or.inr (⟨(0 : Int32), rfl, N0, (Keep.refl h0 [a2]), (by decide : ¬ ((0 : Int32) < (0 : Int32))), (by decide : (0 : Int32) < (1 : Int32)), (show (255 : Int32) < (gI [jj0, (0 : Int32), (0 : Int32), (0 : Int32)] (0 : Int32)) from hc21)⟩))
 · refine w_icY X0 hx (d9_20 hby) (flt hc21).2.2.2 (pc' := 26) (by decide) (by decide) ?_
   refine w_aloadN X0 hx (d9_26 hby) rfl rfl (pc' := 27) rfl ?_
   refine w_iloadN X0 hx (d9_27 hby) rfl (pc' := 28) rfl ?_
   refine w_iload X0 hx (d9_28 hby) rfl (pc' := 30) rfl ?_
   refine w_i2b X0 hx (d9_30 hby) (pc' := 31) rfl ?_
   obtain ⟨clu22, Aru22, qu22, Su22, Nu22, Hu22, Gu22⟩ := id V_a2
   have hinu22 := inb_of (j := (0 : Int32)) Su22 ⟨by decide, by decide⟩
   refine w_stB X0 hx hZ e0 Aru22 hinu22 (d9_31 hby) (pc' := 32) rfl ?_
   intro T23 h23 X23 e23 W23
   have V24 : Arv Z h23 a2 k_a2 .byte (1 : Int32) [(.int (nar .byte (jj0.toInt8.toInt32)))] (.int (0 : Int32)) := Arv.set Aru22 qu22 Su22 Nu22 Hu22 Gu22 (fits_nar_byte _) W23 0 rfl (Nat.le_of_ble_eq_true rfl)
   have V25 : Arv Z h23 a2 k_a2 .byte (1 : Int32) [(.int (jj0.toInt8.toInt32))] (.int (0 : Int32)) := by rw [nar_b] at V24; exact V24
   have K26 : Keep h0 h23 [a2] := (Keep.refl h0 [a2]).wr W23 (Or.inl (by simp))
   have N27 := Fr.snoc X23 N0 zz1
   refine w_iinc X23 hx (d9_32 hby) (v := (1 : Int32)) rfl rfl (L' := #[.val (.ref a0), .val (.int ((0 : Int32) + (1 : Int32))), .val (.ref a2), .val (.int (0 : Int32)), .val (.int (1 : Int32)), .val (.int (0 : Int32)), .val (.int jj0)]) rfl (pc' := 35) rfl ?_
   rw [show ((0 : Int32) + (1 : Int32)) = (1 : Int32) from by decide]
   refine w_iinc X23 hx (d9_35 hby) (v := (1 : Int32)) rfl rfl (L' := #[.val (.ref a0), .val (.int (1 : Int32)), .val (.ref a2), .val (.int ((0 : Int32) + (1 : Int32))), .val (.int (1 : Int32)), .val (.int (0 : Int32)), .val (.int jj0)]) rfl (pc' := 38) rfl ?_
   rw [show ((0 : Int32) + (1 : Int32)) = (1 : Int32) from by decide]
   refine w_iinc X23 hx (d9_38 hby) (v := (1 : Int32)) rfl rfl (L' := #[.val (.ref a0), .val (.int (1 : Int32)), .val (.ref a2), .val (.int (1 : Int32)), .val (.int (1 : Int32)), .val (.int ((0 : Int32) + (1 : Int32))), .val (.int jj0)]) rfl (pc' := 41) rfl ?_
   rw [show ((0 : Int32) + (1 : Int32)) = (1 : Int32) from by decide]
   refine w_goto X23 hx (d9_41 hby) (pc' := 3) (by decide) (by decide) ?_
   refine w_iload X23 hx (d9_3 hby) rfl (pc' := 5) rfl ?_
   refine w_iload X23 hx (d9_5 hby) rfl (pc' := 7) rfl ?_
   refine w_icY X23 hx (d9_7 hby) (flt (by decide : ¬ ((1 : Int32) < (1 : Int32)))).2.1 (pc' := 44) (by decide) (by decide) ?_
   refine w_iload X23 hx (d9_44 hby) rfl (pc' := 46) rfl ?_
   exact w_done X23 hlk (v := some (.int (1 : Int32))) e23 (fun h => by rw [hret] at h; cases h) (fun fs hr => retI X23 hx hret (d9_46 hby) hr) (by decide) (by decide) (Or.inl ⟨rfl, N27, K26, V25, hc21⟩)
theorem ef_m13_15 (m : MethodId)   : entryFrame m #[(.int (1 : Int32))] 1 = mkF m 0 #[.val (.int (1 : Int32))] [] := by first | (simp [entryFrame, mkF, argsToLocals, Value.category]; done) | rfl
def Q_m13_15 (Z : State)  (h0 : Heap) (n0 : Nat) (v : Option Value) (h : Heap) (L : List Loc) : Prop := v = some (.int (2 : Int32)) ∧ Fr n0 L ∧ h = h0
theorem rm_m13_15 (l : Launch) (Z : State) (aZ : Array Value) (hw : ∀ d ∈ tables_1, d.before aZ Z = true) (ws : List Jvm.Cond)  (h0 : Heap) (n0 : Nat) (Z0 : n0 ≤ h0.size) :
    MetN l Z yn_13 jdk_52_method_3_code 1 (some .int) ws ({ frames := 0, cells := 0, slots := 0, locals := 0 } : Room) #[(.int (1 : Int32))] h0 (Q_m13_15 Z  h0 n0) := by
 refine MetN.of (plainFor_of_name pn_4) ?_
 intro p e s m below meth c s₁ hret hx hby hml hown hnm hlk hZ X0 e0
 have N0 := Fr.nil n0
 rw [ef_m13_15 m ]
 refine w_iloadN X0 hx (d13_0 hby) rfl (pc' := 1) rfl ?_
 refine w_ifY X0 hx (d13_1 hby) (flt (by decide : ¬ ((1 : Int32) < (0 : Int32)))).2.1 (pc' := 12) (by decide) (by decide) ?_
 refine w_iloadN X0 hx (d13_12 hby) rfl (pc' := 13) rfl ?_
 refine w_ldcI X0 hx hZ hown (wd_64 hw) (d13_13 hby) (pc' := 15) rfl ?_
 refine w_icY X0 hx (d13_15 hby) (tlt (by decide : (1 : Int32) < (1073741823 : Int32))).1 (pc' := 55) (by decide) (by decide) ?_
 refine w_iloadN X0 hx (d13_55 hby) rfl (pc' := 56) rfl ?_
 refine w_iconst X0 hx (d13_56 hby) (v := (1 : Int32)) rfl (pc' := 57) rfl ?_
 refine w_ishl X0 hx (d13_57 hby) (pc' := 58) rfl ?_
 rw [show ((1 : Int32) <<< ((1 : Int32) &&& 31)) = (2 : Int32) from by decide]
 exact w_done X0 hlk (v := some (.int (2 : Int32))) e0 (fun h => by rw [hret] at h; cases h) (fun fs hr => retI X0 hx hret (d13_58 hby) hr) (by decide) (by decide) (⟨rfl, N0, rfl⟩)
theorem ef_m12_14 (m : MethodId)   : entryFrame m #[(.int (1 : Int32))] 1 = mkF m 0 #[.val (.int (1 : Int32))] [] := by first | (simp [entryFrame, mkF, argsToLocals, Value.category]; done) | rfl
def Q_m12_14 (Z : State)  (h0 : Heap) (n0 : Nat) (v : Option Value) (h : Heap) (L : List Loc) : Prop := ∃ (r0 : Addr) (c0 : ClassId), v = some (.ref r0) ∧ Fr n0 L ∧ Keep h0 h [] ∧ h0.size ≤ r0 ∧ Arv Z h r0 c0 .byte (2 : Int32) [(.int (0 : Int32)), (.int (0 : Int32))] (.int (0 : Int32))
theorem rm_m12_14 (l : Launch) (Z : State) (aZ : Array Value) (hw : ∀ d ∈ tables_1, d.before aZ Z = true) (ws : List Jvm.Cond)  (h0 : Heap) (n0 : Nat) (Z0 : n0 ≤ h0.size) :
    MetN l Z yn_12 jdk_52_method_2_code 1 (some (.array .byte)) ws ({ frames := 1, cells := 1, slots := 2, locals := 12 } : Room) #[(.int (1 : Int32))] h0 (Q_m12_14 Z  h0 n0) := by
 refine MetN.of (plainFor_of_name pn_4) ?_
 intro p e s m below meth c s₁ hret hx hby hml hown hnm hlk hZ X0 e0
 have N0 := Fr.nil n0
 rw [ef_m12_14 m ]
 refine w_iloadN X0 hx (d12_0 hby) rfl (pc' := 1) rfl ?_
 refine w_static X0 hx (y := yn_13) hown (mvT hZ (wd_61 hw)) (mvT hZ (wd_62 hw)) (mvT hZ (wd_47 hw)) (mvT hZ (wd_63 hw)) (by decide) (backOf (W := 0) (rm_m13_15 l Z aZ hw []  h0 n0 Z0 ) hZ (wd_63 hw) (wd_47 hw) (by decide) (by decide)) (by rw [hml]; rfl) [(.int (1 : Int32))] (lenOf pd_7 rfl) rfl (Nat.le_of_eq rfl) (d12_1 hby) (fun _ _ => ⟨rfl, e0, (by decide : 0 + 0 ≤ _), (by decide : 0 + 0 ≤ _)⟩) (pc' := 4) rfl ?_
 rintro _ _ ⟨T20, L20, k20, n20⟩ X20 ⟨Lc20, hQ20, l20, y20, z20⟩
 dsimp only [Pt.U, Pt.locs, Pt.cells, Pt.slots] at X20 l20 y20 z20 hQ20 ⊢
 subst l20 y20 z20
 obtain ⟨rfl, N20q, e20⟩ := hQ20
 have N21 := Fr.app N0 N20q
 show Runs _ _ _ _ (T20.setTop (mkF m 4 #[.val (.int (1 : Int32))] [(.int (2 : Int32))]))
 refine w_newP X20 hx .byte .byte 2 rfl hZ (wd_21 hw) e20 (d12_4 hby) (by decide) (by decide) (by decide) (by decide) (by decide) (pc' := 6) rfl ?_
 intro T22 h22 k22 b22 X22 e22 E22 g22 A22
 have ge23 : n0 ≤ b22 := Nat.le_trans Z0 (Nat.le_of_eq g22.symm)
 have sz24 : h0.size ≤ b22 := Nat.le_trans (Nat.le_refl _) (Nat.le_of_eq g22.symm)
 have K25 : Keep h0 h22 [] := (Keep.refl h0 []).ext E22
 have V26 : Arv Z h22 b22 k22 .byte (2 : Int32) [(.int (0 : Int32)), (.int (0 : Int32))] (.int (0 : Int32)) := (Arv.new A22 (by decide)).pad (pad_rep [] (.int (0 : Int32)) 2)
 exact w_done X22 hlk (v := some (.ref b22)) e22 (fun h => by rw [hret] at h; cases h) (fun fs hr => retOut X22 hx hret rfl (Or.inr (Or.inr (Or.inr (Or.inr ⟨rfl, rfl, rfl⟩)))) (d12_6 hby) hr) (by decide) (by decide) (⟨b22, k22, rfl, N21, K25, sz24, V26⟩)
theorem ef_m14_16 (m : MethodId) (a0 : Addr) (p2 : Int32)  : entryFrame m #[(.ref a0), (.int (0 : Int32)), (.int p2)] 3 = mkF m 0 #[.val (.ref a0), .val (.int (0 : Int32)), .val (.int p2)] [] := by first | (simp [entryFrame, mkF, argsToLocals, Value.category]; done) | rfl
def Q_m14_16 (Z : State) (a0 : Addr) (p2 : Int32) (k_a0 : ClassId) (h0 : Heap) (n0 : Nat) (v : Option Value) (h : Heap) (L : List Loc) : Prop := v = none ∧ Fr n0 L ∧ Keep h0 h [a0] ∧ Arv Z h a0 k_a0 .byte (2 : Int32) [(.int ((p2 >>> ((0 : Int32) &&& 31)).toInt8.toInt32)), (.int ((p2 >>> ((8 : Int32) &&& 31)).toInt8.toInt32))] (.int (0 : Int32))
theorem rm_m14_16 (l : Launch) (Z : State) (aZ : Array Value) (hw : ∀ d ∈ tables_1, d.before aZ Z = true) (ws : List Jvm.Cond) (a0 : Addr) (p2 : Int32) (k_a0 : ClassId) (h0 : Heap) (n0 : Nat) (Z0 : n0 ≤ h0.size) (zz0 : Sta Z Z.heap kc1 "$assertionsDisabled" "Z" (.int (1 : Int32))) (O0 : Old Z n0 h0) (zz1 : Sta Z Z.heap kc1 "HI_BYTE_SHIFT" "I" (.int (0 : Int32))) (V_a0 : Arv Z h0 a0 k_a0 .byte (2 : Int32) [(.int (0 : Int32)), (.int (0 : Int32))] (.int (0 : Int32))) (zz2 : n0 ≤ a0) (zz3 : Sta Z Z.heap kc1 "LO_BYTE_SHIFT" "I" (.int (8 : Int32))) :
    MetN l Z yn_14 jdk_52_method_4_code 3 none ws ({ frames := 0, cells := 0, slots := 0, locals := 0 } : Room) #[(.ref a0), (.int (0 : Int32)), (.int p2)] h0 (Q_m14_16 Z a0 p2 k_a0 h0 n0) := by
 refine MetN.of (plainFor_of_name pn_4) ?_
 intro p e s m below meth c s₁ hret hx hby hml hown hnm hlk hZ X0 e0
 have N0 := Fr.nil n0
 rw [ef_m14_16 m a0 p2]
 refine w_getS X0 hx "" hZ hown (Or.inl (wd_68 hw)) Via.refl e0 (zz0.ext O0.2) (d14_0 hby) (pc' := 3) rfl ?_
 intro T20 X20 e20
 refine w_ifY X20 hx (d14_3 hby) (feq (by decide : ¬ ((1 : Int32) = (0 : Int32)))).2 (pc' := 28) (by decide) (by decide) ?_
 refine w_iloadN X20 hx (d14_28 hby) rfl (pc' := 29) rfl ?_
 refine w_iconst X20 hx (d14_29 hby) (v := (1 : Int32)) rfl (pc' := 30) rfl ?_
 refine w_ishl X20 hx (d14_30 hby) (pc' := 31) rfl ?_
 rw [show ((0 : Int32) <<< ((1 : Int32) &&& 31)) = (0 : Int32) from by decide]
 refine w_istoreN X20 hx (d14_31 hby) (L' := #[.val (.ref a0), .val (.int (0 : Int32)), .val (.int p2)]) rfl (pc' := 32) rfl ?_
 refine w_aloadN X20 hx (d14_32 hby) rfl rfl (pc' := 33) rfl ?_
 refine w_iloadN X20 hx (d14_33 hby) rfl (pc' := 34) rfl ?_
 refine w_iinc X20 hx (d14_34 hby) (v := (1 : Int32)) rfl rfl (L' := #[.val (.ref a0), .val (.int ((0 : Int32) + (1 : Int32))), .val (.int p2)]) rfl (pc' := 37) rfl ?_
 rw [show ((0 : Int32) + (1 : Int32)) = (1 : Int32) from by decide]
 refine w_iloadN X20 hx (d14_37 hby) rfl (pc' := 38) rfl ?_
 refine w_getS X20 hx "" hZ hown (Or.inl (wd_69 hw)) Via.refl e20 (zz1.ext O0.2) (d14_38 hby) (pc' := 41) rfl ?_
 intro T21 X21 e21
 refine w_ishr X21 hx (d14_41 hby) (pc' := 42) rfl ?_
 refine w_i2b X21 hx (d14_42 hby) (pc' := 43) rfl ?_
 obtain ⟨clu22, Aru22, qu22, Su22, Nu22, Hu22, Gu22⟩ := id V_a0
 have hinu22 := inb_of (j := (0 : Int32)) Su22 ⟨by decide, by decide⟩
 refine w_stB X21 hx hZ e21 Aru22 hinu22 (d14_43 hby) (pc' := 44) rfl ?_
 intro T23 h23 X23 e23 W23
 have V24 : Arv Z h23 a0 k_a0 .byte (2 : Int32) [(.int (nar .byte ((p2 >>> ((0 : Int32) &&& 31)).toInt8.toInt32))), (.int (0 : Int32))] (.int (0 : Int32)) := Arv.set Aru22 qu22 Su22 Nu22 Hu22 Gu22 (fits_nar_byte _) W23 0 rfl (Nat.le_of_ble_eq_true rfl)
 have V25 : Arv Z h23 a0 k_a0 .byte (2 : Int32) [(.int ((p2 >>> ((0 : Int32) &&& 31)).toInt8.toInt32)), (.int (0 : Int32))] (.int (0 : Int32)) := by rw [nar_b] at V24; exact V24
 have K26 : Keep h0 h23 [a0] := (Keep.refl h0 [a0]).wr W23 (Or.inl (by simp))
 have N27 := Fr.snoc X23 N0 zz2
 refine w_aloadN X23 hx (d14_44 hby) rfl rfl (pc' := 45) rfl ?_
 refine w_iloadN X23 hx (d14_45 hby) rfl (pc' := 46) rfl ?_
 refine w_iloadN X23 hx (d14_46 hby) rfl (pc' := 47) rfl ?_
 have f28 : Old Z n0 h23 := (O0.wr W23 zz2)
 refine w_getS X23 hx "" hZ hown (Or.inl (wd_70 hw)) Via.refl e23 (zz3.ext f28.2) (d14_47 hby) (pc' := 50) rfl ?_
 intro T29 X29 e29
 refine w_ishr X29 hx (d14_50 hby) (pc' := 51) rfl ?_
 refine w_i2b X29 hx (d14_51 hby) (pc' := 52) rfl ?_
 obtain ⟨clu30, Aru30, qu30, Su30, Nu30, Hu30, Gu30⟩ := id V25
 have hinu30 := inb_of (j := (1 : Int32)) Su30 ⟨by decide, by decide⟩
 refine w_stB X29 hx hZ e29 Aru30 hinu30 (d14_52 hby) (pc' := 53) rfl ?_
 intro T31 h31 X31 e31 W31
 have V32 : Arv Z h31 a0 k_a0 .byte (2 : Int32) [(.int ((p2 >>> ((0 : Int32) &&& 31)).toInt8.toInt32)), (.int (nar .byte ((p2 >>> ((8 : Int32) &&& 31)).toInt8.toInt32)))] (.int (0 : Int32)) := Arv.set Aru30 qu30 Su30 Nu30 Hu30 Gu30 (fits_nar_byte _) W31 1 rfl (Nat.le_of_ble_eq_true rfl)
 have V33 : Arv Z h31 a0 k_a0 .byte (2 : Int32) [(.int ((p2 >>> ((0 : Int32) &&& 31)).toInt8.toInt32)), (.int ((p2 >>> ((8 : Int32) &&& 31)).toInt8.toInt32))] (.int (0 : Int32)) := by rw [nar_b] at V32; exact V32
 have K34 : Keep h0 h31 [a0] := K26.wr W31 (Or.inl (by simp))
 have N35 := Fr.snoc X31 N27 zz2
 exact w_done X31 hlk (v := none) e31 (fun _ => rfl) (fun fs hr => X31.returnOut hx hret (d14_53 hby) hr) (by decide) (by decide) (⟨rfl, N35, K34, V33⟩)
theorem ef_m11_13 (m : MethodId) (a0 : Addr)  : entryFrame m #[(.ref a0), (.int (0 : Int32)), (.int (1 : Int32))] 5 = mkF m 0 #[.val (.ref a0), .val (.int (0 : Int32)), .val (.int (1 : Int32)), .unset, .unset] [] := by first | (simp [entryFrame, mkF, argsToLocals, Value.category]; done) | rfl
def Q_m11_13 (Z : State) (a0 : Addr) (k_a0 : ClassId) (jj0 : Int32) (h0 : Heap) (n0 : Nat) (v : Option Value) (h : Heap) (L : List Loc) : Prop := ∃ (r0 : Addr) (c0 : ClassId), v = some (.ref r0) ∧ Fr n0 L ∧ Keep h0 h [] ∧ h0.size ≤ r0 ∧ Arv Z h r0 c0 .byte (2 : Int32) [(.int ((jj0 >>> ((0 : Int32) &&& 31)).toInt8.toInt32)), (.int ((jj0 >>> ((8 : Int32) &&& 31)).toInt8.toInt32))] (.int (0 : Int32))
theorem rm_m11_13 (l : Launch) (Z : State) (aZ : Array Value) (hw : ∀ d ∈ tables_1, d.before aZ Z = true) (ws : List Jvm.Cond) (a0 : Addr) (k_a0 : ClassId) (jj0 : Int32) (h0 : Heap) (n0 : Nat) (Z0 : n0 ≤ h0.size) (V_a0 : Arv Z h0 a0 k_a0 .char (1 : Int32) [(.int jj0)] (.int (0 : Int32))) (zz1 : Sta Z Z.heap kc1 "$assertionsDisabled" "Z" (.int (1 : Int32))) (O0 : Old Z n0 h0) (zz2 : Sta Z Z.heap kc1 "HI_BYTE_SHIFT" "I" (.int (0 : Int32))) (zz3 : Sta Z Z.heap kc1 "LO_BYTE_SHIFT" "I" (.int (8 : Int32))) :
    MetN l Z yn_11 jdk_52_method_14_code 5 (some (.array .byte)) ws ({ frames := 2, cells := 1, slots := 2, locals := 24 } : Room) #[(.ref a0), (.int (0 : Int32)), (.int (1 : Int32))] h0 (Q_m11_13 Z a0 k_a0 jj0 h0 n0) := by
 refine MetN.of (plainFor_of_name pn_4) ?_
 intro p e s m below meth c s₁ hret hx hby hml hown hnm hlk hZ X0 e0
 have N0 := Fr.nil n0
 rw [ef_m11_13 m a0]
 refine w_iloadN X0 hx (d11_0 hby) rfl (pc' := 1) rfl ?_
 refine w_static X0 hx (y := yn_12) hown (mvT hZ (wd_58 hw)) (mvT hZ (wd_59 hw)) (mvT hZ (wd_47 hw)) (mvT hZ (wd_60 hw)) (by decide) (backOf (W := 0) (rm_m12_14 l Z aZ hw []  h0 n0 Z0 ) hZ (wd_60 hw) (wd_47 hw) (by decide) (by decide)) (by rw [hml]; rfl) [(.int (1 : Int32))] (lenOf pd_8 rfl) rfl (Nat.le_of_eq rfl) (d11_1 hby) (fun _ _ => ⟨rfl, e0, (by decide : 0 + 1 ≤ _), (by decide : 0 + 2 ≤ _)⟩) (pc' := 4) rfl ?_
 rintro _ _ ⟨T20, L20, k20, n20⟩ X20 ⟨Lc20, hQ20, l20, y20, z20⟩
 dsimp only [Pt.U, Pt.locs, Pt.cells, Pt.slots] at X20 l20 y20 z20 hQ20 ⊢
 subst l20 y20 z20
 obtain ⟨r0_20, c0_20, rfl, N20q, K20, g20_0, g20_1⟩ := hQ20
 have N21 := Fr.app N0 N20q
 have K22 : Keep h0 T20.heap [] := (Keep.refl h0 []).trans K20 (all0 (P := fun x => x ∈ [] ∨ h0.size ≤ x))
 have ge23 : n0 ≤ r0_20 := Nat.le_trans Z0 g20_0
 have sz24 : h0.size ≤ r0_20 := Nat.le_trans (Nat.le_refl _) g20_0
 show Runs _ _ _ _ (T20.setTop (mkF m 4 #[.val (.ref a0), .val (.int (0 : Int32)), .val (.int (1 : Int32)), .unset, .unset] [(.ref r0_20)]))
 refine w_astoreN X20 hx (d11_4 hby) rfl (L' := #[.val (.ref a0), .val (.int (0 : Int32)), .val (.int (1 : Int32)), .val (.ref r0_20), .unset]) rfl (pc' := 5) rfl ?_
 refine w_iconst X20 hx (d11_5 hby) (v := (0 : Int32)) rfl (pc' := 6) rfl ?_
 refine w_istore X20 hx (d11_6 hby) (L' := #[.val (.ref a0), .val (.int (0 : Int32)), .val (.int (1 : Int32)), .val (.ref r0_20), .val (.int (0 : Int32))]) rfl (pc' := 8) rfl ?_
 refine w_iload X20 hx (d11_8 hby) rfl (pc' := 10) rfl ?_
 refine w_iloadN X20 hx (d11_10 hby) rfl (pc' := 11) rfl ?_
 refine w_icN X20 hx (d11_11 hby) (tlt (by decide : (0 : Int32) < (1 : Int32))).2.1 (pc' := 14) rfl ?_
 refine w_aloadN X20 hx (d11_14 hby) rfl rfl (pc' := 15) rfl ?_
 refine w_iload X20 hx (d11_15 hby) rfl (pc' := 17) rfl ?_
 refine w_aloadN X20 hx (d11_17 hby) rfl rfl (pc' := 18) rfl ?_
 refine w_iloadN X20 hx (d11_18 hby) rfl (pc' := 19) rfl ?_
 have f25 : Arv Z T20.heap a0 k_a0 .char (1 : Int32) [(.int jj0)] (.int (0 : Int32)) := (V_a0.keep K20 nin0)
 obtain ⟨clu26, Aru26, qu26, Su26, Nu26, Hu26, Gu26⟩ := id f25
 have hinu26 := inb_of (j := (0 : Int32)) Su26 ⟨by decide, by decide⟩
 refine w_caload X20 hx hZ rfl Aru26 hinu26 (Hu26.at hinu26 rfl) (d11_19 hby) (pc' := 20) rfl ?_
 have f27 : Old Z n0 T20.heap := (O0.keep K20 all0)
 refine w_static X20 hx (y := yn_14) hown (mvT hZ (wd_65 hw)) (mvT hZ (wd_66 hw)) (mvT hZ (wd_47 hw)) (mvT hZ (wd_67 hw)) (by decide) (backOf (W := 0) (rm_m14_16 l Z aZ hw [] r0_20 jj0 c0_20 T20.heap n0 (Nat.le_trans Z0 K20.1) zz1 f27 zz2 g20_1 ge23 zz3) hZ (wd_67 hw) (wd_47 hw) (by decide) (by decide)) (by rw [hml]; rfl) [(.ref r0_20), (.int (0 : Int32)), (.int jj0)] (lenOf pd_9 rfl) rfl (Nat.le_of_eq rfl) (d11_20 hby) (fun _ _ => ⟨rfl, rfl, (by decide : 1 + 0 ≤ _), (by decide : 2 + 0 ≤ _)⟩) (pc' := 23) rfl ?_
 rintro _ _ ⟨T28, L28, k28, n28⟩ X28 ⟨Lc28, hQ28, l28, y28, z28⟩
 dsimp only [Pt.U, Pt.locs, Pt.cells, Pt.slots] at X28 l28 y28 z28 hQ28 ⊢
 subst l28 y28 z28
 obtain ⟨rfl, N28q, K28, g28_0⟩ := hQ28
 have N29 := Fr.app N21 N28q
 have K30 : Keep h0 T28.heap [] := K22.trans K28 (allS (Or.inr sz24) (all0 (P := fun x => x ∈ [] ∨ h0.size ≤ x)))
 show Runs _ _ _ _ (T28.setTop (mkF m 23 #[.val (.ref a0), .val (.int (0 : Int32)), .val (.int (1 : Int32)), .val (.ref r0_20), .val (.int (0 : Int32))] []))
 refine w_iinc X28 hx (d11_23 hby) (v := (1 : Int32)) rfl rfl (L' := #[.val (.ref a0), .val (.int ((0 : Int32) + (1 : Int32))), .val (.int (1 : Int32)), .val (.ref r0_20), .val (.int (0 : Int32))]) rfl (pc' := 26) rfl ?_
 rw [show ((0 : Int32) + (1 : Int32)) = (1 : Int32) from by decide]
 refine w_iinc X28 hx (d11_26 hby) (v := (1 : Int32)) rfl rfl (L' := #[.val (.ref a0), .val (.int (1 : Int32)), .val (.int (1 : Int32)), .val (.ref r0_20), .val (.int ((0 : Int32) + (1 : Int32)))]) rfl (pc' := 29) rfl ?_
 rw [show ((0 : Int32) + (1 : Int32)) = (1 : Int32) from by decide]
 refine w_goto X28 hx (d11_29 hby) (pc' := 8) (by decide) (by decide) ?_
 refine w_iload X28 hx (d11_8 hby) rfl (pc' := 10) rfl ?_
 refine w_iloadN X28 hx (d11_10 hby) rfl (pc' := 11) rfl ?_
 refine w_icY X28 hx (d11_11 hby) (flt (by decide : ¬ ((1 : Int32) < (1 : Int32)))).2.1 (pc' := 32) (by decide) (by decide) ?_
 refine w_aloadN X28 hx (d11_32 hby) rfl rfl (pc' := 33) rfl ?_
 exact w_done X28 hlk (v := some (.ref r0_20)) rfl (fun h => by rw [hret] at h; cases h) (fun fs hr => retOut X28 hx hret rfl (Or.inr (Or.inr (Or.inr (Or.inr ⟨rfl, rfl, rfl⟩)))) (d11_33 hby) hr) (by decide) (by decide) (⟨r0_20, c0_20, rfl, N29, K30, sz24, g28_0⟩)
theorem ef_m15_17 (m : MethodId) (a0 : Addr) (p1 : Int32)  : entryFrame m #[(.ref a0), (.int p1)] 2 = mkF m 0 #[.val (.ref a0), .val (.int p1)] [] := by first | (simp [entryFrame, mkF, argsToLocals, Value.category]; done) | rfl
def Q_m15_17 (Z : State) (a0 : Addr) (p1 : Int32) (k_a0 : ClassId) (jj0 : Int32) (jj1 : Int32) (h0 : Heap) (n0 : Nat) (v : Option Value) (h : Heap) (L : List Loc) : Prop := v = some (.int (((((gI [jj0, jj1] (p1 <<< ((1 : Int32) &&& 31))) &&& (255 : Int32)) <<< ((0 : Int32) &&& 31)) ||| (((gI [jj0, jj1] ((p1 <<< ((1 : Int32) &&& 31)) + (1 : Int32))) &&& (255 : Int32)) <<< ((8 : Int32) &&& 31))).toUInt32.toUInt16.toUInt32.toInt32)) ∧ Fr n0 L ∧ h = h0
theorem rm_m15_17 (l : Launch) (Z : State) (aZ : Array Value) (hw : ∀ d ∈ tables_1, d.before aZ Z = true) (ws : List Jvm.Cond) (a0 : Addr) (p1 : Int32) (k_a0 : ClassId) (jj0 : Int32) (jj1 : Int32) (h0 : Heap) (n0 : Nat) (Z0 : n0 ≤ h0.size) (zz2 : Sta Z Z.heap kc1 "$assertionsDisabled" "Z" (.int (1 : Int32))) (O0 : Old Z n0 h0) (V_a0 : Arv Z h0 a0 k_a0 .byte (2 : Int32) [(.int jj0), (.int jj1)] (.int (0 : Int32))) (hP_3 : ¬ (p1 < (0 : Int32))) (hP_4 : p1 < (1 : Int32)) (zz3 : Sta Z Z.heap kc1 "HI_BYTE_SHIFT" "I" (.int (0 : Int32))) (zz4 : Sta Z Z.heap kc1 "LO_BYTE_SHIFT" "I" (.int (8 : Int32))) :
    MetN l Z yn_15 jdk_52_method_5_code 2 (some .char) ws ({ frames := 0, cells := 0, slots := 0, locals := 0 } : Room) #[(.ref a0), (.int p1)] h0 (Q_m15_17 Z a0 p1 k_a0 jj0 jj1 h0 n0) := by
 refine MetN.of (plainFor_of_name pn_4) ?_
 intro p e s m below meth c s₁ hret hx hby hml hown hnm hlk hZ X0 e0
 have N0 := Fr.nil n0
 rw [ef_m15_17 m a0 p1]
 refine w_getS X0 hx "" hZ hown (Or.inl (wd_68 hw)) Via.refl e0 (zz2.ext O0.2) (d15_0 hby) (pc' := 3) rfl ?_
 intro T20 X20 e20
 refine w_ifY X20 hx (d15_3 hby) (feq (by decide : ¬ ((1 : Int32) = (0 : Int32)))).2 (pc' := 28) (by decide) (by decide) ?_
 refine w_iloadN X20 hx (d15_28 hby) rfl (pc' := 29) rfl ?_
 refine w_iconst X20 hx (d15_29 hby) (v := (1 : Int32)) rfl (pc' := 30) rfl ?_
 refine w_ishl X20 hx (d15_30 hby) (pc' := 31) rfl ?_
 refine w_istoreN X20 hx (d15_31 hby) (L' := #[.val (.ref a0), .val (.int (p1 <<< ((1 : Int32) &&& 31)))]) rfl (pc' := 32) rfl ?_
 refine w_aloadN X20 hx (d15_32 hby) rfl rfl (pc' := 33) rfl ?_
 refine w_iloadN X20 hx (d15_33 hby) rfl (pc' := 34) rfl ?_
 refine w_iinc X20 hx (d15_34 hby) (v := (1 : Int32)) rfl rfl (L' := #[.val (.ref a0), .val (.int ((p1 <<< ((1 : Int32) &&& 31)) + (1 : Int32)))]) rfl (pc' := 37) rfl ?_
 obtain ⟨clu21, Aru21, qu21, Su21, Nu21, Hu21, Gu21⟩ := id V_a0
 have hinu21 := inb_of (j := (p1 <<< ((1 : Int32) &&& 31))) Su21 ⟨(own_shl_in (n := 1) (by decide) (by decide) hP_3 hP_4).1.1, (Eq.mp (congrArg (fun z => (p1 <<< ((1 : Int32) &&& 31)) < z) (by decide : (1 : Int32) <<< ((1 : Int32) &&& 31) = 2)) (own_shl_in (n := 1) (by decide) (by decide) hP_3 hP_4).1.2)⟩
 refine w_baload X20 hx hZ e20 Aru21 hinu21 (Hu21.at hinu21 (own_gI [jj0, jj1] (p1 <<< ((1 : Int32) &&& 31)))) (d15_37 hby) (pc' := 38) rfl ?_
 refine w_sipush X20 hx (d15_38 hby) (v := (255 : Int32)) rfl (pc' := 41) rfl ?_
 refine w_iand X20 hx (d15_41 hby) (pc' := 42) rfl ?_
 refine w_getS X20 hx "" hZ hown (Or.inl (wd_69 hw)) Via.refl e20 (zz3.ext O0.2) (d15_42 hby) (pc' := 45) rfl ?_
 intro T22 X22 e22
 refine w_ishl X22 hx (d15_45 hby) (pc' := 46) rfl ?_
 refine w_aloadN X22 hx (d15_46 hby) rfl rfl (pc' := 47) rfl ?_
 refine w_iloadN X22 hx (d15_47 hby) rfl (pc' := 48) rfl ?_
 obtain ⟨clu23, Aru23, qu23, Su23, Nu23, Hu23, Gu23⟩ := id V_a0
 have hinu23 := inb_of (j := ((p1 <<< ((1 : Int32) &&& 31)) + (1 : Int32))) Su23 ⟨(own_shl_in (n := 1) (by decide) (by decide) hP_3 hP_4).2.1, (Eq.mp (congrArg (fun z => ((p1 <<< ((1 : Int32) &&& 31)) + (1 : Int32)) < z) (by decide : (1 : Int32) <<< ((1 : Int32) &&& 31) = 2)) (own_shl_in (n := 1) (by decide) (by decide) hP_3 hP_4).2.2)⟩
 refine w_baload X22 hx hZ e22 Aru23 hinu23 (Hu23.at hinu23 (own_gI [jj0, jj1] ((p1 <<< ((1 : Int32) &&& 31)) + (1 : Int32)))) (d15_48 hby) (pc' := 49) rfl ?_
 refine w_sipush X22 hx (d15_49 hby) (v := (255 : Int32)) rfl (pc' := 52) rfl ?_
 refine w_iand X22 hx (d15_52 hby) (pc' := 53) rfl ?_
 refine w_getS X22 hx "" hZ hown (Or.inl (wd_70 hw)) Via.refl e22 (zz4.ext O0.2) (d15_53 hby) (pc' := 56) rfl ?_
 intro T24 X24 e24
 refine w_ishl X24 hx (d15_56 hby) (pc' := 57) rfl ?_
 refine w_ior X24 hx (d15_57 hby) (pc' := 58) rfl ?_
 refine w_i2c X24 hx (d15_58 hby) (pc' := 59) rfl ?_
 exact w_done X24 hlk (v := some (.int (((((gI [jj0, jj1] (p1 <<< ((1 : Int32) &&& 31))) &&& (255 : Int32)) <<< ((0 : Int32) &&& 31)) ||| (((gI [jj0, jj1] ((p1 <<< ((1 : Int32) &&& 31)) + (1 : Int32))) &&& (255 : Int32)) <<< ((8 : Int32) &&& 31))).toUInt32.toUInt16.toUInt32.toInt32))) e24 (fun h => by rw [hret] at h; cases h) (fun fs hr => retOut X24 hx hret (t := .char) (XT.narrow_c _) (Or.inl ⟨rfl, by simp, _, rfl⟩) (d15_59 hby) hr) (by decide) (by decide) (⟨rfl, N0, rfl⟩)
theorem ef_m8_11 (m : MethodId) (a0 : Addr)  : entryFrame m #[(.ref a0), (.int (0 : Int32)), (.int (1 : Int32))] 6 = mkF m 0 #[.val (.ref a0), .val (.int (0 : Int32)), .val (.int (1 : Int32)), .unset, .unset, .unset] [] := by first | (simp [entryFrame, mkF, argsToLocals, Value.category]; done) | rfl
def Q_m8_11 (Z : State) (a0 : Addr) (k_a0 : ClassId) (jj0 : Int32) (h0 : Heap) (n0 : Nat) (v : Option Value) (h : Heap) (L : List Loc) : Prop := (∃ (t : Addr) (kb : ClassId), v = some (.ref t) ∧ Fr n0 L ∧ Keep h0 h [] ∧ h0.size ≤ t ∧ Arv Z h t kb .byte (1 : Int32) [(.int (jj0.toInt8.toInt32))] (.int (0 : Int32)) ∧ ¬ ((255 : Int32) < jj0)) ∨ (∃ (t : Addr) (kb : ClassId), v = some (.ref t) ∧ Fr n0 L ∧ Keep h0 h [] ∧ h0.size ≤ t ∧ Arv Z h t kb .byte (2 : Int32) [(.int ((jj0 >>> ((0 : Int32) &&& 31)).toInt8.toInt32)), (.int ((jj0 >>> ((8 : Int32) &&& 31)).toInt8.toInt32))] (.int (0 : Int32)) ∧ (255 : Int32) < jj0)
theorem rm_m8_11 (l : Launch) (Z : State) (aZ : Array Value) (hw : ∀ d ∈ tables_1, d.before aZ Z = true) (ws : List Jvm.Cond) (a0 : Addr) (k_a0 : ClassId) (jj0 : Int32) (h0 : Heap) (n0 : Nat) (Z0 : n0 ≤ h0.size) (V_a0 : Arv Z h0 a0 k_a0 .char (1 : Int32) [(.int jj0)] (.int (0 : Int32))) (zz1 : Sta Z Z.heap kc1 "$assertionsDisabled" "Z" (.int (1 : Int32))) (O0 : Old Z n0 h0) (zz2 : Sta Z Z.heap kc1 "HI_BYTE_SHIFT" "I" (.int (0 : Int32))) (zz3 : Sta Z Z.heap kc1 "LO_BYTE_SHIFT" "I" (.int (8 : Int32))) (zz4 : nar .char jj0 = jj0) :
    MetN l Z yn_8 jdk_52_method_16_code 6 (some (.array .byte)) ws ({ frames := 3, cells := 2, slots := 3, locals := 40 } : Room) #[(.ref a0), (.int (0 : Int32)), (.int (1 : Int32))] h0 (Q_m8_11 Z a0 k_a0 jj0 h0 n0) := by
 refine MetN.of (plainFor_of_name pn_4) ?_
 intro p e s m below meth c s₁ hret hx hby hml hown hnm hlk hZ X0 e0
 have N0 := Fr.nil n0
 rw [ef_m8_11 m a0]
 refine w_iloadN X0 hx (d8_0 hby) rfl (pc' := 1) rfl ?_
 refine w_newP X0 hx .byte .byte 1 rfl hZ (wd_21 hw) e0 (d8_1 hby) (by decide) (by decide) (by decide) (by decide) (by decide) (pc' := 3) rfl ?_
 intro T20 h20 k20 b20 X20 e20 E20 g20 A20
 have ge21 : n0 ≤ b20 := Nat.le_trans Z0 (Nat.le_of_eq g20.symm)
 have sz22 : h0.size ≤ b20 := Nat.le_trans (Nat.le_refl _) (Nat.le_of_eq g20.symm)
 have K23 : Keep h0 h20 [] := (Keep.refl h0 []).ext E20
 have V24 : Arv Z h20 b20 k20 .byte (1 : Int32) [(.int (0 : Int32))] (.int (0 : Int32)) := (Arv.new A20 (by decide)).pad (pad_rep [] (.int (0 : Int32)) 1)
 refine w_astoreN X20 hx (d8_3 hby) rfl (L' := #[.val (.ref a0), .val (.int (0 : Int32)), .val (.int (1 : Int32)), .val (.ref b20), .unset, .unset]) rfl (pc' := 4) rfl ?_
 refine w_aloadN X20 hx (d8_4 hby) rfl rfl (pc' := 5) rfl ?_
 refine w_iloadN X20 hx (d8_5 hby) rfl (pc' := 6) rfl ?_
 refine w_aloadN X20 hx (d8_6 hby) rfl rfl (pc' := 7) rfl ?_
 refine w_iconst X20 hx (d8_7 hby) (v := (0 : Int32)) rfl (pc' := 8) rfl ?_
 refine w_iloadN X20 hx (d8_8 hby) rfl (pc' := 9) rfl ?_
 have f25 : Arv Z h20 a0 k_a0 .char (1 : Int32) [(.int jj0)] (.int (0 : Int32)) := (V_a0.ext E20)
 refine w_static X20 hx (y := yn_9) hown (mvT hZ (wd_49 hw)) (mvT hZ (wd_50 hw)) (mvT hZ (wd_47 hw)) (mvT hZ (wd_51 hw)) (by decide) (backOf (W := 0) (rm_m9_12 l Z aZ hw [] a0 b20 k_a0 jj0 k20 h20 n0 (Nat.le_trans Z0 E20.1) f25 V24 ge21) hZ (wd_51 hw) (wd_47 hw) (by decide) (by decide)) (by rw [hml]; rfl) [(.ref a0), (.int (0 : Int32)), (.ref b20), (.int (0 : Int32)), (.int (1 : Int32))] (lenOf pd_6 rfl) rfl (Nat.le_of_eq rfl) (d8_9 hby) (fun _ _ => ⟨rfl, e20, (by decide : 1 + 0 ≤ _), (by decide : 1 + 0 ≤ _)⟩) (pc' := 12) rfl ?_
 rintro _ _ ⟨T26, L26, k26, n26⟩ X26 ⟨Lc26, hQ26, l26, y26, z26⟩
 dsimp only [Pt.U, Pt.locs, Pt.cells, Pt.slots] at X26 l26 y26 z26 hQ26 ⊢
 subst l26 y26 z26
 rcases hQ26 with ⟨rfl, N26q, K26, g26_0, g26_1⟩ | ⟨j_26, rfl, N26q, K26, g26_0, g26_1, g26_2⟩
 · have N27 := Fr.app N0 N26q
   have K28 : Keep h0 T26.heap [] := K23.trans K26 (allS (Or.inr sz22) (all0 (P := fun x => x ∈ [] ∨ h0.size ≤ x)))
   show Runs _ _ _ _ (T26.setTop (mkF m 12 #[.val (.ref a0), .val (.int (0 : Int32)), .val (.int (1 : Int32)), .val (.ref b20), .unset, .unset] [(.int (1 : Int32))]))
   refine w_istore X26 hx (d8_12 hby) (L' := #[.val (.ref a0), .val (.int (0 : Int32)), .val (.int (1 : Int32)), .val (.ref b20), .val (.int (1 : Int32)), .unset]) rfl (pc' := 14) rfl ?_
   refine w_iload X26 hx (d8_14 hby) rfl (pc' := 16) rfl ?_
   refine w_iloadN X26 hx (d8_16 hby) rfl (pc' := 17) rfl ?_
   refine w_icY X26 hx (d8_17 hby) (teq (by decide : (1 : Int32) = (1 : Int32))).1 (pc' := 57) (by decide) (by decide) ?_
   refine w_aloadN X26 hx (d8_57 hby) rfl rfl (pc' := 58) rfl ?_
   exact w_done X26 hlk (v := some (.ref b20)) rfl (fun h => by rw [hret] at h; cases h) (fun fs hr => retOut X26 hx hret rfl (Or.inr (Or.inr (Or.inr (Or.inr ⟨rfl, rfl, rfl⟩)))) (d8_58 hby) hr) (by decide) (by decide) (Or.inl ⟨b20, k20, rfl, N27, K28, sz22, g26_0, g26_1⟩)
 · have N29 := Fr.app N0 N26q
   have K30 : Keep h0 T26.heap [] := K23.trans K26 (allS (Or.inr sz22) (all0 (P := fun x => x ∈ [] ∨ h0.size ≤ x)))
   show Runs _ _ _ _ (T26.setTop (mkF m 12 #[.val (.ref a0), .val (.int (0 : Int32)), .val (.int (1 : Int32)), .val (.ref b20), .unset, .unset] [(.int j_26)]))
   refine w_istore X26 hx (d8_12 hby) (L' := #[.val (.ref a0), .val (.int (0 : Int32)), .val (.int (1 : Int32)), .val (.ref b20), .val (.int j_26), .unset]) rfl (pc' := 14) rfl ?_
   refine w_iload X26 hx (d8_14 hby) rfl (pc' := 16) rfl ?_
   refine w_iloadN X26 hx (d8_16 hby) rfl (pc' := 17) rfl ?_
   refine w_icN X26 hx (d8_17 hby) (feq (fun q => by have h9 := g26_1; rw [q] at h9; exact absurd h9 (by decide))).1 (pc' := 20) rfl ?_
   refine w_aloadN X26 hx (d8_20 hby) rfl rfl (pc' := 21) rfl ?_
   refine w_iloadN X26 hx (d8_21 hby) rfl (pc' := 22) rfl ?_
   refine w_iloadN X26 hx (d8_22 hby) rfl (pc' := 23) rfl ?_
   have ne31 : a0 ≠ b20 := (Nat.ne_of_lt (Nat.lt_of_lt_of_le V_a0.lt (Nat.le_trans (Nat.le_refl _) (Nat.le_of_eq g20.symm))))
   have f32 : Arv Z T26.heap a0 k_a0 .char (1 : Int32) [(.int jj0)] (.int (0 : Int32)) := (f25.keep K26 (ninS ne31 nin0))
   have f33 : Old Z n0 T26.heap := ((O0.ext E20).keep K26 (allS ge21 all0))
   have le34 : h0.size ≤ T26.heap.size := (Nat.le_trans E20.1 K26.1)
   refine w_static X26 hx (y := yn_11) hown (mvT hZ (wd_55 hw)) (mvT hZ (wd_56 hw)) (mvT hZ (wd_47 hw)) (mvT hZ (wd_57 hw)) (by decide) (backOf (W := 0) (rm_m11_13 l Z aZ hw [] a0 k_a0 jj0 T26.heap n0 (Nat.le_trans Z0 le34) f32 zz1 f33 zz2 zz3) hZ (wd_57 hw) (wd_47 hw) (by decide) (by decide)) (by rw [hml]; rfl) [(.ref a0), (.int (0 : Int32)), (.int (1 : Int32))] (lenOf pd_10 rfl) rfl (Nat.le_of_eq rfl) (d8_23 hby) (fun _ _ => ⟨rfl, rfl, (by decide : 1 + 1 ≤ _), (by decide : 1 + 2 ≤ _)⟩) (pc' := 26) rfl ?_
   rintro _ _ ⟨T35, L35, k35, n35⟩ X35 ⟨Lc35, hQ35, l35, y35, z35⟩
   dsimp only [Pt.U, Pt.locs, Pt.cells, Pt.slots] at X35 l35 y35 z35 hQ35 ⊢
   subst l35 y35 z35
   obtain ⟨r0_35, c0_35, rfl, N35q, K35, g35_0, g35_1⟩ := hQ35
   have N36 := Fr.app N29 N35q
   have K37 : Keep h0 T35.heap [] := K30.trans K35 (all0 (P := fun x => x ∈ [] ∨ h0.size ≤ x))
   have ge38 : n0 ≤ r0_35 := Nat.le_trans (Nat.le_trans Z0 le34) g35_0
   have sz39 : h0.size ≤ r0_35 := Nat.le_trans le34 g35_0
   show Runs _ _ _ _ (T35.setTop (mkF m 26 #[.val (.ref a0), .val (.int (0 : Int32)), .val (.int (1 : Int32)), .val (.ref b20), .val (.int j_26), .unset] [(.ref r0_35)]))
   refine w_astore X35 hx (d8_26 hby) rfl (L' := #[.val (.ref a0), .val (.int (0 : Int32)), .val (.int (1 : Int32)), .val (.ref b20), .val (.int j_26), .val (.ref r0_35)]) rfl (pc' := 28) rfl ?_
   refine w_aload X35 hx (d8_28 hby) rfl rfl (pc' := 30) rfl ?_
   refine w_iload X35 hx (d8_30 hby) rfl (pc' := 32) rfl ?_
   have f40 : Old Z n0 T35.heap := (f33.keep K35 all0)
   have le41 : h0.size ≤ T35.heap.size := (Nat.le_trans le34 K35.1)
   refine w_static X35 hx (y := yn_15) hown (mvT hZ (wd_71 hw)) (mvT hZ (wd_72 hw)) (mvT hZ (wd_47 hw)) (mvT hZ (wd_73 hw)) (by decide) (backOf (W := 0) (rm_m15_17 l Z aZ hw [] r0_35 j_26 c0_35 ((jj0 >>> ((0 : Int32) &&& 31)).toInt8.toInt32) ((jj0 >>> ((8 : Int32) &&& 31)).toInt8.toInt32) T35.heap n0 (Nat.le_trans Z0 le41) zz1 f40 g35_1 g26_0 g26_1 zz2 zz3) hZ (wd_73 hw) (wd_47 hw) (by decide) (by decide)) (by rw [hml]; rfl) [(.ref r0_35), (.int j_26)] (lenOf pd_11 rfl) rfl (Nat.le_of_eq rfl) (d8_32 hby) (fun _ _ => ⟨rfl, rfl, (by decide : 2 + 0 ≤ _), (by decide : 3 + 0 ≤ _)⟩) (pc' := 35) rfl ?_
   rintro _ _ ⟨T42, L42, k42, n42⟩ X42 ⟨Lc42, hQ42, l42, y42, z42⟩
   dsimp only [Pt.U, Pt.locs, Pt.cells, Pt.slots] at X42 l42 y42 z42 hQ42 ⊢
   subst l42 y42 z42
   obtain ⟨rfl, N42q, e42⟩ := hQ42
   have N43 := Fr.app N36 N42q
   show Runs _ _ _ _ (T42.setTop (mkF m 35 #[.val (.ref a0), .val (.int (0 : Int32)), .val (.int (1 : Int32)), .val (.ref b20), .val (.int j_26), .val (.ref r0_35)] [(.int (((((gI [((jj0 >>> ((0 : Int32) &&& 31)).toInt8.toInt32), ((jj0 >>> ((8 : Int32) &&& 31)).toInt8.toInt32)] (j_26 <<< ((1 : Int32) &&& 31))) &&& (255 : Int32)) <<< ((0 : Int32) &&& 31)) ||| (((gI [((jj0 >>> ((0 : Int32) &&& 31)).toInt8.toInt32), ((jj0 >>> ((8 : Int32) &&& 31)).toInt8.toInt32)] ((j_26 <<< ((1 : Int32) &&& 31)) + (1 : Int32))) &&& (255 : Int32)) <<< ((8 : Int32) &&& 31))).toUInt32.toUInt16.toUInt32.toInt32))]))
   refine w_sipush X42 hx (d8_35 hby) (v := (255 : Int32)) rfl (pc' := 38) rfl ?_
   refine w_icY X42 hx (d8_38 hby) (tlt (show (255 : Int32) < (((((gI [((jj0 >>> ((0 : Int32) &&& 31)).toInt8.toInt32), ((jj0 >>> ((8 : Int32) &&& 31)).toInt8.toInt32)] (j_26 <<< ((1 : Int32) &&& 31))) &&& (255 : Int32)) <<< ((0 : Int32) &&& 31)) ||| (((gI [((jj0 >>> ((0 : Int32) &&& 31)).toInt8.toInt32), ((jj0 >>> ((8 : Int32) &&& 31)).toInt8.toInt32)] ((j_26 <<< ((1 : Int32) &&& 31)) + (1 : Int32))) &&& (255 : Int32)) <<< ((8 : Int32) &&& 31))).toUInt32.toUInt16.toUInt32.toInt32) from by rw [own_uj1 g26_0 g26_1 zz4]; exact g26_2)).2.2.1 (pc' := 54) (by decide) (by decide) ?_
   refine w_aload X42 hx (d8_54 hby) rfl rfl (pc' := 56) rfl ?_
   exact w_done X42 hlk (v := some (.ref r0_35)) e42 (fun h => by rw [hret] at h; cases h) (fun fs hr => retOut X42 hx hret rfl (Or.inr (Or.inr (Or.inr (Or.inr ⟨rfl, rfl, rfl⟩)))) (d8_56 hby) hr) (by decide) (by decide) (Or.inr (⟨r0_35, c0_35, rfl, N43, K37, sz39, g35_1, (own_or1 g26_0 g26_1 g26_2)⟩))
theorem ef_m10_18 (m : MethodId) (a0 : Addr)  : entryFrame m #[(.ref a0), (.int (1 : Int32))] 2 = mkF m 0 #[.val (.ref a0), .val (.int (1 : Int32))] [] := by first | (simp [entryFrame, mkF, argsToLocals, Value.category]; done) | rfl
def Q_m10_18 (Z : State) (a0 : Addr) (k_a0 : ClassId) (jj0 : Int32) (h0 : Heap) (n0 : Nat) (v : Option Value) (h : Heap) (L : List Loc) : Prop := v = some (.int (0 : Int32)) ∧ Fr n0 L ∧ h = h0
theorem rm_m10_18 (l : Launch) (Z : State) (aZ : Array Value) (hw : ∀ d ∈ tables_1, d.before aZ Z = true) (ws : List Jvm.Cond) (a0 : Addr) (k_a0 : ClassId) (jj0 : Int32) (h0 : Heap) (n0 : Nat) (Z0 : n0 ≤ h0.size) (V_a0 : Arv Z h0 a0 k_a0 .byte (1 : Int32) [(.int jj0)] (.int (0 : Int32))) :
    MetN l Z yn_10 jdk_52_method_15_code 2 (some .byte) ws ({ frames := 0, cells := 0, slots := 0, locals := 0 } : Room) #[(.ref a0), (.int (1 : Int32))] h0 (Q_m10_18 Z a0 k_a0 jj0 h0 n0) := by
 refine MetN.of (plainFor_of_name pn_4) ?_
 intro p e s m below meth c s₁ hret hx hby hml hown hnm hlk hZ X0 e0
 have N0 := Fr.nil n0
 rw [ef_m10_18 m a0]
 refine w_iloadN X0 hx (d10_0 hby) rfl (pc' := 1) rfl ?_
 refine w_aloadN X0 hx (d10_1 hby) rfl rfl (pc' := 2) rfl ?_
 refine w_alen X0 hx hZ e0 V_a0 (d10_2 hby) (pc' := 3) rfl ?_
 refine w_isub X0 hx (d10_3 hby) (pc' := 4) rfl ?_
 rw [show ((1 : Int32) - (1 : Int32)) = (0 : Int32) from by decide]
 refine w_bipush X0 hx (d10_4 hby) (v := (31 : Int32)) rfl (pc' := 6) rfl ?_
 refine w_iushr X0 hx (d10_6 hby) (pc' := 7) rfl ?_
 rw [show (((0 : Int32).toUInt32 >>> ((31 : Int32) &&& 31).toUInt32).toInt32) = (0 : Int32) from by decide]
 refine w_i2b X0 hx (d10_7 hby) (pc' := 8) rfl ?_
 rw [show ((0 : Int32).toInt8.toInt32) = (0 : Int32) from by decide]
 exact w_done X0 hlk (v := some (.int (0 : Int32))) e0 (fun h => by rw [hret] at h; cases h) (fun fs hr => retN X0 hx (t := .byte) hret (by simp) (d10_8 hby) hr) (by decide) (by decide) (⟨rfl, N0, rfl⟩)
theorem ef_m10_19 (m : MethodId) (a0 : Addr)  : entryFrame m #[(.ref a0), (.int (1 : Int32))] 2 = mkF m 0 #[.val (.ref a0), .val (.int (1 : Int32))] [] := by first | (simp [entryFrame, mkF, argsToLocals, Value.category]; done) | rfl
def Q_m10_19 (Z : State) (a0 : Addr) (k_a0 : ClassId) (jj0 : Int32) (jj1 : Int32) (h0 : Heap) (n0 : Nat) (v : Option Value) (h : Heap) (L : List Loc) : Prop := v = some (.int (1 : Int32)) ∧ Fr n0 L ∧ h = h0
theorem rm_m10_19 (l : Launch) (Z : State) (aZ : Array Value) (hw : ∀ d ∈ tables_1, d.before aZ Z = true) (ws : List Jvm.Cond) (a0 : Addr) (k_a0 : ClassId) (jj0 : Int32) (jj1 : Int32) (h0 : Heap) (n0 : Nat) (Z0 : n0 ≤ h0.size) (V_a0 : Arv Z h0 a0 k_a0 .byte (2 : Int32) [(.int jj0), (.int jj1)] (.int (0 : Int32))) :
    MetN l Z yn_10 jdk_52_method_15_code 2 (some .byte) ws ({ frames := 0, cells := 0, slots := 0, locals := 0 } : Room) #[(.ref a0), (.int (1 : Int32))] h0 (Q_m10_19 Z a0 k_a0 jj0 jj1 h0 n0) := by
 refine MetN.of (plainFor_of_name pn_4) ?_
 intro p e s m below meth c s₁ hret hx hby hml hown hnm hlk hZ X0 e0
 have N0 := Fr.nil n0
 rw [ef_m10_19 m a0]
 refine w_iloadN X0 hx (d10_0 hby) rfl (pc' := 1) rfl ?_
 refine w_aloadN X0 hx (d10_1 hby) rfl rfl (pc' := 2) rfl ?_
 refine w_alen X0 hx hZ e0 V_a0 (d10_2 hby) (pc' := 3) rfl ?_
 refine w_isub X0 hx (d10_3 hby) (pc' := 4) rfl ?_
 rw [show ((1 : Int32) - (2 : Int32)) = (-1 : Int32) from by decide]
 refine w_bipush X0 hx (d10_4 hby) (v := (31 : Int32)) rfl (pc' := 6) rfl ?_
 refine w_iushr X0 hx (d10_6 hby) (pc' := 7) rfl ?_
 rw [show (((-1 : Int32).toUInt32 >>> ((31 : Int32) &&& 31).toUInt32).toInt32) = (1 : Int32) from by decide]
 refine w_i2b X0 hx (d10_7 hby) (pc' := 8) rfl ?_
 rw [show ((1 : Int32).toInt8.toInt32) = (1 : Int32) from by decide]
 exact w_done X0 hlk (v := some (.int (1 : Int32))) e0 (fun h => by rw [hret] at h; cases h) (fun fs hr => retN X0 hx (t := .byte) hret (by simp) (d10_8 hby) hr) (by decide) (by decide) (⟨rfl, N0, rfl⟩)
theorem ef_m3_10 (m : MethodId) (a0 : Addr) (a1 : Addr)  : entryFrame m #[(.ref a0), (.ref a1), (.int (0 : Int32)), (.int (1 : Int32)), .null] 6 = mkF m 0 #[.val (.ref a0), .val (.ref a1), .val (.int (0 : Int32)), .val (.int (1 : Int32)), .val .null, .unset] [] := by first | (simp [entryFrame, mkF, argsToLocals, Value.category]; done) | rfl
def Q_m3_10 (Z : State) (a0 : Addr) (a1 : Addr) (jj0 : Int32) (k_a1 : ClassId) (jj1 : Int32) (h0 : Heap) (n0 : Nat) (v : Option Value) (h : Heap) (L : List Loc) : Prop := (∃ (t : Addr) (kb : ClassId), v = none ∧ Fr n0 L ∧ Keep h0 h [a0] ∧ Exa Z h a0 kc0 ∧ Fld Z h a0 kc0 "coder" "B" (.int (0 : Int32)) ∧ Fld Z h a0 kc0 "value" "[B" (.ref t) ∧ h0.size ≤ t ∧ Arv Z h t kb .byte (1 : Int32) [(.int (jj1.toInt8.toInt32))] (.int (0 : Int32)) ∧ ¬ ((255 : Int32) < jj1)) ∨ (∃ (t : Addr) (kb : ClassId), v = none ∧ Fr n0 L ∧ Keep h0 h [a0] ∧ Exa Z h a0 kc0 ∧ Fld Z h a0 kc0 "coder" "B" (.int (1 : Int32)) ∧ Fld Z h a0 kc0 "value" "[B" (.ref t) ∧ h0.size ≤ t ∧ Arv Z h t kb .byte (2 : Int32) [(.int ((jj1 >>> ((0 : Int32) &&& 31)).toInt8.toInt32)), (.int ((jj1 >>> ((8 : Int32) &&& 31)).toInt8.toInt32))] (.int (0 : Int32)) ∧ (255 : Int32) < jj1)
theorem rm_m3_10 (l : Launch) (Z : State) (aZ : Array Value) (hw : ∀ d ∈ tables_1, d.before aZ Z = true) (ws : List Jvm.Cond) (a0 : Addr) (a1 : Addr) (jj0 : Int32) (k_a1 : ClassId) (jj1 : Int32) (h0 : Heap) (n0 : Nat) (Z0 : n0 ≤ h0.size) (zz2 : Sta Z Z.heap kc0 "COMPACT_STRINGS" "Z" (.int jj0)) (O0 : Old Z n0 h0) (hP_2 : ¬ (jj0 = (0 : Int32))) (V_a1 : Arv Z h0 a1 k_a1 .char (1 : Int32) [(.int jj1)] (.int (0 : Int32))) (zz3 : nar .char jj1 = jj1) (zz4 : Sta Z Z.heap kc1 "$assertionsDisabled" "Z" (.int (1 : Int32))) (zz5 : Sta Z Z.heap kc1 "HI_BYTE_SHIFT" "I" (.int (0 : Int32))) (zz6 : Sta Z Z.heap kc1 "LO_BYTE_SHIFT" "I" (.int (8 : Int32))) (E_a0 : Exa Z h0 a0 kc0) (zz7 : Fld Z h0 a0 kc0 "coder" "B" (.int (0 : Int32))) (zz8 : n0 ≤ a0) (zz9 : Fld Z h0 a0 kc0 "value" "[B" .null) :
    MetN l Z yn_3 jdk_42_method_149_code 6 none ws ({ frames := 4, cells := 2, slots := 3, locals := 57 } : Room) #[(.ref a0), (.ref a1), (.int (0 : Int32)), (.int (1 : Int32)), .null] h0 (Q_m3_10 Z a0 a1 jj0 k_a1 jj1 h0 n0) := by
 refine MetN.of (plainFor_of_name pn_1) ?_
 intro p e s m below meth c s₁ hret hx hby hml hown hnm hlk hZ X0 e0
 have N0 := Fr.nil n0
 rw [ef_m3_10 m a0 a1]
 refine w_aloadN X0 hx (d3_0 hby) rfl rfl (pc' := 1) rfl ?_
 refine w_initO X0 hx 0 hZ hown (wd_17 hw) (wd_18 hw) (wd_19 hw) e0 (by rw [hml]; rfl) (d3_1 hby) (by decide) (Nat.le_of_eq rfl) (by decide) (pc' := 4) rfl ?_
 intro T20 X20 e20
 refine w_iloadN X20 hx (d3_4 hby) rfl (pc' := 5) rfl ?_
 refine w_ifY X20 hx (d3_5 hby) (feq (by decide : ¬ ((1 : Int32) = (0 : Int32)))).2 (pc' := 27) (by decide) (by decide) ?_
 refine w_getS X20 hx "" hZ hown (Or.inl (wd_39 hw)) Via.refl e20 (zz2.ext O0.2) (d3_27 hby) (pc' := 30) rfl ?_
 intro T21 X21 e21
 refine w_ifN X21 hx (d3_30 hby) (feq hP_2).1 (pc' := 33) rfl ?_
 refine w_aloadN X21 hx (d3_33 hby) rfl rfl (pc' := 34) rfl ?_
 refine w_iloadN X21 hx (d3_34 hby) rfl (pc' := 35) rfl ?_
 refine w_iloadN X21 hx (d3_35 hby) rfl (pc' := 36) rfl ?_
 refine w_static X21 hx (y := yn_8) hown (mvT hZ (wd_45 hw)) (mvT hZ (wd_46 hw)) (mvT hZ (wd_47 hw)) (mvT hZ (wd_48 hw)) (by decide) (backOf (W := 0) (rm_m8_11 l Z aZ hw [] a1 k_a1 jj1 h0 n0 Z0 V_a1 zz4 O0 zz5 zz6 zz3) hZ (wd_48 hw) (wd_47 hw) (by decide) (by decide)) (by rw [hml]; rfl) [(.ref a1), (.int (0 : Int32)), (.int (1 : Int32))] (lenOf pd_10 rfl) rfl (Nat.le_of_eq rfl) (d3_36 hby) (fun _ _ => ⟨rfl, e21, (by decide : 0 + 2 ≤ _), (by decide : 0 + 3 ≤ _)⟩) (pc' := 39) rfl ?_
 rintro _ _ ⟨T22, L22, k22, n22⟩ X22 ⟨Lc22, hQ22, l22, y22, z22⟩
 dsimp only [Pt.U, Pt.locs, Pt.cells, Pt.slots] at X22 l22 y22 z22 hQ22 ⊢
 subst l22 y22 z22
 rcases hQ22 with ⟨t_22, kb_22, rfl, N22q, K22, g22_0, g22_1, g22_2⟩ | ⟨t_22, kb_22, rfl, N22q, K22, g22_0, g22_1, g22_2⟩
 · have N23 := Fr.app N0 N22q
   have K24 : Keep h0 T22.heap [a0] := (Keep.refl h0 [a0]).trans K22 (all0 (P := fun x => x ∈ [a0] ∨ h0.size ≤ x))
   have ge25 : n0 ≤ t_22 := Nat.le_trans Z0 g22_0
   have sz26 : h0.size ≤ t_22 := Nat.le_trans (Nat.le_refl _) g22_0
   show Runs _ _ _ _ (T22.setTop (mkF m 39 #[.val (.ref a0), .val (.ref a1), .val (.int (0 : Int32)), .val (.int (1 : Int32)), .val .null, .unset] [(.ref t_22)]))
   refine w_astore X22 hx (d3_39 hby) rfl (L' := #[.val (.ref a0), .val (.ref a1), .val (.int (0 : Int32)), .val (.int (1 : Int32)), .val .null, .val (.ref t_22)]) rfl (pc' := 41) rfl ?_
   refine w_aloadN X22 hx (d3_41 hby) rfl rfl (pc' := 42) rfl ?_
   refine w_aload X22 hx (d3_42 hby) rfl rfl (pc' := 44) rfl ?_
   refine w_iloadN X22 hx (d3_44 hby) rfl (pc' := 45) rfl ?_
   refine w_static X22 hx (y := yn_10) hown (mvT hZ (wd_52 hw)) (mvT hZ (wd_53 hw)) (mvT hZ (wd_47 hw)) (mvT hZ (wd_54 hw)) (by decide) (backOf (W := 1) (rm_m10_18 l Z aZ hw [] t_22 kb_22 (jj1.toInt8.toInt32) T22.heap n0 (Nat.le_trans Z0 K22.1) g22_1) hZ (wd_54 hw) (wd_47 hw) (by decide) (by decide)) (by rw [hml]; rfl) [(.ref t_22), (.int (1 : Int32))] (lenOf pd_12 rfl) rfl (Nat.le_of_eq rfl) (d3_45 hby) (fun _ _ => ⟨rfl, rfl, (by decide : 2 + 0 ≤ _), (by decide : 3 + 0 ≤ _)⟩) (pc' := 48) rfl ?_
   rintro _ _ ⟨T27, L27, k27, n27⟩ X27 ⟨Lc27, hQ27, l27, y27, z27⟩
   dsimp only [Pt.U, Pt.locs, Pt.cells, Pt.slots] at X27 l27 y27 z27 hQ27 ⊢
   subst l27 y27 z27
   obtain ⟨rfl, N27q, e27⟩ := hQ27
   have N28 := Fr.app N23 N27q
   show Runs _ _ _ _ (T27.setTop (mkF m 48 #[.val (.ref a0), .val (.ref a1), .val (.int (0 : Int32)), .val (.int (1 : Int32)), .val .null, .val (.ref t_22)] [(.int (0 : Int32)), (.ref a0)]))
   have f29 : Exa Z T22.heap a0 kc0 := (E_a0.keep K22)
   have f30 : Fld Z T22.heap a0 kc0 "coder" "B" (.int (0 : Int32)) := (zz7.keep K22 nin0)
   refine w_putF X27 hx "" hZ hown (Or.inl (wd_27 hw)) Via.refl e27 f30 f29 (Or.inr ⟨(wd_23 hw), rfl, hnm⟩) (wd_8 hw) (ty := .byte) (by decide) rfl rfl (d3_48 hby) (pc' := 51) rfl ?_
   intro T31 h31 X31 e31 W31
   have f32 : Fld Z h31 a0 kc0 "coder" "B" (.int (0 : Int32)) := f30.same W31
   have K33 : Keep h0 h31 [a0] := K24.wr W31 (Or.inl (by simp))
   have N34 := Fr.snoc X31 N28 zz8
   refine w_aloadN X31 hx (d3_51 hby) rfl rfl (pc' := 52) rfl ?_
   refine w_aload X31 hx (d3_52 hby) rfl rfl (pc' := 54) rfl ?_
   have f35 : Exa Z h31 a0 kc0 := (f29.wr W31)
   have f36 : Fld Z h31 a0 kc0 "value" "[B" .null := ((zz9.keep K22 nin0).other W31 (Or.inr (slot_ne (Or.inr (wd_22 hw)) (Or.inr (wd_23 hw)) (by decide) (t := (.array .byte)) (t' := .byte) (by decide) (by decide))))
   refine w_putF X31 hx "" hZ hown (Or.inl (wd_26 hw)) Via.refl e31 f36 f35 (Or.inr ⟨(wd_22 hw), rfl, hnm⟩) (wd_8 hw) (ty := (.array .byte)) (by decide) rfl rfl (d3_54 hby) (pc' := 57) rfl ?_
   intro T37 h37 X37 e37 W37
   have f38 : Fld Z h37 a0 kc0 "value" "[B" (.ref t_22) := f36.same W37
   have K39 : Keep h0 h37 [a0] := K33.wr W37 (Or.inl (by simp))
   have N40 := Fr.snoc X37 N34 zz8
   have f41 : Exa Z h37 a0 kc0 := (f35.wr W37)
   have f42 : Fld Z h37 a0 kc0 "coder" "B" (.int (0 : Int32)) := (f32.other W37 (Or.inr (slot_ne (Or.inr (wd_23 hw)) (Or.inr (wd_22 hw)) (by decide) (t := .byte) (t' := (.array .byte)) (by decide) (by decide))))
   have ne43 : a0 ≠ t_22 := (Nat.ne_of_lt (Nat.lt_of_lt_of_le E_a0.lt (Nat.le_trans (Nat.le_refl _) g22_0)))
   have f44 : Arv Z h37 t_22 kb_22 .byte (1 : Int32) [(.int (jj1.toInt8.toInt32))] (.int (0 : Int32)) := ((g22_1.other W31 (Ne.symm ne43)).other W37 (Ne.symm ne43))
   exact w_done X37 hlk (v := none) e37 (fun _ => rfl) (fun fs hr => X37.returnOut hx hret (d3_57 hby) hr) (by decide) (by decide) (Or.inl ⟨t_22, kb_22, rfl, N40, K39, f41, f42, f38, sz26, f44, g22_2⟩)
 · have N45 := Fr.app N0 N22q
   have K46 : Keep h0 T22.heap [a0] := (Keep.refl h0 [a0]).trans K22 (all0 (P := fun x => x ∈ [a0] ∨ h0.size ≤ x))
   have ge47 : n0 ≤ t_22 := Nat.le_trans Z0 g22_0
   have sz48 : h0.size ≤ t_22 := Nat.le_trans (Nat.le_refl _) g22_0
   show Runs _ _ _ _ (T22.setTop (mkF m 39 #[.val (.ref a0), .val (.ref a1), .val (.int (0 : Int32)), .val (.int (1 : Int32)), .val .null, .unset] [(.ref t_22)]))
   refine w_astore X22 hx (d3_39 hby) rfl (L' := #[.val (.ref a0), .val (.ref a1), .val (.int (0 : Int32)), .val (.int (1 : Int32)), .val .null, .val (.ref t_22)]) rfl (pc' := 41) rfl ?_
   refine w_aloadN X22 hx (d3_41 hby) rfl rfl (pc' := 42) rfl ?_
   refine w_aload X22 hx (d3_42 hby) rfl rfl (pc' := 44) rfl ?_
   refine w_iloadN X22 hx (d3_44 hby) rfl (pc' := 45) rfl ?_
   refine w_static X22 hx (y := yn_10) hown (mvT hZ (wd_52 hw)) (mvT hZ (wd_53 hw)) (mvT hZ (wd_47 hw)) (mvT hZ (wd_54 hw)) (by decide) (backOf (W := 1) (rm_m10_19 l Z aZ hw [] t_22 kb_22 ((jj1 >>> ((0 : Int32) &&& 31)).toInt8.toInt32) ((jj1 >>> ((8 : Int32) &&& 31)).toInt8.toInt32) T22.heap n0 (Nat.le_trans Z0 K22.1) g22_1) hZ (wd_54 hw) (wd_47 hw) (by decide) (by decide)) (by rw [hml]; rfl) [(.ref t_22), (.int (1 : Int32))] (lenOf pd_12 rfl) rfl (Nat.le_of_eq rfl) (d3_45 hby) (fun _ _ => ⟨rfl, rfl, (by decide : 2 + 0 ≤ _), (by decide : 3 + 0 ≤ _)⟩) (pc' := 48) rfl ?_
   rintro _ _ ⟨T49, L49, k49, n49⟩ X49 ⟨Lc49, hQ49, l49, y49, z49⟩
   dsimp only [Pt.U, Pt.locs, Pt.cells, Pt.slots] at X49 l49 y49 z49 hQ49 ⊢
   subst l49 y49 z49
   obtain ⟨rfl, N49q, e49⟩ := hQ49
   have N50 := Fr.app N45 N49q
   show Runs _ _ _ _ (T49.setTop (mkF m 48 #[.val (.ref a0), .val (.ref a1), .val (.int (0 : Int32)), .val (.int (1 : Int32)), .val .null, .val (.ref t_22)] [(.int (1 : Int32)), (.ref a0)]))
   have f51 : Exa Z T22.heap a0 kc0 := (E_a0.keep K22)
   have f52 : Fld Z T22.heap a0 kc0 "coder" "B" (.int (0 : Int32)) := (zz7.keep K22 nin0)
   refine w_putF X49 hx "" hZ hown (Or.inl (wd_27 hw)) Via.refl e49 f52 f51 (Or.inr ⟨(wd_23 hw), rfl, hnm⟩) (wd_8 hw) (ty := .byte) (by decide) rfl rfl (d3_48 hby) (pc' := 51) rfl ?_
   intro T53 h53 X53 e53 W53
   have f54 : Fld Z h53 a0 kc0 "coder" "B" (.int (1 : Int32)) := f52.same W53
   have K55 : Keep h0 h53 [a0] := K46.wr W53 (Or.inl (by simp))
   have N56 := Fr.snoc X53 N50 zz8
   refine w_aloadN X53 hx (d3_51 hby) rfl rfl (pc' := 52) rfl ?_
   refine w_aload X53 hx (d3_52 hby) rfl rfl (pc' := 54) rfl ?_
   have f57 : Exa Z h53 a0 kc0 := (f51.wr W53)
   have f58 : Fld Z h53 a0 kc0 "value" "[B" .null := ((zz9.keep K22 nin0).other W53 (Or.inr (slot_ne (Or.inr (wd_22 hw)) (Or.inr (wd_23 hw)) (by decide) (t := (.array .byte)) (t' := .byte) (by decide) (by decide))))
   refine w_putF X53 hx "" hZ hown (Or.inl (wd_26 hw)) Via.refl e53 f58 f57 (Or.inr ⟨(wd_22 hw), rfl, hnm⟩) (wd_8 hw) (ty := (.array .byte)) (by decide) rfl rfl (d3_54 hby) (pc' := 57) rfl ?_
   intro T59 h59 X59 e59 W59
   have f60 : Fld Z h59 a0 kc0 "value" "[B" (.ref t_22) := f58.same W59
   have K61 : Keep h0 h59 [a0] := K55.wr W59 (Or.inl (by simp))
   have N62 := Fr.snoc X59 N56 zz8
   have f64 : Exa Z h59 a0 kc0 := (f57.wr W59)
   have f65 : Fld Z h59 a0 kc0 "coder" "B" (.int (1 : Int32)) := (f54.other W59 (Or.inr (slot_ne (Or.inr (wd_23 hw)) (Or.inr (wd_22 hw)) (by decide) (t := .byte) (t' := (.array .byte)) (by decide) (by decide))))
   have ne66 : a0 ≠ t_22 := (Nat.ne_of_lt (Nat.lt_of_lt_of_le E_a0.lt (Nat.le_trans (Nat.le_refl _) g22_0)))
   have f67 : Arv Z h59 t_22 kb_22 .byte (2 : Int32) [(.int ((jj1 >>> ((0 : Int32) &&& 31)).toInt8.toInt32)), (.int ((jj1 >>> ((8 : Int32) &&& 31)).toInt8.toInt32))] (.int (0 : Int32)) := ((g22_1.other W53 (Ne.symm ne66)).other W59 (Ne.symm ne66))
   exact w_done X59 hlk (v := none) e59 (fun _ => rfl) (fun fs hr => X59.returnOut hx hret (d3_57 hby) hr) (by decide) (by decide) (Or.inr (⟨t_22, kb_22, rfl, N62, K61, f64, f65, f60, sz48, f67, g22_2⟩))
theorem ef_m2_9 (m : MethodId) (a0 : Addr) (a1 : Addr)  : entryFrame m #[(.ref a0), (.ref a1)] 2 = mkF m 0 #[.val (.ref a0), .val (.ref a1)] [] := by first | (simp [entryFrame, mkF, argsToLocals, Value.category]; done) | rfl
def Q_m2_9 (Z : State) (a0 : Addr) (a1 : Addr) (k_a1 : ClassId) (jj0 : Int32) (jj1 : Int32) (h0 : Heap) (n0 : Nat) (v : Option Value) (h : Heap) (L : List Loc) : Prop := (∃ (t : Addr) (kb : ClassId), v = none ∧ Fr n0 L ∧ Keep h0 h [a0] ∧ Exa Z h a0 kc0 ∧ Fld Z h a0 kc0 "coder" "B" (.int (0 : Int32)) ∧ Fld Z h a0 kc0 "value" "[B" (.ref t) ∧ h0.size ≤ t ∧ Arv Z h t kb .byte (1 : Int32) [(.int (jj0.toInt8.toInt32))] (.int (0 : Int32)) ∧ ¬ ((255 : Int32) < jj0)) ∨ (∃ (t : Addr) (kb : ClassId), v = none ∧ Fr n0 L ∧ Keep h0 h [a0] ∧ Exa Z h a0 kc0 ∧ Fld Z h a0 kc0 "coder" "B" (.int (1 : Int32)) ∧ Fld Z h a0 kc0 "value" "[B" (.ref t) ∧ h0.size ≤ t ∧ Arv Z h t kb .byte (2 : Int32) [(.int ((jj0 >>> ((0 : Int32) &&& 31)).toInt8.toInt32)), (.int ((jj0 >>> ((8 : Int32) &&& 31)).toInt8.toInt32))] (.int (0 : Int32)) ∧ (255 : Int32) < jj0)
theorem rm_m2_9 (l : Launch) (Z : State) (aZ : Array Value) (hw : ∀ d ∈ tables_1, d.before aZ Z = true) (ws : List Jvm.Cond) (a0 : Addr) (a1 : Addr) (k_a1 : ClassId) (jj0 : Int32) (jj1 : Int32) (h0 : Heap) (n0 : Nat) (Z0 : n0 ≤ h0.size) (V_a1 : Arv Z h0 a1 k_a1 .char (1 : Int32) [(.int jj0)] (.int (0 : Int32))) (hP_1 : ¬ (jj1 = (0 : Int32))) (zz2 : nar .char jj0 = jj0) (E_a0 : Exa Z h0 a0 kc0) (zz3 : Fld Z h0 a0 kc0 "coder" "B" (.int (0 : Int32))) (zz4 : Fld Z h0 a0 kc0 "value" "[B" .null) (zz5 : Sta Z Z.heap kc0 "COMPACT_STRINGS" "Z" (.int jj1)) (O0 : Old Z n0 h0) (zz6 : Sta Z Z.heap kc1 "$assertionsDisabled" "Z" (.int (1 : Int32))) (zz7 : Sta Z Z.heap kc1 "HI_BYTE_SHIFT" "I" (.int (0 : Int32))) (zz8 : Sta Z Z.heap kc1 "LO_BYTE_SHIFT" "I" (.int (8 : Int32))) (zz9 : n0 ≤ a0) :
    MetN l Z yn_2 jdk_42_method_3_code 2 none ws ({ frames := 5, cells := 2, slots := 3, locals := 74 } : Room) #[(.ref a0), (.ref a1)] h0 (Q_m2_9 Z a0 a1 k_a1 jj0 jj1 h0 n0) := by
 refine MetN.of (plainFor_of_name pn_1) ?_
 intro p e s m below meth c s₁ hret hx hby hml hown hnm hlk hZ X0 e0
 have N0 := Fr.nil n0
 rw [ef_m2_9 m a0 a1]
 refine w_aloadN X0 hx (d2_0 hby) rfl rfl (pc' := 1) rfl ?_
 refine w_aloadN X0 hx (d2_1 hby) rfl rfl (pc' := 2) rfl ?_
 refine w_iconst X0 hx (d2_2 hby) (v := (0 : Int32)) rfl (pc' := 3) rfl ?_
 refine w_aloadN X0 hx (d2_3 hby) rfl rfl (pc' := 4) rfl ?_
 refine w_alen X0 hx hZ e0 V_a1 (d2_4 hby) (pc' := 5) rfl ?_
 refine w_null X0 hx (d2_5 hby) (pc' := 6) rfl ?_
 refine w_special X0 hx (y := yn_3) rfl hown (mvT hZ (wd_13 hw)) (mvT hZ (wd_14 hw)) (mvT hZ (wd_16 hw)) (by decide) (backOf (W := 0) (rm_m3_10 l Z aZ hw [] a0 a1 jj1 k_a1 jj0 h0 n0 Z0 zz5 O0 hP_1 V_a1 zz2 zz6 zz7 zz8 E_a0 zz3 zz9 zz4) hZ (wd_16 hw) (wd_9 hw) (by decide) (by decide)) (by rw [hml]; rfl) [(.ref a1), (.int (0 : Int32)), (.int (1 : Int32)), .null] (lenOf pd_1 rfl) rfl (Nat.le_of_eq rfl) (d2_6 hby) (fun _ _ => ⟨rfl, e0, (by decide : 0 + 2 ≤ _), (by decide : 0 + 3 ≤ _)⟩) (pc' := 9) rfl ?_
 rintro _ _ ⟨T20, L20, k20, n20⟩ X20 ⟨Lc20, hQ20, l20, y20, z20⟩
 dsimp only [Pt.U, Pt.locs, Pt.cells, Pt.slots] at X20 l20 y20 z20 hQ20 ⊢
 subst l20 y20 z20
 rcases hQ20 with ⟨t_20, kb_20, rfl, N20q, K20, g20_0, g20_1, g20_2, g20_3, g20_4, g20_5⟩ | ⟨t_20, kb_20, rfl, N20q, K20, g20_0, g20_1, g20_2, g20_3, g20_4, g20_5⟩
 · have N21 := Fr.app N0 N20q
   have K22 : Keep h0 T20.heap [a0] := (Keep.refl h0 [a0]).trans K20 (allS (Or.inl (by simp)) (all0 (P := fun x => x ∈ [a0] ∨ h0.size ≤ x)))
   have ge23 : n0 ≤ t_20 := Nat.le_trans Z0 g20_3
   have sz24 : h0.size ≤ t_20 := Nat.le_trans (Nat.le_refl _) g20_3
   show Runs _ _ _ _ (T20.setTop (mkF m 9 #[.val (.ref a0), .val (.ref a1)] []))
   exact w_done X20 hlk (v := none) rfl (fun _ => rfl) (fun fs hr => X20.returnOut hx hret (d2_9 hby) hr) (by decide) (by decide) (Or.inl ⟨t_20, kb_20, rfl, N21, K22, g20_0, g20_1, g20_2, sz24, g20_4, g20_5⟩)
 · have N25 := Fr.app N0 N20q
   have K26 : Keep h0 T20.heap [a0] := (Keep.refl h0 [a0]).trans K20 (allS (Or.inl (by simp)) (all0 (P := fun x => x ∈ [a0] ∨ h0.size ≤ x)))
   have ge27 : n0 ≤ t_20 := Nat.le_trans Z0 g20_3
   have sz28 : h0.size ≤ t_20 := Nat.le_trans (Nat.le_refl _) g20_3
   show Runs _ _ _ _ (T20.setTop (mkF m 9 #[.val (.ref a0), .val (.ref a1)] []))
   exact w_done X20 hlk (v := none) rfl (fun _ => rfl) (fun fs hr => X20.returnOut hx hret (d2_9 hby) hr) (by decide) (by decide) (Or.inr (⟨t_20, kb_20, rfl, N25, K26, g20_0, g20_1, g20_2, sz28, g20_4, g20_5⟩))
theorem ef_m7_22 (m : MethodId) (a0 : Addr) (a1 : Addr)  : entryFrame m #[(.ref a0), (.ref a1)] 3 = mkF m 0 #[.val (.ref a0), .val (.ref a1), .unset] [] := by first | (simp [entryFrame, mkF, argsToLocals, Value.category]; done) | rfl
def Q_m7_22 (Z : State) (a0 : Addr) (a1 : Addr) (k_a0 : ClassId) (jj0 : Int32) (k_a1 : ClassId) (h0 : Heap) (n0 : Nat) (v : Option Value) (h : Heap) (L : List Loc) : Prop := v = some (.int (1 : Int32)) ∧ Fr n0 L ∧ h = h0
theorem rm_m7_22 (l : Launch) (Z : State) (aZ : Array Value) (hw : ∀ d ∈ tables_1, d.before aZ Z = true) (ws : List Jvm.Cond) (a0 : Addr) (a1 : Addr) (k_a0 : ClassId) (jj0 : Int32) (k_a1 : ClassId) (h0 : Heap) (n0 : Nat) (Z0 : n0 ≤ h0.size) (V_a0 : Arv Z h0 a0 k_a0 .byte (1 : Int32) [(.int jj0)] (.int (0 : Int32))) (V_a1 : Arv Z h0 a1 k_a1 .byte (1 : Int32) [(.int (46 : Int32))] (.int (0 : Int32))) (hP_2 : jj0 = (46 : Int32)) :
    MetN l Z yn_7 jdk_43_method_13_code 3 (some .boolean) ws ({ frames := 0, cells := 0, slots := 0, locals := 0 } : Room) #[(.ref a0), (.ref a1)] h0 (Q_m7_22 Z a0 a1 k_a0 jj0 k_a1 h0 n0) := by
 refine MetN.of (plainFor_of_name pn_2) ?_
 intro p e s m below meth c s₁ hret hx hby hml hown hnm hlk hZ X0 e0
 have N0 := Fr.nil n0
 rw [ef_m7_22 m a0 a1]
 refine w_aloadN X0 hx (d7_0 hby) rfl rfl (pc' := 1) rfl ?_
 refine w_alen X0 hx hZ e0 V_a0 (d7_1 hby) (pc' := 2) rfl ?_
 refine w_aloadN X0 hx (d7_2 hby) rfl rfl (pc' := 3) rfl ?_
 refine w_alen X0 hx hZ e0 V_a1 (d7_3 hby) (pc' := 4) rfl ?_
 refine w_icN X0 hx (d7_4 hby) (teq (by decide : (1 : Int32) = (1 : Int32))).2 (pc' := 7) rfl ?_
 refine w_iconst X0 hx (d7_7 hby) (v := (0 : Int32)) rfl (pc' := 8) rfl ?_
 refine w_istoreN X0 hx (d7_8 hby) (L' := #[.val (.ref a0), .val (.ref a1), .val (.int (0 : Int32))]) rfl (pc' := 9) rfl ?_
 refine w_iloadN X0 hx (d7_9 hby) rfl (pc' := 10) rfl ?_
 refine w_aloadN X0 hx (d7_10 hby) rfl rfl (pc' := 11) rfl ?_
 refine w_alen X0 hx hZ e0 V_a0 (d7_11 hby) (pc' := 12) rfl ?_
 refine w_icN X0 hx (d7_12 hby) (tlt (by decide : (0 : Int32) < (1 : Int32))).2.1 (pc' := 15) rfl ?_
 refine w_aloadN X0 hx (d7_15 hby) rfl rfl (pc' := 16) rfl ?_
 refine w_iloadN X0 hx (d7_16 hby) rfl (pc' := 17) rfl ?_
 obtain ⟨clu20, Aru20, qu20, Su20, Nu20, Hu20, Gu20⟩ := id V_a0
 have hinu20 := inb_of (j := (0 : Int32)) Su20 ⟨by decide, by decide⟩
 refine w_baload X0 hx hZ e0 Aru20 hinu20 (Hu20.at hinu20 rfl) (d7_17 hby) (pc' := 18) rfl ?_
 refine w_aloadN X0 hx (d7_18 hby) rfl rfl (pc' := 19) rfl ?_
 refine w_iloadN X0 hx (d7_19 hby) rfl (pc' := 20) rfl ?_
 obtain ⟨clu21, Aru21, qu21, Su21, Nu21, Hu21, Gu21⟩ := id V_a1
 have hinu21 := inb_of (j := (0 : Int32)) Su21 ⟨by decide, by decide⟩
 refine w_baload X0 hx hZ e0 Aru21 hinu21 (Hu21.at hinu21 rfl) (d7_20 hby) (pc' := 21) rfl ?_
 refine w_icY X0 hx (d7_21 hby) (teq hP_2).1 (pc' := 26) (by decide) (by decide) ?_
 refine w_iinc X0 hx (d7_26 hby) (v := (1 : Int32)) rfl rfl (L' := #[.val (.ref a0), .val (.ref a1), .val (.int ((0 : Int32) + (1 : Int32)))]) rfl (pc' := 29) rfl ?_
 rw [show ((0 : Int32) + (1 : Int32)) = (1 : Int32) from by decide]
 refine w_goto X0 hx (d7_29 hby) (pc' := 9) (by decide) (by decide) ?_
 refine w_iloadN X0 hx (d7_9 hby) rfl (pc' := 10) rfl ?_
 refine w_aloadN X0 hx (d7_10 hby) rfl rfl (pc' := 11) rfl ?_
 refine w_alen X0 hx hZ e0 V_a0 (d7_11 hby) (pc' := 12) rfl ?_
 refine w_icY X0 hx (d7_12 hby) (flt (by decide : ¬ ((1 : Int32) < (1 : Int32)))).2.1 (pc' := 32) (by decide) (by decide) ?_
 refine w_iconst X0 hx (d7_32 hby) (v := (1 : Int32)) rfl (pc' := 33) rfl ?_
 exact w_done X0 hlk (v := some (.int (1 : Int32))) e0 (fun h => by rw [hret] at h; cases h) (fun fs hr => retN X0 hx (t := .boolean) hret (by simp) (d7_33 hby) hr) (by decide) (by decide) (⟨rfl, N0, rfl⟩)
theorem ef_m6_21 (m : MethodId) (a0 : Addr) (a1 : Addr)  : entryFrame m #[(.ref a0), (.ref a1)] 3 = mkF m 0 #[.val (.ref a0), .val (.ref a1), .unset] [] := by first | (simp [entryFrame, mkF, argsToLocals, Value.category]; done) | rfl
def Q_m6_21 (Z : State) (a0 : Addr) (a1 : Addr) (jj0 : Int32) (jj1 : Addr) (jj2 : Addr) (jj3 : ClassId) (jj4 : Int32) (jj5 : ClassId) (h0 : Heap) (n0 : Nat) (v : Option Value) (h : Heap) (L : List Loc) : Prop := v = some (.int (1 : Int32)) ∧ Fr n0 L ∧ h = h0
theorem rm_m6_21 (l : Launch) (Z : State) (aZ : Array Value) (hw : ∀ d ∈ tables_1, d.before aZ Z = true) (ws : List Jvm.Cond) (a0 : Addr) (a1 : Addr) (jj0 : Int32) (jj1 : Addr) (jj2 : Addr) (jj3 : ClassId) (jj4 : Int32) (jj5 : ClassId) (h0 : Heap) (n0 : Nat) (Z0 : n0 ≤ h0.size) (zz6 : a0 ≠ a1) (E_a1 : Exa Z h0 a1 kc0) (zz7 : Sta Z Z.heap kc0 "COMPACT_STRINGS" "Z" (.int jj0)) (O0 : Old Z n0 h0) (hP_4 : ¬ (jj0 = (0 : Int32))) (zz8 : Fld Z h0 a0 kc0 "coder" "B" (.int (0 : Int32))) (zz9 : Fld Z h0 a1 kc0 "coder" "B" (.int (0 : Int32))) (zz10 : Fld Z h0 a0 kc0 "value" "[B" (.ref jj1)) (zz11 : Fld Z h0 a1 kc0 "value" "[B" (.ref jj2)) (zz12 : Arv Z h0 jj1 jj3 .byte (1 : Int32) [(.int jj4)] (.int (0 : Int32))) (zz13 : Arv Z h0 jj2 jj5 .byte (1 : Int32) [(.int (46 : Int32))] (.int (0 : Int32))) (zz14 : jj4 = (46 : Int32)) :
    MetN l Z yn_6 jdk_42_method_66_code 3 (some .boolean) ws ({ frames := 1, cells := 0, slots := 0, locals := 14 } : Room) #[(.ref a0), (.ref a1)] h0 (Q_m6_21 Z a0 a1 jj0 jj1 jj2 jj3 jj4 jj5 h0 n0) := by
 refine MetN.of (plainFor_of_name pn_1) ?_
 intro p e s m below meth c s₁ hret hx hby hml hown hnm hlk hZ X0 e0
 have N0 := Fr.nil n0
 rw [ef_m6_21 m a0 a1]
 refine w_aloadN X0 hx (d6_0 hby) rfl rfl (pc' := 1) rfl ?_
 refine w_aloadN X0 hx (d6_1 hby) rfl rfl (pc' := 2) rfl ?_
 refine w_acmp X0 hx (d6_2 hby) (same := false) rfl rfl (decide_eq_false fun q => zz6 (Value.ref.inj q)) (pc' := 7) (by decide) (by decide) ?_
 refine w_aloadN X0 hx (d6_7 hby) rfl rfl (pc' := 8) rfl ?_
 refine w_instY X0 hx hZ hown (wd_38 hw) e0 (Ins.self E_a1) (d6_8 hby) (pc' := 11) rfl ?_
 intro T20 X20 e20
 refine w_ifN X20 hx (d6_11 hby) (feq (by decide : ¬ ((1 : Int32) = (0 : Int32)))).1 (pc' := 14) rfl ?_
 refine w_aloadN X20 hx (d6_14 hby) rfl rfl (pc' := 15) rfl ?_
 refine w_castY X20 hx hZ hown (wd_38 hw) e20 (Ins.self E_a1) (d6_15 hby) (pc' := 18) rfl ?_
 intro T21 X21 e21
 refine w_astoreN X21 hx (d6_18 hby) rfl (L' := #[.val (.ref a0), .val (.ref a1), .val (.ref a1)]) rfl (pc' := 19) rfl ?_
 refine w_getS X21 hx "" hZ hown (Or.inl (wd_39 hw)) Via.refl e21 (zz7.ext O0.2) (d6_19 hby) (pc' := 22) rfl ?_
 intro T22 X22 e22
 refine w_ifN X22 hx (d6_22 hby) (feq hP_4).1 (pc' := 25) rfl ?_
 refine w_aloadN X22 hx (d6_25 hby) rfl rfl (pc' := 26) rfl ?_
 refine w_getF X22 hx "" hZ hown (Or.inl (wd_27 hw)) Via.refl e22 zz8 (d6_26 hby) (pc' := 29) rfl ?_
 intro T23 X23 e23
 refine w_aloadN X23 hx (d6_29 hby) rfl rfl (pc' := 30) rfl ?_
 refine w_getF X23 hx "" hZ hown (Or.inl (wd_27 hw)) Via.refl e23 zz9 (d6_30 hby) (pc' := 33) rfl ?_
 intro T24 X24 e24
 refine w_icN X24 hx (d6_33 hby) (teq (by decide : (0 : Int32) = (0 : Int32))).2 (pc' := 36) rfl ?_
 refine w_aloadN X24 hx (d6_36 hby) rfl rfl (pc' := 37) rfl ?_
 refine w_getF X24 hx "" hZ hown (Or.inl (wd_26 hw)) Via.refl e24 zz10 (d6_37 hby) (pc' := 40) rfl ?_
 intro T25 X25 e25
 refine w_aloadN X25 hx (d6_40 hby) rfl rfl (pc' := 41) rfl ?_
 refine w_getF X25 hx "" hZ hown (Or.inl (wd_26 hw)) Via.refl e25 zz11 (d6_41 hby) (pc' := 44) rfl ?_
 intro T26 X26 e26
 refine w_static X26 hx (y := yn_7) hown (mvT hZ (wd_40 hw)) (mvT hZ (wd_41 hw)) (mvT hZ (wd_42 hw)) (mvT hZ (wd_43 hw)) (by decide) (backOf (W := 0) (rm_m7_22 l Z aZ hw [] jj1 jj2 jj3 jj4 jj5 h0 n0 Z0 zz12 zz13 zz14) hZ (wd_43 hw) (wd_42 hw) (by decide) (by decide)) (by rw [hml]; rfl) [(.ref jj1), (.ref jj2)] (lenOf pd_3 rfl) rfl (Nat.le_of_eq rfl) (d6_44 hby) (fun _ _ => ⟨rfl, e26, (by decide : 0 + 0 ≤ _), (by decide : 0 + 0 ≤ _)⟩) (pc' := 47) rfl ?_
 rintro _ _ ⟨T27, L27, k27, n27⟩ X27 ⟨Lc27, hQ27, l27, y27, z27⟩
 dsimp only [Pt.U, Pt.locs, Pt.cells, Pt.slots] at X27 l27 y27 z27 hQ27 ⊢
 subst l27 y27 z27
 obtain ⟨rfl, N27q, e27⟩ := hQ27
 have N28 := Fr.app N0 N27q
 show Runs _ _ _ _ (T27.setTop (mkF m 47 #[.val (.ref a0), .val (.ref a1), .val (.ref a1)] [(.int (1 : Int32))]))
 refine w_ifN X27 hx (d6_47 hby) (feq (by decide : ¬ ((1 : Int32) = (0 : Int32)))).1 (pc' := 50) rfl ?_
 refine w_iconst X27 hx (d6_50 hby) (v := (1 : Int32)) rfl (pc' := 51) rfl ?_
 refine w_goto X27 hx (d6_51 hby) (pc' := 55) (by decide) (by decide) ?_
 exact w_done X27 hlk (v := some (.int (1 : Int32))) e27 (fun h => by rw [hret] at h; cases h) (fun fs hr => retN X27 hx (t := .boolean) hret (by simp) (d6_55 hby) hr) (by decide) (by decide) (⟨rfl, N28, rfl⟩)
theorem ef_m5_20 (m : MethodId) (a0 : Addr)  : entryFrame m #[(.ref a0)] 1 = mkF m 0 #[.val (.ref a0)] [] := by first | (simp [entryFrame, mkF, argsToLocals, Value.category]; done) | rfl
def Q_m5_20 (Z : State) (a0 : Addr) (jj0 : Addr) (jj1 : ClassId) (jj2 : Int32) (jj3 : Int32) (h0 : Heap) (n0 : Nat) (v : Option Value) (h : Heap) (L : List Loc) (S : Addr → Prop) : Prop := v = some (.int (1 : Int32)) ∧ Fr n0 L ∧ Keep h0 h []
theorem rm_m5_20 (l : Launch) (Z : State) (aZ : Array Value) (hw : ∀ d ∈ tables_1, d.before aZ Z = true) (ws : List Jvm.Cond) (a0 : Addr) (jj0 : Addr) (jj1 : ClassId) (jj2 : Int32) (jj3 : Int32) (h0 : Heap) (n0 : Nat) (Z0 : n0 ≤ h0.size) (E_a0 : Exa Z h0 a0 kc0) (hP_1 : ¬ (jj3 = (0 : Int32))) (zz4 : Fld Z h0 a0 kc0 "coder" "B" (.int (0 : Int32))) (zz5 : Fld Z h0 a0 kc0 "value" "[B" (.ref jj0)) (zz6 : Arv Z h0 jj0 jj1 .byte (1 : Int32) [(.int jj2)] (.int (0 : Int32))) (hP_5 : jj2 = (46 : Int32)) (zz7 : Sta Z Z.heap kc0 "COMPACT_STRINGS" "Z" (.int jj3)) (O0 : Old Z n0 h0) :
    MetH l Z EL yn_5 prog_59_method_10_code 1 (some .boolean) ws ({ frames := 2, cells := 2, slots := 8, locals := 28 } : Room) #[(.ref a0)] h0 (Q_m5_20 Z a0 jj0 jj1 jj2 jj3 h0 n0) [a0] := by
 refine MetH.of (plainFor_of_name pn_3) ?_
 intro p e s m below meth c s₁ hret hx hby hml hown hnm hlk hZ X0 e0 hh hH hsf hS0 C0
 have N0 := Fr.nil n0
 rw [ef_m5_20 m a0]
 refine w_aloadN X0 hx (d5_0 hby) rfl rfl (pc' := 1) rfl ?_
 obtain ⟨a20, T20, h20, k20, b20, c20, X20, e20, E20, hS20, hk20, hZ20, hown20, gE20, gC20, gV20, gA20, lt20, ltb20, A20, -, ns20, st20⟩ := ldcCH X0 hx hZ hown (wd_32 hw) (own_wS hw) e0 hS0 (Nat.le_refl _) (own_EW hw) (by simp [EL]) C0.1 (vs := [(.int (46 : Int32))]) (z := (1 : Int32)) (by decide +kernel) (by decide) (by decide) (g := (mkF m 1 #[.val (.ref a0)] [(.ref a0)])) rfl (d5_1 hby) (n := 4) (by decide +kernel) (by decide) (by decide) (by decide)
 refine Runs.by ?_ st20
 have C21 : CHr Z EL s.vm h0 T20.vm h20 := C0.trans A20
 have K22 : Keep h0 h20 [] := (Keep.refl h0 []).ext E20
 show Runs _ _ _ _ (T20.setTop (mkF m 3 #[.val (.ref a0)] [(.ref a20), (.ref a0)]))
 have f29 : Old Z n0 h20 := (O0.ext E20)
 have f30 : Fld Z h20 a0 kc0 "coder" "B" (.int (0 : Int32)) := (zz4.ext E20)
 have f31 : Fld Z h20 a0 kc0 "value" "[B" (.ref jj0) := (zz5.ext E20)
 have f32 : Arv Z h20 jj0 jj1 .byte (1 : Int32) [(.int jj2)] (.int (0 : Int32)) := (zz6.ext E20)
 have ne33 : a0 ≠ a20 := (ns20 a0 (CHr.safe A20 (Nat.lt_of_lt_of_le zz4.lt (Nat.le_refl _)) (hsf a0 (by simp)))).1
 have f35 : Exa Z h20 a0 kc0 := (E_a0.ext E20)
 obtain ⟨cq34, kq34, q34a, q34b, q34c⟩ := isOf hZ20 e20 f35
 refine w_virtual X20 hx (y := yn_6) (z := yn_6) hown20 (mvT hZ20 (wd_33 hw)) (mvT hZ20 (wd_34 hw)) (notFace_of_selects (args := #[]) (mvT hZ20 (wd_36 hw))) (mvT hZ20 (wd_36 hw)) (mvT hZ20 (wd_35 hw)) (by decide) (backOf (W := 0) (rm_m6_21 l Z aZ hw [] a0 a20 jj3 jj0 b20 jj1 jj2 c20 h20 n0 (Nat.le_trans Z0 E20.1) ne33 gE20 zz7 f29 hP_1 f30 gC20 f31 gV20 f32 gA20 hP_5) hZ20 (wd_37 hw) (wd_9 hw) (by decide) (by decide)) q34a q34c (by rw [hml]; rfl) [(.ref a20)] (lenOf pd_4 rfl) rfl (Nat.le_of_eq rfl) (d5_3 hby) (fun _ _ => ⟨rfl, e20, (by decide : 2 + 0 ≤ _), (by decide : 8 + 0 ≤ _)⟩) (pc' := 6) rfl ?_
 rintro _ _ ⟨T34, L34, k34, n34⟩ X34 ⟨Lc34, hQ34, l34, y34, z34⟩
 dsimp only [Pt.U, Pt.locs, Pt.cells, Pt.slots] at X34 l34 y34 z34 hQ34 ⊢
 subst l34 y34 z34
 obtain ⟨rfl, N34q, e34⟩ := hQ34
 have N36 := Fr.app N0 N34q
 show Runs _ _ _ _ (T34.setTop (mkF m 6 #[.val (.ref a0)] [(.int (1 : Int32))]))
 refine w_ifY X34 hx (d5_6 hby) (feq (by decide : ¬ ((1 : Int32) = (0 : Int32)))).2 (pc' := 18) (by decide) (by decide) ?_
 refine w_iconst X34 hx (d5_18 hby) (v := (1 : Int32)) rfl (pc' := 19) rfl ?_
 refine w_goto X34 hx (d5_19 hby) (pc' := 23) (by decide) (by decide) ?_
 exact w_doneH X34 hlk (v := some (.int (1 : Int32))) e34 hh hZ20 (own_EW hw) hS20 hk20 C21 (fun h => by rw [hret] at h; cases h) (fun fs hr => retN X34 hx (t := .boolean) hret (by simp) (d5_23 hby) hr) (by decide) (by decide) (fun hsy => ⟨rfl, N36, K22⟩)
theorem ef_m7_25 (m : MethodId) (a0 : Addr) (a1 : Addr)  : entryFrame m #[(.ref a0), (.ref a1)] 3 = mkF m 0 #[.val (.ref a0), .val (.ref a1), .unset] [] := by first | (simp [entryFrame, mkF, argsToLocals, Value.category]; done) | rfl
def Q_m7_25 (Z : State) (a0 : Addr) (a1 : Addr) (k_a0 : ClassId) (jj0 : Int32) (k_a1 : ClassId) (h0 : Heap) (n0 : Nat) (v : Option Value) (h : Heap) (L : List Loc) : Prop := v = some (.int (0 : Int32)) ∧ Fr n0 L ∧ h = h0
theorem rm_m7_25 (l : Launch) (Z : State) (aZ : Array Value) (hw : ∀ d ∈ tables_1, d.before aZ Z = true) (ws : List Jvm.Cond) (a0 : Addr) (a1 : Addr) (k_a0 : ClassId) (jj0 : Int32) (k_a1 : ClassId) (h0 : Heap) (n0 : Nat) (Z0 : n0 ≤ h0.size) (V_a0 : Arv Z h0 a0 k_a0 .byte (1 : Int32) [(.int jj0)] (.int (0 : Int32))) (V_a1 : Arv Z h0 a1 k_a1 .byte (1 : Int32) [(.int (46 : Int32))] (.int (0 : Int32))) (hP_2 : ¬ (jj0 = (46 : Int32))) :
    MetN l Z yn_7 jdk_43_method_13_code 3 (some .boolean) ws ({ frames := 0, cells := 0, slots := 0, locals := 0 } : Room) #[(.ref a0), (.ref a1)] h0 (Q_m7_25 Z a0 a1 k_a0 jj0 k_a1 h0 n0) := by
 refine MetN.of (plainFor_of_name pn_2) ?_
 intro p e s m below meth c s₁ hret hx hby hml hown hnm hlk hZ X0 e0
 have N0 := Fr.nil n0
 rw [ef_m7_25 m a0 a1]
 refine w_aloadN X0 hx (d7_0 hby) rfl rfl (pc' := 1) rfl ?_
 refine w_alen X0 hx hZ e0 V_a0 (d7_1 hby) (pc' := 2) rfl ?_
 refine w_aloadN X0 hx (d7_2 hby) rfl rfl (pc' := 3) rfl ?_
 refine w_alen X0 hx hZ e0 V_a1 (d7_3 hby) (pc' := 4) rfl ?_
 refine w_icN X0 hx (d7_4 hby) (teq (by decide : (1 : Int32) = (1 : Int32))).2 (pc' := 7) rfl ?_
 refine w_iconst X0 hx (d7_7 hby) (v := (0 : Int32)) rfl (pc' := 8) rfl ?_
 refine w_istoreN X0 hx (d7_8 hby) (L' := #[.val (.ref a0), .val (.ref a1), .val (.int (0 : Int32))]) rfl (pc' := 9) rfl ?_
 refine w_iloadN X0 hx (d7_9 hby) rfl (pc' := 10) rfl ?_
 refine w_aloadN X0 hx (d7_10 hby) rfl rfl (pc' := 11) rfl ?_
 refine w_alen X0 hx hZ e0 V_a0 (d7_11 hby) (pc' := 12) rfl ?_
 refine w_icN X0 hx (d7_12 hby) (tlt (by decide : (0 : Int32) < (1 : Int32))).2.1 (pc' := 15) rfl ?_
 refine w_aloadN X0 hx (d7_15 hby) rfl rfl (pc' := 16) rfl ?_
 refine w_iloadN X0 hx (d7_16 hby) rfl (pc' := 17) rfl ?_
 obtain ⟨clu20, Aru20, qu20, Su20, Nu20, Hu20, Gu20⟩ := id V_a0
 have hinu20 := inb_of (j := (0 : Int32)) Su20 ⟨by decide, by decide⟩
 refine w_baload X0 hx hZ e0 Aru20 hinu20 (Hu20.at hinu20 rfl) (d7_17 hby) (pc' := 18) rfl ?_
 refine w_aloadN X0 hx (d7_18 hby) rfl rfl (pc' := 19) rfl ?_
 refine w_iloadN X0 hx (d7_19 hby) rfl (pc' := 20) rfl ?_
 obtain ⟨clu21, Aru21, qu21, Su21, Nu21, Hu21, Gu21⟩ := id V_a1
 have hinu21 := inb_of (j := (0 : Int32)) Su21 ⟨by decide, by decide⟩
 refine w_baload X0 hx hZ e0 Aru21 hinu21 (Hu21.at hinu21 rfl) (d7_20 hby) (pc' := 21) rfl ?_
 refine w_icN X0 hx (d7_21 hby) (feq hP_2).1 (pc' := 24) rfl ?_
 refine w_iconst X0 hx (d7_24 hby) (v := (0 : Int32)) rfl (pc' := 25) rfl ?_
 exact w_done X0 hlk (v := some (.int (0 : Int32))) e0 (fun h => by rw [hret] at h; cases h) (fun fs hr => retN X0 hx (t := .boolean) hret (by simp) (d7_25 hby) hr) (by decide) (by decide) (⟨rfl, N0, rfl⟩)
theorem ef_m6_24 (m : MethodId) (a0 : Addr) (a1 : Addr)  : entryFrame m #[(.ref a0), (.ref a1)] 3 = mkF m 0 #[.val (.ref a0), .val (.ref a1), .unset] [] := by first | (simp [entryFrame, mkF, argsToLocals, Value.category]; done) | rfl
def Q_m6_24 (Z : State) (a0 : Addr) (a1 : Addr) (jj0 : Int32) (jj1 : Addr) (jj2 : Addr) (jj3 : ClassId) (jj4 : Int32) (jj5 : ClassId) (h0 : Heap) (n0 : Nat) (v : Option Value) (h : Heap) (L : List Loc) : Prop := v = some (.int (0 : Int32)) ∧ Fr n0 L ∧ h = h0
theorem rm_m6_24 (l : Launch) (Z : State) (aZ : Array Value) (hw : ∀ d ∈ tables_1, d.before aZ Z = true) (ws : List Jvm.Cond) (a0 : Addr) (a1 : Addr) (jj0 : Int32) (jj1 : Addr) (jj2 : Addr) (jj3 : ClassId) (jj4 : Int32) (jj5 : ClassId) (h0 : Heap) (n0 : Nat) (Z0 : n0 ≤ h0.size) (zz6 : a0 ≠ a1) (E_a1 : Exa Z h0 a1 kc0) (zz7 : Sta Z Z.heap kc0 "COMPACT_STRINGS" "Z" (.int jj0)) (O0 : Old Z n0 h0) (hP_4 : ¬ (jj0 = (0 : Int32))) (zz8 : Fld Z h0 a0 kc0 "coder" "B" (.int (0 : Int32))) (zz9 : Fld Z h0 a1 kc0 "coder" "B" (.int (0 : Int32))) (zz10 : Fld Z h0 a0 kc0 "value" "[B" (.ref jj1)) (zz11 : Fld Z h0 a1 kc0 "value" "[B" (.ref jj2)) (zz12 : Arv Z h0 jj1 jj3 .byte (1 : Int32) [(.int jj4)] (.int (0 : Int32))) (zz13 : Arv Z h0 jj2 jj5 .byte (1 : Int32) [(.int (46 : Int32))] (.int (0 : Int32))) (zz14 : ¬ (jj4 = (46 : Int32))) :
    MetN l Z yn_6 jdk_42_method_66_code 3 (some .boolean) ws ({ frames := 1, cells := 0, slots := 0, locals := 14 } : Room) #[(.ref a0), (.ref a1)] h0 (Q_m6_24 Z a0 a1 jj0 jj1 jj2 jj3 jj4 jj5 h0 n0) := by
 refine MetN.of (plainFor_of_name pn_1) ?_
 intro p e s m below meth c s₁ hret hx hby hml hown hnm hlk hZ X0 e0
 have N0 := Fr.nil n0
 rw [ef_m6_24 m a0 a1]
 refine w_aloadN X0 hx (d6_0 hby) rfl rfl (pc' := 1) rfl ?_
 refine w_aloadN X0 hx (d6_1 hby) rfl rfl (pc' := 2) rfl ?_
 refine w_acmp X0 hx (d6_2 hby) (same := false) rfl rfl (decide_eq_false fun q => zz6 (Value.ref.inj q)) (pc' := 7) (by decide) (by decide) ?_
 refine w_aloadN X0 hx (d6_7 hby) rfl rfl (pc' := 8) rfl ?_
 refine w_instY X0 hx hZ hown (wd_38 hw) e0 (Ins.self E_a1) (d6_8 hby) (pc' := 11) rfl ?_
 intro T20 X20 e20
 refine w_ifN X20 hx (d6_11 hby) (feq (by decide : ¬ ((1 : Int32) = (0 : Int32)))).1 (pc' := 14) rfl ?_
 refine w_aloadN X20 hx (d6_14 hby) rfl rfl (pc' := 15) rfl ?_
 refine w_castY X20 hx hZ hown (wd_38 hw) e20 (Ins.self E_a1) (d6_15 hby) (pc' := 18) rfl ?_
 intro T21 X21 e21
 refine w_astoreN X21 hx (d6_18 hby) rfl (L' := #[.val (.ref a0), .val (.ref a1), .val (.ref a1)]) rfl (pc' := 19) rfl ?_
 refine w_getS X21 hx "" hZ hown (Or.inl (wd_39 hw)) Via.refl e21 (zz7.ext O0.2) (d6_19 hby) (pc' := 22) rfl ?_
 intro T22 X22 e22
 refine w_ifN X22 hx (d6_22 hby) (feq hP_4).1 (pc' := 25) rfl ?_
 refine w_aloadN X22 hx (d6_25 hby) rfl rfl (pc' := 26) rfl ?_
 refine w_getF X22 hx "" hZ hown (Or.inl (wd_27 hw)) Via.refl e22 zz8 (d6_26 hby) (pc' := 29) rfl ?_
 intro T23 X23 e23
 refine w_aloadN X23 hx (d6_29 hby) rfl rfl (pc' := 30) rfl ?_
 refine w_getF X23 hx "" hZ hown (Or.inl (wd_27 hw)) Via.refl e23 zz9 (d6_30 hby) (pc' := 33) rfl ?_
 intro T24 X24 e24
 refine w_icN X24 hx (d6_33 hby) (teq (by decide : (0 : Int32) = (0 : Int32))).2 (pc' := 36) rfl ?_
 refine w_aloadN X24 hx (d6_36 hby) rfl rfl (pc' := 37) rfl ?_
 refine w_getF X24 hx "" hZ hown (Or.inl (wd_26 hw)) Via.refl e24 zz10 (d6_37 hby) (pc' := 40) rfl ?_
 intro T25 X25 e25
 refine w_aloadN X25 hx (d6_40 hby) rfl rfl (pc' := 41) rfl ?_
 refine w_getF X25 hx "" hZ hown (Or.inl (wd_26 hw)) Via.refl e25 zz11 (d6_41 hby) (pc' := 44) rfl ?_
 intro T26 X26 e26
 refine w_static X26 hx (y := yn_7) hown (mvT hZ (wd_40 hw)) (mvT hZ (wd_41 hw)) (mvT hZ (wd_42 hw)) (mvT hZ (wd_43 hw)) (by decide) (backOf (W := 0) (rm_m7_25 l Z aZ hw [] jj1 jj2 jj3 jj4 jj5 h0 n0 Z0 zz12 zz13 zz14) hZ (wd_43 hw) (wd_42 hw) (by decide) (by decide)) (by rw [hml]; rfl) [(.ref jj1), (.ref jj2)] (lenOf pd_3 rfl) rfl (Nat.le_of_eq rfl) (d6_44 hby) (fun _ _ => ⟨rfl, e26, (by decide : 0 + 0 ≤ _), (by decide : 0 + 0 ≤ _)⟩) (pc' := 47) rfl ?_
 rintro _ _ ⟨T27, L27, k27, n27⟩ X27 ⟨Lc27, hQ27, l27, y27, z27⟩
 dsimp only [Pt.U, Pt.locs, Pt.cells, Pt.slots] at X27 l27 y27 z27 hQ27 ⊢
 subst l27 y27 z27
 obtain ⟨rfl, N27q, e27⟩ := hQ27
 have N28 := Fr.app N0 N27q
 show Runs _ _ _ _ (T27.setTop (mkF m 47 #[.val (.ref a0), .val (.ref a1), .val (.ref a1)] [(.int (0 : Int32))]))
 refine w_ifY X27 hx (d6_47 hby) (teq (by decide : (0 : Int32) = (0 : Int32))).1 (pc' := 54) (by decide) (by decide) ?_
 refine w_iconst X27 hx (d6_54 hby) (v := (0 : Int32)) rfl (pc' := 55) rfl ?_
 exact w_done X27 hlk (v := some (.int (0 : Int32))) e27 (fun h => by rw [hret] at h; cases h) (fun fs hr => retN X27 hx (t := .boolean) hret (by simp) (d6_55 hby) hr) (by decide) (by decide) (⟨rfl, N28, rfl⟩)
theorem ef_m7_27 (m : MethodId) (a0 : Addr) (a1 : Addr)  : entryFrame m #[(.ref a0), (.ref a1)] 3 = mkF m 0 #[.val (.ref a0), .val (.ref a1), .unset] [] := by first | (simp [entryFrame, mkF, argsToLocals, Value.category]; done) | rfl
def Q_m7_27 (Z : State) (a0 : Addr) (a1 : Addr) (k_a0 : ClassId) (jj0 : Int32) (k_a1 : ClassId) (h0 : Heap) (n0 : Nat) (v : Option Value) (h : Heap) (L : List Loc) : Prop := v = some (.int (0 : Int32)) ∧ Fr n0 L ∧ h = h0
theorem rm_m7_27 (l : Launch) (Z : State) (aZ : Array Value) (hw : ∀ d ∈ tables_1, d.before aZ Z = true) (ws : List Jvm.Cond) (a0 : Addr) (a1 : Addr) (k_a0 : ClassId) (jj0 : Int32) (k_a1 : ClassId) (h0 : Heap) (n0 : Nat) (Z0 : n0 ≤ h0.size) (V_a0 : Arv Z h0 a0 k_a0 .byte (1 : Int32) [(.int jj0)] (.int (0 : Int32))) (V_a1 : Arv Z h0 a1 k_a1 .byte (2 : Int32) [(.int (46 : Int32)), (.int (46 : Int32))] (.int (0 : Int32))) :
    MetN l Z yn_7 jdk_43_method_13_code 3 (some .boolean) ws ({ frames := 0, cells := 0, slots := 0, locals := 0 } : Room) #[(.ref a0), (.ref a1)] h0 (Q_m7_27 Z a0 a1 k_a0 jj0 k_a1 h0 n0) := by
 refine MetN.of (plainFor_of_name pn_2) ?_
 intro p e s m below meth c s₁ hret hx hby hml hown hnm hlk hZ X0 e0
 have N0 := Fr.nil n0
 rw [ef_m7_27 m a0 a1]
 refine w_aloadN X0 hx (d7_0 hby) rfl rfl (pc' := 1) rfl ?_
 refine w_alen X0 hx hZ e0 V_a0 (d7_1 hby) (pc' := 2) rfl ?_
 refine w_aloadN X0 hx (d7_2 hby) rfl rfl (pc' := 3) rfl ?_
 refine w_alen X0 hx hZ e0 V_a1 (d7_3 hby) (pc' := 4) rfl ?_
 refine w_icY X0 hx (d7_4 hby) (feq (by decide : ¬ ((1 : Int32) = (2 : Int32)))).2 (pc' := 34) (by decide) (by decide) ?_
 refine w_iconst X0 hx (d7_34 hby) (v := (0 : Int32)) rfl (pc' := 35) rfl ?_
 exact w_done X0 hlk (v := some (.int (0 : Int32))) e0 (fun h => by rw [hret] at h; cases h) (fun fs hr => retN X0 hx (t := .boolean) hret (by simp) (d7_35 hby) hr) (by decide) (by decide) (⟨rfl, N0, rfl⟩)
theorem ef_m6_26 (m : MethodId) (a0 : Addr) (a1 : Addr)  : entryFrame m #[(.ref a0), (.ref a1)] 3 = mkF m 0 #[.val (.ref a0), .val (.ref a1), .unset] [] := by first | (simp [entryFrame, mkF, argsToLocals, Value.category]; done) | rfl
def Q_m6_26 (Z : State) (a0 : Addr) (a1 : Addr) (jj0 : Int32) (jj1 : Addr) (jj2 : Addr) (jj3 : ClassId) (jj4 : Int32) (jj5 : ClassId) (h0 : Heap) (n0 : Nat) (v : Option Value) (h : Heap) (L : List Loc) : Prop := v = some (.int (0 : Int32)) ∧ Fr n0 L ∧ h = h0
theorem rm_m6_26 (l : Launch) (Z : State) (aZ : Array Value) (hw : ∀ d ∈ tables_1, d.before aZ Z = true) (ws : List Jvm.Cond) (a0 : Addr) (a1 : Addr) (jj0 : Int32) (jj1 : Addr) (jj2 : Addr) (jj3 : ClassId) (jj4 : Int32) (jj5 : ClassId) (h0 : Heap) (n0 : Nat) (Z0 : n0 ≤ h0.size) (zz6 : a0 ≠ a1) (E_a1 : Exa Z h0 a1 kc0) (zz7 : Sta Z Z.heap kc0 "COMPACT_STRINGS" "Z" (.int jj0)) (O0 : Old Z n0 h0) (hP_4 : ¬ (jj0 = (0 : Int32))) (zz8 : Fld Z h0 a0 kc0 "coder" "B" (.int (0 : Int32))) (zz9 : Fld Z h0 a1 kc0 "coder" "B" (.int (0 : Int32))) (zz10 : Fld Z h0 a0 kc0 "value" "[B" (.ref jj1)) (zz11 : Fld Z h0 a1 kc0 "value" "[B" (.ref jj2)) (zz12 : Arv Z h0 jj1 jj3 .byte (1 : Int32) [(.int jj4)] (.int (0 : Int32))) (zz13 : Arv Z h0 jj2 jj5 .byte (2 : Int32) [(.int (46 : Int32)), (.int (46 : Int32))] (.int (0 : Int32))) :
    MetN l Z yn_6 jdk_42_method_66_code 3 (some .boolean) ws ({ frames := 1, cells := 0, slots := 0, locals := 14 } : Room) #[(.ref a0), (.ref a1)] h0 (Q_m6_26 Z a0 a1 jj0 jj1 jj2 jj3 jj4 jj5 h0 n0) := by
 refine MetN.of (plainFor_of_name pn_1) ?_
 intro p e s m below meth c s₁ hret hx hby hml hown hnm hlk hZ X0 e0
 have N0 := Fr.nil n0
 rw [ef_m6_26 m a0 a1]
 refine w_aloadN X0 hx (d6_0 hby) rfl rfl (pc' := 1) rfl ?_
 refine w_aloadN X0 hx (d6_1 hby) rfl rfl (pc' := 2) rfl ?_
 refine w_acmp X0 hx (d6_2 hby) (same := false) rfl rfl (decide_eq_false fun q => zz6 (Value.ref.inj q)) (pc' := 7) (by decide) (by decide) ?_
 refine w_aloadN X0 hx (d6_7 hby) rfl rfl (pc' := 8) rfl ?_
 refine w_instY X0 hx hZ hown (wd_38 hw) e0 (Ins.self E_a1) (d6_8 hby) (pc' := 11) rfl ?_
 intro T20 X20 e20
 refine w_ifN X20 hx (d6_11 hby) (feq (by decide : ¬ ((1 : Int32) = (0 : Int32)))).1 (pc' := 14) rfl ?_
 refine w_aloadN X20 hx (d6_14 hby) rfl rfl (pc' := 15) rfl ?_
 refine w_castY X20 hx hZ hown (wd_38 hw) e20 (Ins.self E_a1) (d6_15 hby) (pc' := 18) rfl ?_
 intro T21 X21 e21
 refine w_astoreN X21 hx (d6_18 hby) rfl (L' := #[.val (.ref a0), .val (.ref a1), .val (.ref a1)]) rfl (pc' := 19) rfl ?_
 refine w_getS X21 hx "" hZ hown (Or.inl (wd_39 hw)) Via.refl e21 (zz7.ext O0.2) (d6_19 hby) (pc' := 22) rfl ?_
 intro T22 X22 e22
 refine w_ifN X22 hx (d6_22 hby) (feq hP_4).1 (pc' := 25) rfl ?_
 refine w_aloadN X22 hx (d6_25 hby) rfl rfl (pc' := 26) rfl ?_
 refine w_getF X22 hx "" hZ hown (Or.inl (wd_27 hw)) Via.refl e22 zz8 (d6_26 hby) (pc' := 29) rfl ?_
 intro T23 X23 e23
 refine w_aloadN X23 hx (d6_29 hby) rfl rfl (pc' := 30) rfl ?_
 refine w_getF X23 hx "" hZ hown (Or.inl (wd_27 hw)) Via.refl e23 zz9 (d6_30 hby) (pc' := 33) rfl ?_
 intro T24 X24 e24
 refine w_icN X24 hx (d6_33 hby) (teq (by decide : (0 : Int32) = (0 : Int32))).2 (pc' := 36) rfl ?_
 refine w_aloadN X24 hx (d6_36 hby) rfl rfl (pc' := 37) rfl ?_
 refine w_getF X24 hx "" hZ hown (Or.inl (wd_26 hw)) Via.refl e24 zz10 (d6_37 hby) (pc' := 40) rfl ?_
 intro T25 X25 e25
 refine w_aloadN X25 hx (d6_40 hby) rfl rfl (pc' := 41) rfl ?_
 refine w_getF X25 hx "" hZ hown (Or.inl (wd_26 hw)) Via.refl e25 zz11 (d6_41 hby) (pc' := 44) rfl ?_
 intro T26 X26 e26
 refine w_static X26 hx (y := yn_7) hown (mvT hZ (wd_40 hw)) (mvT hZ (wd_41 hw)) (mvT hZ (wd_42 hw)) (mvT hZ (wd_43 hw)) (by decide) (backOf (W := 0) (rm_m7_27 l Z aZ hw [] jj1 jj2 jj3 jj4 jj5 h0 n0 Z0 zz12 zz13) hZ (wd_43 hw) (wd_42 hw) (by decide) (by decide)) (by rw [hml]; rfl) [(.ref jj1), (.ref jj2)] (lenOf pd_3 rfl) rfl (Nat.le_of_eq rfl) (d6_44 hby) (fun _ _ => ⟨rfl, e26, (by decide : 0 + 0 ≤ _), (by decide : 0 + 0 ≤ _)⟩) (pc' := 47) rfl ?_
 rintro _ _ ⟨T27, L27, k27, n27⟩ X27 ⟨Lc27, hQ27, l27, y27, z27⟩
 dsimp only [Pt.U, Pt.locs, Pt.cells, Pt.slots] at X27 l27 y27 z27 hQ27 ⊢
 subst l27 y27 z27
 obtain ⟨rfl, N27q, e27⟩ := hQ27
 have N28 := Fr.app N0 N27q
 show Runs _ _ _ _ (T27.setTop (mkF m 47 #[.val (.ref a0), .val (.ref a1), .val (.ref a1)] [(.int (0 : Int32))]))
 refine w_ifY X27 hx (d6_47 hby) (teq (by decide : (0 : Int32) = (0 : Int32))).1 (pc' := 54) (by decide) (by decide) ?_
 refine w_iconst X27 hx (d6_54 hby) (v := (0 : Int32)) rfl (pc' := 55) rfl ?_
 exact w_done X27 hlk (v := some (.int (0 : Int32))) e27 (fun h => by rw [hret] at h; cases h) (fun fs hr => retN X27 hx (t := .boolean) hret (by simp) (d6_55 hby) hr) (by decide) (by decide) (⟨rfl, N28, rfl⟩)
theorem ef_m5_23 (m : MethodId) (a0 : Addr)  : entryFrame m #[(.ref a0)] 1 = mkF m 0 #[.val (.ref a0)] [] := by first | (simp [entryFrame, mkF, argsToLocals, Value.category]; done) | rfl
def Q_m5_23 (Z : State) (a0 : Addr) (jj0 : Addr) (jj1 : ClassId) (jj2 : Int32) (jj3 : Int32) (h0 : Heap) (n0 : Nat) (v : Option Value) (h : Heap) (L : List Loc) (S : Addr → Prop) : Prop := v = some (.int (0 : Int32)) ∧ Fr n0 L ∧ Keep h0 h []
theorem rm_m5_23 (l : Launch) (Z : State) (aZ : Array Value) (hw : ∀ d ∈ tables_1, d.before aZ Z = true) (ws : List Jvm.Cond) (a0 : Addr) (jj0 : Addr) (jj1 : ClassId) (jj2 : Int32) (jj3 : Int32) (h0 : Heap) (n0 : Nat) (Z0 : n0 ≤ h0.size) (E_a0 : Exa Z h0 a0 kc0) (hP_1 : ¬ (jj3 = (0 : Int32))) (zz4 : Fld Z h0 a0 kc0 "coder" "B" (.int (0 : Int32))) (zz5 : Fld Z h0 a0 kc0 "value" "[B" (.ref jj0)) (zz6 : Arv Z h0 jj0 jj1 .byte (1 : Int32) [(.int jj2)] (.int (0 : Int32))) (hP_5 : ¬ (jj2 = (46 : Int32))) (zz7 : Sta Z Z.heap kc0 "COMPACT_STRINGS" "Z" (.int jj3)) (O0 : Old Z n0 h0) :
    MetH l Z EL yn_5 prog_59_method_10_code 1 (some .boolean) ws ({ frames := 2, cells := 4, slots := 20, locals := 28 } : Room) #[(.ref a0)] h0 (Q_m5_23 Z a0 jj0 jj1 jj2 jj3 h0 n0) [a0] := by
 refine MetH.of (plainFor_of_name pn_3) ?_
 intro p e s m below meth c s₁ hret hx hby hml hown hnm hlk hZ X0 e0 hh hH hsf hS0 C0
 have N0 := Fr.nil n0
 rw [ef_m5_23 m a0]
 refine w_aloadN X0 hx (d5_0 hby) rfl rfl (pc' := 1) rfl ?_
 obtain ⟨a20, T20, h20, k20, b20, c20, X20, e20, E20, hS20, hk20, hZ20, hown20, gE20, gC20, gV20, gA20, lt20, ltb20, A20, -, ns20, st20⟩ := ldcCH X0 hx hZ hown (wd_32 hw) (own_wS hw) e0 hS0 (Nat.le_refl _) (own_EW hw) (by simp [EL]) C0.1 (vs := [(.int (46 : Int32))]) (z := (1 : Int32)) (by decide +kernel) (by decide) (by decide) (g := (mkF m 1 #[.val (.ref a0)] [(.ref a0)])) rfl (d5_1 hby) (n := 4) (by decide +kernel) (by decide) (by decide) (by decide)
 refine Runs.by ?_ st20
 have C21 : CHr Z EL s.vm h0 T20.vm h20 := C0.trans A20
 have K22 : Keep h0 h20 [] := (Keep.refl h0 []).ext E20
 show Runs _ _ _ _ (T20.setTop (mkF m 3 #[.val (.ref a0)] [(.ref a20), (.ref a0)]))
 have f34 : Old Z n0 h20 := (O0.ext E20)
 have f35 : Fld Z h20 a0 kc0 "coder" "B" (.int (0 : Int32)) := (zz4.ext E20)
 have f36 : Fld Z h20 a0 kc0 "value" "[B" (.ref jj0) := (zz5.ext E20)
 have f37 : Arv Z h20 jj0 jj1 .byte (1 : Int32) [(.int jj2)] (.int (0 : Int32)) := (zz6.ext E20)
 have ne38 : a0 ≠ a20 := (ns20 a0 (CHr.safe A20 (Nat.lt_of_lt_of_le zz4.lt (Nat.le_refl _)) (hsf a0 (by simp)))).1
 have f40 : Exa Z h20 a0 kc0 := (E_a0.ext E20)
 obtain ⟨cq39, kq39, q39a, q39b, q39c⟩ := isOf hZ20 e20 f40
 refine w_virtual X20 hx (y := yn_6) (z := yn_6) hown20 (mvT hZ20 (wd_33 hw)) (mvT hZ20 (wd_34 hw)) (notFace_of_selects (args := #[]) (mvT hZ20 (wd_36 hw))) (mvT hZ20 (wd_36 hw)) (mvT hZ20 (wd_35 hw)) (by decide) (backOf (W := 0) (rm_m6_24 l Z aZ hw [] a0 a20 jj3 jj0 b20 jj1 jj2 c20 h20 n0 (Nat.le_trans Z0 E20.1) ne38 gE20 zz7 f34 hP_1 f35 gC20 f36 gV20 f37 gA20 hP_5) hZ20 (wd_37 hw) (wd_9 hw) (by decide) (by decide)) q39a q39c (by rw [hml]; rfl) [(.ref a20)] (lenOf pd_4 rfl) rfl (Nat.le_of_eq rfl) (d5_3 hby) (fun _ _ => ⟨rfl, e20, (by decide : 2 + 0 ≤ _), (by decide : 8 + 0 ≤ _)⟩) (pc' := 6) rfl ?_
 rintro _ _ ⟨T39, L39, k39, n39⟩ X39 ⟨Lc39, hQ39, l39, y39, z39⟩
 dsimp only [Pt.U, Pt.locs, Pt.cells, Pt.slots] at X39 l39 y39 z39 hQ39 ⊢
 subst l39 y39 z39
 obtain ⟨rfl, N39q, e39⟩ := hQ39
 have N41 := Fr.app N0 N39q
 show Runs _ _ _ _ (T39.setTop (mkF m 6 #[.val (.ref a0)] [(.int (0 : Int32))]))
 refine w_ifN X39 hx (d5_6 hby) (teq (by decide : (0 : Int32) = (0 : Int32))).2 (pc' := 9) rfl ?_
 refine w_aloadN X39 hx (d5_9 hby) rfl rfl (pc' := 10) rfl ?_
 obtain ⟨a42, T42, h42, k42, b42, c42, X42, e42, E42, hS42, hk42, hZ42, hown42, gE42, gC42, gV42, gA42, lt42, ltb42, A42, -, ns42, st42⟩ := ldcCH X39 hx hZ20 hown20 (wd_44 hw) (own_wS hw) e39 hS20 hk20 (own_EW hw) (by simp [EL]) C21.1 (vs := [(.int (46 : Int32)), (.int (46 : Int32))]) (z := (2 : Int32)) (by decide +kernel) (by decide) (by decide) (g := (mkF m 10 #[.val (.ref a0)] [(.ref a0)])) rfl (d5_10 hby) (n := 8) (by decide +kernel) (by decide) (by decide) (by decide)
 refine Runs.by ?_ st42
 have C43 : CHr Z EL s.vm h0 T42.vm h42 := C21.trans A42
 have K44 : Keep h0 h42 [] := K22.ext E42
 show Runs _ _ _ _ (T42.setTop (mkF m 12 #[.val (.ref a0)] [(.ref a42), (.ref a0)]))
 have f59 : Old Z n0 h42 := (f34.ext E42)
 have f60 : Fld Z h42 a0 kc0 "coder" "B" (.int (0 : Int32)) := (f35.ext E42)
 have f61 : Fld Z h42 a0 kc0 "value" "[B" (.ref jj0) := (f36.ext E42)
 have f62 : Arv Z h42 jj0 jj1 .byte (1 : Int32) [(.int jj2)] (.int (0 : Int32)) := (f37.ext E42)
 have ne63 : a0 ≠ a42 := (ns42 a0 (CHr.safe A42 (Nat.lt_of_lt_of_le zz4.lt E20.1) (CHr.safe A20 (Nat.lt_of_lt_of_le zz4.lt (Nat.le_refl _)) (hsf a0 (by simp))))).1
 have le64 : h0.size ≤ h42.size := (Nat.le_trans E20.1 E42.1)
 have f66 : Exa Z h42 a0 kc0 := (f40.ext E42)
 obtain ⟨cq65, kq65, q65a, q65b, q65c⟩ := isOf hZ42 e42 f66
 refine w_virtual X42 hx (y := yn_6) (z := yn_6) hown42 (mvT hZ42 (wd_33 hw)) (mvT hZ42 (wd_34 hw)) (notFace_of_selects (args := #[]) (mvT hZ42 (wd_36 hw))) (mvT hZ42 (wd_36 hw)) (mvT hZ42 (wd_35 hw)) (by decide) (backOf (W := 0) (rm_m6_26 l Z aZ hw [] a0 a42 jj3 jj0 b42 jj1 jj2 c42 h42 n0 (Nat.le_trans Z0 le64) ne63 gE42 zz7 f59 hP_1 f60 gC42 f61 gV42 f62 gA42) hZ42 (wd_37 hw) (wd_9 hw) (by decide) (by decide)) q65a q65c (by rw [hml]; rfl) [(.ref a42)] (lenOf pd_4 rfl) rfl (Nat.le_of_eq rfl) (d5_12 hby) (fun _ _ => ⟨rfl, e42, (by decide : 4 + 0 ≤ _), (by decide : 20 + 0 ≤ _)⟩) (pc' := 15) rfl ?_
 rintro _ _ ⟨T65, L65, k65, n65⟩ X65 ⟨Lc65, hQ65, l65, y65, z65⟩
 dsimp only [Pt.U, Pt.locs, Pt.cells, Pt.slots] at X65 l65 y65 z65 hQ65 ⊢
 subst l65 y65 z65
 obtain ⟨rfl, N65q, e65⟩ := hQ65
 have N67 := Fr.app N41 N65q
 show Runs _ _ _ _ (T65.setTop (mkF m 15 #[.val (.ref a0)] [(.int (0 : Int32))]))
 refine w_ifY X65 hx (d5_15 hby) (teq (by decide : (0 : Int32) = (0 : Int32))).1 (pc' := 22) (by decide) (by decide) ?_
 refine w_iconst X65 hx (d5_22 hby) (v := (0 : Int32)) rfl (pc' := 23) rfl ?_
 exact w_doneH X65 hlk (v := some (.int (0 : Int32))) e65 hh hZ42 (own_EW hw) hS42 hk42 C43 (fun h => by rw [hret] at h; cases h) (fun fs hr => retN X65 hx (t := .boolean) hret (by simp) (d5_23 hby) hr) (by decide) (by decide) (fun hsy => ⟨rfl, N67, K44⟩)
theorem ef_m6_29 (m : MethodId) (a0 : Addr) (a1 : Addr)  : entryFrame m #[(.ref a0), (.ref a1)] 3 = mkF m 0 #[.val (.ref a0), .val (.ref a1), .unset] [] := by first | (simp [entryFrame, mkF, argsToLocals, Value.category]; done) | rfl
def Q_m6_29 (Z : State) (a0 : Addr) (a1 : Addr) (jj0 : Int32) (h0 : Heap) (n0 : Nat) (v : Option Value) (h : Heap) (L : List Loc) : Prop := v = some (.int (0 : Int32)) ∧ Fr n0 L ∧ h = h0
theorem rm_m6_29 (l : Launch) (Z : State) (aZ : Array Value) (hw : ∀ d ∈ tables_1, d.before aZ Z = true) (ws : List Jvm.Cond) (a0 : Addr) (a1 : Addr) (jj0 : Int32) (h0 : Heap) (n0 : Nat) (Z0 : n0 ≤ h0.size) (zz1 : a0 ≠ a1) (E_a1 : Exa Z h0 a1 kc0) (zz2 : Sta Z Z.heap kc0 "COMPACT_STRINGS" "Z" (.int jj0)) (O0 : Old Z n0 h0) (hP_4 : ¬ (jj0 = (0 : Int32))) (zz3 : Fld Z h0 a0 kc0 "coder" "B" (.int (1 : Int32))) (zz4 : Fld Z h0 a1 kc0 "coder" "B" (.int (0 : Int32))) :
    MetN l Z yn_6 jdk_42_method_66_code 3 (some .boolean) ws ({ frames := 0, cells := 0, slots := 0, locals := 0 } : Room) #[(.ref a0), (.ref a1)] h0 (Q_m6_29 Z a0 a1 jj0 h0 n0) := by
 refine MetN.of (plainFor_of_name pn_1) ?_
 intro p e s m below meth c s₁ hret hx hby hml hown hnm hlk hZ X0 e0
 have N0 := Fr.nil n0
 rw [ef_m6_29 m a0 a1]
 refine w_aloadN X0 hx (d6_0 hby) rfl rfl (pc' := 1) rfl ?_
 refine w_aloadN X0 hx (d6_1 hby) rfl rfl (pc' := 2) rfl ?_
 refine w_acmp X0 hx (d6_2 hby) (same := false) rfl rfl (decide_eq_false fun q => zz1 (Value.ref.inj q)) (pc' := 7) (by decide) (by decide) ?_
 refine w_aloadN X0 hx (d6_7 hby) rfl rfl (pc' := 8) rfl ?_
 refine w_instY X0 hx hZ hown (wd_38 hw) e0 (Ins.self E_a1) (d6_8 hby) (pc' := 11) rfl ?_
 intro T20 X20 e20
 refine w_ifN X20 hx (d6_11 hby) (feq (by decide : ¬ ((1 : Int32) = (0 : Int32)))).1 (pc' := 14) rfl ?_
 refine w_aloadN X20 hx (d6_14 hby) rfl rfl (pc' := 15) rfl ?_
 refine w_castY X20 hx hZ hown (wd_38 hw) e20 (Ins.self E_a1) (d6_15 hby) (pc' := 18) rfl ?_
 intro T21 X21 e21
 refine w_astoreN X21 hx (d6_18 hby) rfl (L' := #[.val (.ref a0), .val (.ref a1), .val (.ref a1)]) rfl (pc' := 19) rfl ?_
 refine w_getS X21 hx "" hZ hown (Or.inl (wd_39 hw)) Via.refl e21 (zz2.ext O0.2) (d6_19 hby) (pc' := 22) rfl ?_
 intro T22 X22 e22
 refine w_ifN X22 hx (d6_22 hby) (feq hP_4).1 (pc' := 25) rfl ?_
 refine w_aloadN X22 hx (d6_25 hby) rfl rfl (pc' := 26) rfl ?_
 refine w_getF X22 hx "" hZ hown (Or.inl (wd_27 hw)) Via.refl e22 zz3 (d6_26 hby) (pc' := 29) rfl ?_
 intro T23 X23 e23
 refine w_aloadN X23 hx (d6_29 hby) rfl rfl (pc' := 30) rfl ?_
 refine w_getF X23 hx "" hZ hown (Or.inl (wd_27 hw)) Via.refl e23 zz4 (d6_30 hby) (pc' := 33) rfl ?_
 intro T24 X24 e24
 refine w_icY X24 hx (d6_33 hby) (feq (by decide : ¬ ((1 : Int32) = (0 : Int32)))).2 (pc' := 54) (by decide) (by decide) ?_
 refine w_iconst X24 hx (d6_54 hby) (v := (0 : Int32)) rfl (pc' := 55) rfl ?_
 exact w_done X24 hlk (v := some (.int (0 : Int32))) e24 (fun h => by rw [hret] at h; cases h) (fun fs hr => retN X24 hx (t := .boolean) hret (by simp) (d6_55 hby) hr) (by decide) (by decide) (⟨rfl, N0, rfl⟩)
theorem ef_m5_28 (m : MethodId) (a0 : Addr)  : entryFrame m #[(.ref a0)] 1 = mkF m 0 #[.val (.ref a0)] [] := by first | (simp [entryFrame, mkF, argsToLocals, Value.category]; done) | rfl
def Q_m5_28 (Z : State) (a0 : Addr) (jj0 : Int32) (h0 : Heap) (n0 : Nat) (v : Option Value) (h : Heap) (L : List Loc) (S : Addr → Prop) : Prop := v = some (.int (0 : Int32)) ∧ Fr n0 L ∧ Keep h0 h []
theorem rm_m5_28 (l : Launch) (Z : State) (aZ : Array Value) (hw : ∀ d ∈ tables_1, d.before aZ Z = true) (ws : List Jvm.Cond) (a0 : Addr) (jj0 : Int32) (h0 : Heap) (n0 : Nat) (Z0 : n0 ≤ h0.size) (E_a0 : Exa Z h0 a0 kc0) (hP_1 : ¬ (jj0 = (0 : Int32))) (zz1 : Fld Z h0 a0 kc0 "coder" "B" (.int (1 : Int32))) (zz2 : Sta Z Z.heap kc0 "COMPACT_STRINGS" "Z" (.int jj0)) (O0 : Old Z n0 h0) :
    MetH l Z EL yn_5 prog_59_method_10_code 1 (some .boolean) ws ({ frames := 1, cells := 4, slots := 20, locals := 14 } : Room) #[(.ref a0)] h0 (Q_m5_28 Z a0 jj0 h0 n0) [a0] := by
 refine MetH.of (plainFor_of_name pn_3) ?_
 intro p e s m below meth c s₁ hret hx hby hml hown hnm hlk hZ X0 e0 hh hH hsf hS0 C0
 have N0 := Fr.nil n0
 rw [ef_m5_28 m a0]
 refine w_aloadN X0 hx (d5_0 hby) rfl rfl (pc' := 1) rfl ?_
 obtain ⟨a20, T20, h20, k20, b20, c20, X20, e20, E20, hS20, hk20, hZ20, hown20, gE20, gC20, gV20, gA20, lt20, ltb20, A20, -, ns20, st20⟩ := ldcCH X0 hx hZ hown (wd_32 hw) (own_wS hw) e0 hS0 (Nat.le_refl _) (own_EW hw) (by simp [EL]) C0.1 (vs := [(.int (46 : Int32))]) (z := (1 : Int32)) (by decide +kernel) (by decide) (by decide) (g := (mkF m 1 #[.val (.ref a0)] [(.ref a0)])) rfl (d5_1 hby) (n := 4) (by decide +kernel) (by decide) (by decide) (by decide)
 refine Runs.by ?_ st20
 have C21 : CHr Z EL s.vm h0 T20.vm h20 := C0.trans A20
 have K22 : Keep h0 h20 [] := (Keep.refl h0 []).ext E20
 show Runs _ _ _ _ (T20.setTop (mkF m 3 #[.val (.ref a0)] [(.ref a20), (.ref a0)]))
 have f28 : Old Z n0 h20 := (O0.ext E20)
 have f29 : Fld Z h20 a0 kc0 "coder" "B" (.int (1 : Int32)) := (zz1.ext E20)
 have ne30 : a0 ≠ a20 := (ns20 a0 (CHr.safe A20 (Nat.lt_of_lt_of_le zz1.lt (Nat.le_refl _)) (hsf a0 (by simp)))).1
 have f32 : Exa Z h20 a0 kc0 := (E_a0.ext E20)
 obtain ⟨cq31, kq31, q31a, q31b, q31c⟩ := isOf hZ20 e20 f32
 refine w_virtual X20 hx (y := yn_6) (z := yn_6) hown20 (mvT hZ20 (wd_33 hw)) (mvT hZ20 (wd_34 hw)) (notFace_of_selects (args := #[]) (mvT hZ20 (wd_36 hw))) (mvT hZ20 (wd_36 hw)) (mvT hZ20 (wd_35 hw)) (by decide) (backOf (W := 0) (rm_m6_29 l Z aZ hw [] a0 a20 jj0 h20 n0 (Nat.le_trans Z0 E20.1) ne30 gE20 zz2 f28 hP_1 f29 gC20) hZ20 (wd_37 hw) (wd_9 hw) (by decide) (by decide)) q31a q31c (by rw [hml]; rfl) [(.ref a20)] (lenOf pd_4 rfl) rfl (Nat.le_of_eq rfl) (d5_3 hby) (fun _ _ => ⟨rfl, e20, (by decide : 2 + 0 ≤ _), (by decide : 8 + 0 ≤ _)⟩) (pc' := 6) rfl ?_
 rintro _ _ ⟨T31, L31, k31, n31⟩ X31 ⟨Lc31, hQ31, l31, y31, z31⟩
 dsimp only [Pt.U, Pt.locs, Pt.cells, Pt.slots] at X31 l31 y31 z31 hQ31 ⊢
 subst l31 y31 z31
 obtain ⟨rfl, N31q, e31⟩ := hQ31
 have N33 := Fr.app N0 N31q
 show Runs _ _ _ _ (T31.setTop (mkF m 6 #[.val (.ref a0)] [(.int (0 : Int32))]))
 refine w_ifN X31 hx (d5_6 hby) (teq (by decide : (0 : Int32) = (0 : Int32))).2 (pc' := 9) rfl ?_
 refine w_aloadN X31 hx (d5_9 hby) rfl rfl (pc' := 10) rfl ?_
 obtain ⟨a34, T34, h34, k34, b34, c34, X34, e34, E34, hS34, hk34, hZ34, hown34, gE34, gC34, gV34, gA34, lt34, ltb34, A34, -, ns34, st34⟩ := ldcCH X31 hx hZ20 hown20 (wd_44 hw) (own_wS hw) e31 hS20 hk20 (own_EW hw) (by simp [EL]) C21.1 (vs := [(.int (46 : Int32)), (.int (46 : Int32))]) (z := (2 : Int32)) (by decide +kernel) (by decide) (by decide) (g := (mkF m 10 #[.val (.ref a0)] [(.ref a0)])) rfl (d5_10 hby) (n := 8) (by decide +kernel) (by decide) (by decide) (by decide)
 refine Runs.by ?_ st34
 have C35 : CHr Z EL s.vm h0 T34.vm h34 := C21.trans A34
 have K36 : Keep h0 h34 [] := K22.ext E34
 show Runs _ _ _ _ (T34.setTop (mkF m 12 #[.val (.ref a0)] [(.ref a34), (.ref a0)]))
 have f42 : Old Z n0 h34 := (f28.ext E34)
 have f43 : Fld Z h34 a0 kc0 "coder" "B" (.int (1 : Int32)) := (f29.ext E34)
 have ne44 : a0 ≠ a34 := (ns34 a0 (CHr.safe A34 (Nat.lt_of_lt_of_le zz1.lt E20.1) (CHr.safe A20 (Nat.lt_of_lt_of_le zz1.lt (Nat.le_refl _)) (hsf a0 (by simp))))).1
 have le45 : h0.size ≤ h34.size := (Nat.le_trans E20.1 E34.1)
 have f47 : Exa Z h34 a0 kc0 := (f32.ext E34)
 obtain ⟨cq46, kq46, q46a, q46b, q46c⟩ := isOf hZ34 e34 f47
 refine w_virtual X34 hx (y := yn_6) (z := yn_6) hown34 (mvT hZ34 (wd_33 hw)) (mvT hZ34 (wd_34 hw)) (notFace_of_selects (args := #[]) (mvT hZ34 (wd_36 hw))) (mvT hZ34 (wd_36 hw)) (mvT hZ34 (wd_35 hw)) (by decide) (backOf (W := 0) (rm_m6_29 l Z aZ hw [] a0 a34 jj0 h34 n0 (Nat.le_trans Z0 le45) ne44 gE34 zz2 f42 hP_1 f43 gC34) hZ34 (wd_37 hw) (wd_9 hw) (by decide) (by decide)) q46a q46c (by rw [hml]; rfl) [(.ref a34)] (lenOf pd_4 rfl) rfl (Nat.le_of_eq rfl) (d5_12 hby) (fun _ _ => ⟨rfl, e34, (by decide : 4 + 0 ≤ _), (by decide : 20 + 0 ≤ _)⟩) (pc' := 15) rfl ?_
 rintro _ _ ⟨T46, L46, k46, n46⟩ X46 ⟨Lc46, hQ46, l46, y46, z46⟩
 dsimp only [Pt.U, Pt.locs, Pt.cells, Pt.slots] at X46 l46 y46 z46 hQ46 ⊢
 subst l46 y46 z46
 obtain ⟨rfl, N46q, e46⟩ := hQ46
 have N48 := Fr.app N33 N46q
 show Runs _ _ _ _ (T46.setTop (mkF m 15 #[.val (.ref a0)] [(.int (0 : Int32))]))
 refine w_ifY X46 hx (d5_15 hby) (teq (by decide : (0 : Int32) = (0 : Int32))).1 (pc' := 22) (by decide) (by decide) ?_
 refine w_iconst X46 hx (d5_22 hby) (v := (0 : Int32)) rfl (pc' := 23) rfl ?_
 exact w_doneH X46 hlk (v := some (.int (0 : Int32))) e46 hh hZ34 (own_EW hw) hS34 hk34 C35 (fun h => by rw [hret] at h; cases h) (fun fs hr => retN X46 hx (t := .boolean) hret (by simp) (d5_23 hby) hr) (by decide) (by decide) (fun hsy => ⟨rfl, N48, K36⟩)
theorem ef_m9_33 (m : MethodId) (a0 : Addr) (a2 : Addr)  : entryFrame m #[(.ref a0), (.int (0 : Int32)), (.ref a2), (.int (0 : Int32)), (.int (2 : Int32))] 7 = mkF m 0 #[.val (.ref a0), .val (.int (0 : Int32)), .val (.ref a2), .val (.int (0 : Int32)), .val (.int (2 : Int32)), .unset, .unset] [] := by first | (simp [entryFrame, mkF, argsToLocals, Value.category]; done) | rfl
def Q_m9_33 (Z : State) (a0 : Addr) (a2 : Addr) (k_a0 : ClassId) (jj0 : Int32) (jj1 : Int32) (k_a2 : ClassId) (h0 : Heap) (n0 : Nat) (v : Option Value) (h : Heap) (L : List Loc) : Prop := (v = some (.int (2 : Int32)) ∧ Fr n0 L ∧ Keep h0 h [a2] ∧ Arv Z h a2 k_a2 .byte (2 : Int32) [(.int (jj0.toInt8.toInt32)), (.int (jj1.toInt8.toInt32))] (.int (0 : Int32)) ∧ ¬ ((255 : Int32) < jj0) ∧ ¬ ((255 : Int32) < jj1)) ∨ (∃ (j : Int32), v = some (.int j) ∧ Fr n0 L ∧ Keep h0 h [a2] ∧ ¬ (j < (0 : Int32)) ∧ j < (2 : Int32) ∧ (255 : Int32) < (gI [jj0, jj1, (0 : Int32), (0 : Int32)] j))
theorem rm_m9_33 (l : Launch) (Z : State) (aZ : Array Value) (hw : ∀ d ∈ tables_1, d.before aZ Z = true) (ws : List Jvm.Cond) (a0 : Addr) (a2 : Addr) (k_a0 : ClassId) (jj0 : Int32) (jj1 : Int32) (k_a2 : ClassId) (h0 : Heap) (n0 : Nat) (Z0 : n0 ≤ h0.size) (V_a0 : Arv Z h0 a0 k_a0 .char (2 : Int32) [(.int jj0), (.int jj1)] (.int (0 : Int32))) (V_a2 : Arv Z h0 a2 k_a2 .byte (2 : Int32) [(.int (0 : Int32)), (.int (0 : Int32))] (.int (0 : Int32))) (zz2 : n0 ≤ a2) (zz3 : a0 ≠ a2) :
    MetN l Z yn_9 jdk_52_method_21_code 7 (some .int) ws ({ frames := 0, cells := 0, slots := 0, locals := 0 } : Room) #[(.ref a0), (.int (0 : Int32)), (.ref a2), (.int (0 : Int32)), (.int (2 : Int32))] h0 (Q_m9_33 Z a0 a2 k_a0 jj0 jj1 k_a2 h0 n0) := by
 refine MetN.of (plainFor_of_name pn_4) ?_
 intro p e s m below meth c s₁ hret hx hby hml hown hnm hlk hZ X0 e0
 have N0 := Fr.nil n0
 rw [ef_m9_33 m a0 a2]
 refine w_iconst X0 hx (d9_0 hby) (v := (0 : Int32)) rfl (pc' := 1) rfl ?_
 refine w_istore X0 hx (d9_1 hby) (L' := #[.val (.ref a0), .val (.int (0 : Int32)), .val (.ref a2), .val (.int (0 : Int32)), .val (.int (2 : Int32)), .val (.int (0 : Int32)), .unset]) rfl (pc' := 3) rfl ?_
 refine w_iload X0 hx (d9_3 hby) rfl (pc' := 5) rfl ?_
 refine w_iload X0 hx (d9_5 hby) rfl (pc' := 7) rfl ?_
 refine w_icN X0 hx (d9_7 hby) (tlt (by decide : (0 : Int32) < (2 : Int32))).2.1 (pc' := 10) rfl ?_
 refine w_aloadN X0 hx (d9_10 hby) rfl rfl (pc' := 11) rfl ?_
 refine w_iloadN X0 hx (d9_11 hby) rfl (pc' := 12) rfl ?_
 obtain ⟨clu20, Aru20, qu20, Su20, Nu20, Hu20, Gu20⟩ := id V_a0
 have hinu20 := inb_of (j := (0 : Int32)) Su20 ⟨by decide, by decide⟩
 refine w_caload X0 hx hZ e0 Aru20 hinu20 (Hu20.at hinu20 rfl) (d9_12 hby) (pc' := 13) rfl ?_
 refine w_istore X0 hx (d9_13 hby) (L' := #[.val (.ref a0), .val (.int (0 : Int32)), .val (.ref a2), .val (.int (0 : Int32)), .val (.int (2 : Int32)), .val (.int (0 : Int32)), .val (.int jj0)]) rfl (pc' := 15) rfl ?_
 refine w_iload X0 hx (d9_15 hby) rfl (pc' := 17) rfl ?_
 refine w_sipush X0 hx (d9_17 hby) (v := (255 : Int32)) rfl (pc' := 20) rfl ?_
 by_cases hc21 : (255 : Int32) < jj0
 · refine w_icN X0 hx (d9_20 hby) (tlt hc21).2.2.2 (pc' := 23) rfl ?_
   refine w_iload X0 hx (d9_23 hby) rfl (pc' := 25) rfl ?_
   exact w_done X0 hlk (v := some (.int (0 : Int32))) e0 (fun h => by rw [hret] at h; cases h) (fun fs hr => retI X0 hx hret (d9_25 hby) hr) (by decide) (by decide) (Or.inr (⟨(0 : Int32), rfl, N0, (Keep.refl h0 [a2]), (by decide : ¬ ((0 : Int32) < (0 : Int32))), (by decide : (0 : Int32) < (2 : Int32)), (show (255 : Int32) < (gI [jj0, jj1, (0 : Int32), (0 : Int32)] (0 : Int32)) from hc21)⟩))
 · refine w_icY X0 hx (d9_20 hby) (flt hc21).2.2.2 (pc' := 26) (by decide) (by decide) ?_
   refine w_aloadN X0 hx (d9_26 hby) rfl rfl (pc' := 27) rfl ?_
   refine w_iloadN X0 hx (d9_27 hby) rfl (pc' := 28) rfl ?_
   refine w_iload X0 hx (d9_28 hby) rfl (pc' := 30) rfl ?_
   refine w_i2b X0 hx (d9_30 hby) (pc' := 31) rfl ?_
   obtain ⟨clu22, Aru22, qu22, Su22, Nu22, Hu22, Gu22⟩ := id V_a2
   have hinu22 := inb_of (j := (0 : Int32)) Su22 ⟨by decide, by decide⟩
   refine w_stB X0 hx hZ e0 Aru22 hinu22 (d9_31 hby) (pc' := 32) rfl ?_
   intro T23 h23 X23 e23 W23
   have V24 : Arv Z h23 a2 k_a2 .byte (2 : Int32) [(.int (nar .byte (jj0.toInt8.toInt32))), (.int (0 : Int32))] (.int (0 : Int32)) := Arv.set Aru22 qu22 Su22 Nu22 Hu22 Gu22 (fits_nar_byte _) W23 0 rfl (Nat.le_of_ble_eq_true rfl)
   have V25 : Arv Z h23 a2 k_a2 .byte (2 : Int32) [(.int (jj0.toInt8.toInt32)), (.int (0 : Int32))] (.int (0 : Int32)) := by rw [nar_b] at V24; exact V24
   have K26 : Keep h0 h23 [a2] := (Keep.refl h0 [a2]).wr W23 (Or.inl (by simp))
   have N27 := Fr.snoc X23 N0 zz2
   refine w_iinc X23 hx (d9_32 hby) (v := (1 : Int32)) rfl rfl (L' := #[.val (.ref a0), .val (.int ((0 : Int32) + (1 : Int32))), .val (.ref a2), .val (.int (0 : Int32)), .val (.int (2 : Int32)), .val (.int (0 : Int32)), .val (.int jj0)]) rfl (pc' := 35) rfl ?_
   rw [show ((0 : Int32) + (1 : Int32)) = (1 : Int32) from by decide]
   refine w_iinc X23 hx (d9_35 hby) (v := (1 : Int32)) rfl rfl (L' := #[.val (.ref a0), .val (.int (1 : Int32)), .val (.ref a2), .val (.int ((0 : Int32) + (1 : Int32))), .val (.int (2 : Int32)), .val (.int (0 : Int32)), .val (.int jj0)]) rfl (pc' := 38) rfl ?_
   rw [show ((0 : Int32) + (1 : Int32)) = (1 : Int32) from by decide]
   refine w_iinc X23 hx (d9_38 hby) (v := (1 : Int32)) rfl rfl (L' := #[.val (.ref a0), .val (.int (1 : Int32)), .val (.ref a2), .val (.int (1 : Int32)), .val (.int (2 : Int32)), .val (.int ((0 : Int32) + (1 : Int32))), .val (.int jj0)]) rfl (pc' := 41) rfl ?_
   rw [show ((0 : Int32) + (1 : Int32)) = (1 : Int32) from by decide]
   refine w_goto X23 hx (d9_41 hby) (pc' := 3) (by decide) (by decide) ?_
   refine w_iload X23 hx (d9_3 hby) rfl (pc' := 5) rfl ?_
   refine w_iload X23 hx (d9_5 hby) rfl (pc' := 7) rfl ?_
   refine w_icN X23 hx (d9_7 hby) (tlt (by decide : (1 : Int32) < (2 : Int32))).2.1 (pc' := 10) rfl ?_
   refine w_aloadN X23 hx (d9_10 hby) rfl rfl (pc' := 11) rfl ?_
   refine w_iloadN X23 hx (d9_11 hby) rfl (pc' := 12) rfl ?_
   have f28 : Arv Z h23 a0 k_a0 .char (2 : Int32) [(.int jj0), (.int jj1)] (.int (0 : Int32)) := (V_a0.other W23 zz3)
   obtain ⟨clu29, Aru29, qu29, Su29, Nu29, Hu29, Gu29⟩ := id f28
   have hinu29 := inb_of (j := (1 : Int32)) Su29 ⟨by decide, by decide⟩
   refine w_caload X23 hx hZ e23 Aru29 hinu29 (Hu29.at hinu29 rfl) (d9_12 hby) (pc' := 13) rfl ?_
   refine w_istore X23 hx (d9_13 hby) (L' := #[.val (.ref a0), .val (.int (1 : Int32)), .val (.ref a2), .val (.int (1 : Int32)), .val (.int (2 : Int32)), .val (.int (1 : Int32)), .val (.int jj1)]) rfl (pc' := 15) rfl ?_
   refine w_iload X23 hx (d9_15 hby) rfl (pc' := 17) rfl ?_
   refine w_sipush X23 hx (d9_17 hby) (v := (255 : Int32)) rfl (pc' := 20) rfl ?_
   by_cases hc30 : (255 : Int32) < jj1
   · refine w_icN X23 hx (d9_20 hby) (tlt hc30).2.2.2 (pc' := 23) rfl ?_
     refine w_iload X23 hx (d9_23 hby) rfl (pc' := 25) rfl ?_
     exact w_done X23 hlk (v := some (.int (1 : Int32))) e23 (fun h => by rw [hret] at h; cases h) (fun fs hr => retI X23 hx hret (d9_25 hby) hr) (by decide) (by decide) (Or.inr (⟨(1 : Int32), rfl, N27, K26, (by decide : ¬ ((1 : Int32) < (0 : Int32))), (by decide : (1 : Int32) < (2 : Int32)), (show (255 : Int32) < (gI [jj0, jj1, (0 : Int32), (0 : Int32)] (1 : Int32)) from hc30)⟩))
   · refine w_icY X23 hx (d9_20 hby) (flt hc30).2.2.2 (pc' := 26) (by decide) (by decide) ?_
     refine w_aloadN X23 hx (d9_26 hby) rfl rfl (pc' := 27) rfl ?_
     refine w_iloadN X23 hx (d9_27 hby) rfl (pc' := 28) rfl ?_
     refine w_iload X23 hx (d9_28 hby) rfl (pc' := 30) rfl ?_
     refine w_i2b X23 hx (d9_30 hby) (pc' := 31) rfl ?_
     obtain ⟨clu31, Aru31, qu31, Su31, Nu31, Hu31, Gu31⟩ := id V25
     have hinu31 := inb_of (j := (1 : Int32)) Su31 ⟨by decide, by decide⟩
     refine w_stB X23 hx hZ e23 Aru31 hinu31 (d9_31 hby) (pc' := 32) rfl ?_
     intro T32 h32 X32 e32 W32
     have V33 : Arv Z h32 a2 k_a2 .byte (2 : Int32) [(.int (jj0.toInt8.toInt32)), (.int (nar .byte (jj1.toInt8.toInt32)))] (.int (0 : Int32)) := Arv.set Aru31 qu31 Su31 Nu31 Hu31 Gu31 (fits_nar_byte _) W32 1 rfl (Nat.le_of_ble_eq_true rfl)
     have V34 : Arv Z h32 a2 k_a2 .byte (2 : Int32) [(.int (jj0.toInt8.toInt32)), (.int (jj1.toInt8.toInt32))] (.int (0 : Int32)) := by rw [nar_b] at V33; exact V33
     have K35 : Keep h0 h32 [a2] := K26.wr W32 (Or.inl (by simp))
     have N36 := Fr.snoc X32 N27 zz2
     refine w_iinc X32 hx (d9_32 hby) (v := (1 : Int32)) rfl rfl (L' := #[.val (.ref a0), .val (.int ((1 : Int32) + (1 : Int32))), .val (.ref a2), .val (.int (1 : Int32)), .val (.int (2 : Int32)), .val (.int (1 : Int32)), .val (.int jj1)]) rfl (pc' := 35) rfl ?_
     rw [show ((1 : Int32) + (1 : Int32)) = (2 : Int32) from by decide]
     refine w_iinc X32 hx (d9_35 hby) (v := (1 : Int32)) rfl rfl (L' := #[.val (.ref a0), .val (.int (2 : Int32)), .val (.ref a2), .val (.int ((1 : Int32) + (1 : Int32))), .val (.int (2 : Int32)), .val (.int (1 : Int32)), .val (.int jj1)]) rfl (pc' := 38) rfl ?_
     rw [show ((1 : Int32) + (1 : Int32)) = (2 : Int32) from by decide]
     refine w_iinc X32 hx (d9_38 hby) (v := (1 : Int32)) rfl rfl (L' := #[.val (.ref a0), .val (.int (2 : Int32)), .val (.ref a2), .val (.int (2 : Int32)), .val (.int (2 : Int32)), .val (.int ((1 : Int32) + (1 : Int32))), .val (.int jj1)]) rfl (pc' := 41) rfl ?_
     rw [show ((1 : Int32) + (1 : Int32)) = (2 : Int32) from by decide]
     refine w_goto X32 hx (d9_41 hby) (pc' := 3) (by decide) (by decide) ?_
     refine w_iload X32 hx (d9_3 hby) rfl (pc' := 5) rfl ?_
     refine w_iload X32 hx (d9_5 hby) rfl (pc' := 7) rfl ?_
     refine w_icY X32 hx (d9_7 hby) (flt (by decide : ¬ ((2 : Int32) < (2 : Int32)))).2.1 (pc' := 44) (by decide) (by decide) ?_
     refine w_iload X32 hx (d9_44 hby) rfl (pc' := 46) rfl ?_
     exact w_done X32 hlk (v := some (.int (2 : Int32))) e32 (fun h => by rw [hret] at h; cases h) (fun fs hr => retI X32 hx hret (d9_46 hby) hr) (by decide) (by decide) (Or.inl ⟨rfl, N36, K35, V34, hc21, hc30⟩)
theorem ef_m13_36 (m : MethodId)   : entryFrame m #[(.int (2 : Int32))] 1 = mkF m 0 #[.val (.int (2 : Int32))] [] := by first | (simp [entryFrame, mkF, argsToLocals, Value.category]; done) | rfl
def Q_m13_36 (Z : State)  (h0 : Heap) (n0 : Nat) (v : Option Value) (h : Heap) (L : List Loc) : Prop := v = some (.int (4 : Int32)) ∧ Fr n0 L ∧ h = h0
theorem rm_m13_36 (l : Launch) (Z : State) (aZ : Array Value) (hw : ∀ d ∈ tables_1, d.before aZ Z = true) (ws : List Jvm.Cond)  (h0 : Heap) (n0 : Nat) (Z0 : n0 ≤ h0.size) :
    MetN l Z yn_13 jdk_52_method_3_code 1 (some .int) ws ({ frames := 0, cells := 0, slots := 0, locals := 0 } : Room) #[(.int (2 : Int32))] h0 (Q_m13_36 Z  h0 n0) := by
 refine MetN.of (plainFor_of_name pn_4) ?_
 intro p e s m below meth c s₁ hret hx hby hml hown hnm hlk hZ X0 e0
 have N0 := Fr.nil n0
 rw [ef_m13_36 m ]
 refine w_iloadN X0 hx (d13_0 hby) rfl (pc' := 1) rfl ?_
 refine w_ifY X0 hx (d13_1 hby) (flt (by decide : ¬ ((2 : Int32) < (0 : Int32)))).2.1 (pc' := 12) (by decide) (by decide) ?_
 refine w_iloadN X0 hx (d13_12 hby) rfl (pc' := 13) rfl ?_
 refine w_ldcI X0 hx hZ hown (wd_64 hw) (d13_13 hby) (pc' := 15) rfl ?_
 refine w_icY X0 hx (d13_15 hby) (tlt (by decide : (2 : Int32) < (1073741823 : Int32))).1 (pc' := 55) (by decide) (by decide) ?_
 refine w_iloadN X0 hx (d13_55 hby) rfl (pc' := 56) rfl ?_
 refine w_iconst X0 hx (d13_56 hby) (v := (1 : Int32)) rfl (pc' := 57) rfl ?_
 refine w_ishl X0 hx (d13_57 hby) (pc' := 58) rfl ?_
 rw [show ((2 : Int32) <<< ((1 : Int32) &&& 31)) = (4 : Int32) from by decide]
 exact w_done X0 hlk (v := some (.int (4 : Int32))) e0 (fun h => by rw [hret] at h; cases h) (fun fs hr => retI X0 hx hret (d13_58 hby) hr) (by decide) (by decide) (⟨rfl, N0, rfl⟩)
theorem ef_m12_35 (m : MethodId)   : entryFrame m #[(.int (2 : Int32))] 1 = mkF m 0 #[.val (.int (2 : Int32))] [] := by first | (simp [entryFrame, mkF, argsToLocals, Value.category]; done) | rfl
def Q_m12_35 (Z : State)  (h0 : Heap) (n0 : Nat) (v : Option Value) (h : Heap) (L : List Loc) : Prop := ∃ (r0 : Addr) (c0 : ClassId), v = some (.ref r0) ∧ Fr n0 L ∧ Keep h0 h [] ∧ h0.size ≤ r0 ∧ Arv Z h r0 c0 .byte (4 : Int32) [(.int (0 : Int32)), (.int (0 : Int32)), (.int (0 : Int32)), (.int (0 : Int32))] (.int (0 : Int32))
theorem rm_m12_35 (l : Launch) (Z : State) (aZ : Array Value) (hw : ∀ d ∈ tables_1, d.before aZ Z = true) (ws : List Jvm.Cond)  (h0 : Heap) (n0 : Nat) (Z0 : n0 ≤ h0.size) :
    MetN l Z yn_12 jdk_52_method_2_code 1 (some (.array .byte)) ws ({ frames := 1, cells := 1, slots := 4, locals := 12 } : Room) #[(.int (2 : Int32))] h0 (Q_m12_35 Z  h0 n0) := by
 refine MetN.of (plainFor_of_name pn_4) ?_
 intro p e s m below meth c s₁ hret hx hby hml hown hnm hlk hZ X0 e0
 have N0 := Fr.nil n0
 rw [ef_m12_35 m ]
 refine w_iloadN X0 hx (d12_0 hby) rfl (pc' := 1) rfl ?_
 refine w_static X0 hx (y := yn_13) hown (mvT hZ (wd_61 hw)) (mvT hZ (wd_62 hw)) (mvT hZ (wd_47 hw)) (mvT hZ (wd_63 hw)) (by decide) (backOf (W := 0) (rm_m13_36 l Z aZ hw []  h0 n0 Z0 ) hZ (wd_63 hw) (wd_47 hw) (by decide) (by decide)) (by rw [hml]; rfl) [(.int (2 : Int32))] (lenOf pd_7 rfl) rfl (Nat.le_of_eq rfl) (d12_1 hby) (fun _ _ => ⟨rfl, e0, (by decide : 0 + 0 ≤ _), (by decide : 0 + 0 ≤ _)⟩) (pc' := 4) rfl ?_
 rintro _ _ ⟨T20, L20, k20, n20⟩ X20 ⟨Lc20, hQ20, l20, y20, z20⟩
 dsimp only [Pt.U, Pt.locs, Pt.cells, Pt.slots] at X20 l20 y20 z20 hQ20 ⊢
 subst l20 y20 z20
 obtain ⟨rfl, N20q, e20⟩ := hQ20
 have N21 := Fr.app N0 N20q
 show Runs _ _ _ _ (T20.setTop (mkF m 4 #[.val (.int (2 : Int32))] [(.int (4 : Int32))]))
 refine w_newP X20 hx .byte .byte 4 rfl hZ (wd_21 hw) e20 (d12_4 hby) (by decide) (by decide) (by decide) (by decide) (by decide) (pc' := 6) rfl ?_
 intro T22 h22 k22 b22 X22 e22 E22 g22 A22
 have ge23 : n0 ≤ b22 := Nat.le_trans Z0 (Nat.le_of_eq g22.symm)
 have sz24 : h0.size ≤ b22 := Nat.le_trans (Nat.le_refl _) (Nat.le_of_eq g22.symm)
 have K25 : Keep h0 h22 [] := (Keep.refl h0 []).ext E22
 have V26 : Arv Z h22 b22 k22 .byte (4 : Int32) [(.int (0 : Int32)), (.int (0 : Int32)), (.int (0 : Int32)), (.int (0 : Int32))] (.int (0 : Int32)) := (Arv.new A22 (by decide)).pad (pad_rep [] (.int (0 : Int32)) 4)
 exact w_done X22 hlk (v := some (.ref b22)) e22 (fun h => by rw [hret] at h; cases h) (fun fs hr => retOut X22 hx hret rfl (Or.inr (Or.inr (Or.inr (Or.inr ⟨rfl, rfl, rfl⟩)))) (d12_6 hby) hr) (by decide) (by decide) (⟨b22, k22, rfl, N21, K25, sz24, V26⟩)
theorem ef_m14_37 (m : MethodId) (a0 : Addr) (p2 : Int32)  : entryFrame m #[(.ref a0), (.int (0 : Int32)), (.int p2)] 3 = mkF m 0 #[.val (.ref a0), .val (.int (0 : Int32)), .val (.int p2)] [] := by first | (simp [entryFrame, mkF, argsToLocals, Value.category]; done) | rfl
def Q_m14_37 (Z : State) (a0 : Addr) (p2 : Int32) (k_a0 : ClassId) (h0 : Heap) (n0 : Nat) (v : Option Value) (h : Heap) (L : List Loc) : Prop := v = none ∧ Fr n0 L ∧ Keep h0 h [a0] ∧ Arv Z h a0 k_a0 .byte (4 : Int32) [(.int ((p2 >>> ((0 : Int32) &&& 31)).toInt8.toInt32)), (.int ((p2 >>> ((8 : Int32) &&& 31)).toInt8.toInt32)), (.int (0 : Int32)), (.int (0 : Int32))] (.int (0 : Int32))
theorem rm_m14_37 (l : Launch) (Z : State) (aZ : Array Value) (hw : ∀ d ∈ tables_1, d.before aZ Z = true) (ws : List Jvm.Cond) (a0 : Addr) (p2 : Int32) (k_a0 : ClassId) (h0 : Heap) (n0 : Nat) (Z0 : n0 ≤ h0.size) (zz0 : Sta Z Z.heap kc1 "$assertionsDisabled" "Z" (.int (1 : Int32))) (O0 : Old Z n0 h0) (zz1 : Sta Z Z.heap kc1 "HI_BYTE_SHIFT" "I" (.int (0 : Int32))) (V_a0 : Arv Z h0 a0 k_a0 .byte (4 : Int32) [(.int (0 : Int32)), (.int (0 : Int32)), (.int (0 : Int32)), (.int (0 : Int32))] (.int (0 : Int32))) (zz2 : n0 ≤ a0) (zz3 : Sta Z Z.heap kc1 "LO_BYTE_SHIFT" "I" (.int (8 : Int32))) :
    MetN l Z yn_14 jdk_52_method_4_code 3 none ws ({ frames := 0, cells := 0, slots := 0, locals := 0 } : Room) #[(.ref a0), (.int (0 : Int32)), (.int p2)] h0 (Q_m14_37 Z a0 p2 k_a0 h0 n0) := by
 refine MetN.of (plainFor_of_name pn_4) ?_
 intro p e s m below meth c s₁ hret hx hby hml hown hnm hlk hZ X0 e0
 have N0 := Fr.nil n0
 rw [ef_m14_37 m a0 p2]
 refine w_getS X0 hx "" hZ hown (Or.inl (wd_68 hw)) Via.refl e0 (zz0.ext O0.2) (d14_0 hby) (pc' := 3) rfl ?_
 intro T20 X20 e20
 refine w_ifY X20 hx (d14_3 hby) (feq (by decide : ¬ ((1 : Int32) = (0 : Int32)))).2 (pc' := 28) (by decide) (by decide) ?_
 refine w_iloadN X20 hx (d14_28 hby) rfl (pc' := 29) rfl ?_
 refine w_iconst X20 hx (d14_29 hby) (v := (1 : Int32)) rfl (pc' := 30) rfl ?_
 refine w_ishl X20 hx (d14_30 hby) (pc' := 31) rfl ?_
 rw [show ((0 : Int32) <<< ((1 : Int32) &&& 31)) = (0 : Int32) from by decide]
 refine w_istoreN X20 hx (d14_31 hby) (L' := #[.val (.ref a0), .val (.int (0 : Int32)), .val (.int p2)]) rfl (pc' := 32) rfl ?_
 refine w_aloadN X20 hx (d14_32 hby) rfl rfl (pc' := 33) rfl ?_
 refine w_iloadN X20 hx (d14_33 hby) rfl (pc' := 34) rfl ?_
 refine w_iinc X20 hx (d14_34 hby) (v := (1 : Int32)) rfl rfl (L' := #[.val (.ref a0), .val (.int ((0 : Int32) + (1 : Int32))), .val (.int p2)]) rfl (pc' := 37) rfl ?_
 rw [show ((0 : Int32) + (1 : Int32)) = (1 : Int32) from by decide]
 refine w_iloadN X20 hx (d14_37 hby) rfl (pc' := 38) rfl ?_
 refine w_getS X20 hx "" hZ hown (Or.inl (wd_69 hw)) Via.refl e20 (zz1.ext O0.2) (d14_38 hby) (pc' := 41) rfl ?_
 intro T21 X21 e21
 refine w_ishr X21 hx (d14_41 hby) (pc' := 42) rfl ?_
 refine w_i2b X21 hx (d14_42 hby) (pc' := 43) rfl ?_
 obtain ⟨clu22, Aru22, qu22, Su22, Nu22, Hu22, Gu22⟩ := id V_a0
 have hinu22 := inb_of (j := (0 : Int32)) Su22 ⟨by decide, by decide⟩
 refine w_stB X21 hx hZ e21 Aru22 hinu22 (d14_43 hby) (pc' := 44) rfl ?_
 intro T23 h23 X23 e23 W23
 have V24 : Arv Z h23 a0 k_a0 .byte (4 : Int32) [(.int (nar .byte ((p2 >>> ((0 : Int32) &&& 31)).toInt8.toInt32))), (.int (0 : Int32)), (.int (0 : Int32)), (.int (0 : Int32))] (.int (0 : Int32)) := Arv.set Aru22 qu22 Su22 Nu22 Hu22 Gu22 (fits_nar_byte _) W23 0 rfl (Nat.le_of_ble_eq_true rfl)
 have V25 : Arv Z h23 a0 k_a0 .byte (4 : Int32) [(.int ((p2 >>> ((0 : Int32) &&& 31)).toInt8.toInt32)), (.int (0 : Int32)), (.int (0 : Int32)), (.int (0 : Int32))] (.int (0 : Int32)) := by rw [nar_b] at V24; exact V24
 have K26 : Keep h0 h23 [a0] := (Keep.refl h0 [a0]).wr W23 (Or.inl (by simp))
 have N27 := Fr.snoc X23 N0 zz2
 refine w_aloadN X23 hx (d14_44 hby) rfl rfl (pc' := 45) rfl ?_
 refine w_iloadN X23 hx (d14_45 hby) rfl (pc' := 46) rfl ?_
 refine w_iloadN X23 hx (d14_46 hby) rfl (pc' := 47) rfl ?_
 have f28 : Old Z n0 h23 := (O0.wr W23 zz2)
 refine w_getS X23 hx "" hZ hown (Or.inl (wd_70 hw)) Via.refl e23 (zz3.ext f28.2) (d14_47 hby) (pc' := 50) rfl ?_
 intro T29 X29 e29
 refine w_ishr X29 hx (d14_50 hby) (pc' := 51) rfl ?_
 refine w_i2b X29 hx (d14_51 hby) (pc' := 52) rfl ?_
 obtain ⟨clu30, Aru30, qu30, Su30, Nu30, Hu30, Gu30⟩ := id V25
 have hinu30 := inb_of (j := (1 : Int32)) Su30 ⟨by decide, by decide⟩
 refine w_stB X29 hx hZ e29 Aru30 hinu30 (d14_52 hby) (pc' := 53) rfl ?_
 intro T31 h31 X31 e31 W31
 have V32 : Arv Z h31 a0 k_a0 .byte (4 : Int32) [(.int ((p2 >>> ((0 : Int32) &&& 31)).toInt8.toInt32)), (.int (nar .byte ((p2 >>> ((8 : Int32) &&& 31)).toInt8.toInt32))), (.int (0 : Int32)), (.int (0 : Int32))] (.int (0 : Int32)) := Arv.set Aru30 qu30 Su30 Nu30 Hu30 Gu30 (fits_nar_byte _) W31 1 rfl (Nat.le_of_ble_eq_true rfl)
 have V33 : Arv Z h31 a0 k_a0 .byte (4 : Int32) [(.int ((p2 >>> ((0 : Int32) &&& 31)).toInt8.toInt32)), (.int ((p2 >>> ((8 : Int32) &&& 31)).toInt8.toInt32)), (.int (0 : Int32)), (.int (0 : Int32))] (.int (0 : Int32)) := by rw [nar_b] at V32; exact V32
 have K34 : Keep h0 h31 [a0] := K26.wr W31 (Or.inl (by simp))
 have N35 := Fr.snoc X31 N27 zz2
 exact w_done X31 hlk (v := none) e31 (fun _ => rfl) (fun fs hr => X31.returnOut hx hret (d14_53 hby) hr) (by decide) (by decide) (⟨rfl, N35, K34, V33⟩)
theorem ef_m14_38 (m : MethodId) (a0 : Addr) (p2 : Int32)  : entryFrame m #[(.ref a0), (.int (1 : Int32)), (.int p2)] 3 = mkF m 0 #[.val (.ref a0), .val (.int (1 : Int32)), .val (.int p2)] [] := by first | (simp [entryFrame, mkF, argsToLocals, Value.category]; done) | rfl
def Q_m14_38 (Z : State) (a0 : Addr) (p2 : Int32) (k_a0 : ClassId) (jj0 : Int32) (jj1 : Int32) (h0 : Heap) (n0 : Nat) (v : Option Value) (h : Heap) (L : List Loc) : Prop := v = none ∧ Fr n0 L ∧ Keep h0 h [a0] ∧ Arv Z h a0 k_a0 .byte (4 : Int32) [(.int jj0), (.int jj1), (.int ((p2 >>> ((0 : Int32) &&& 31)).toInt8.toInt32)), (.int ((p2 >>> ((8 : Int32) &&& 31)).toInt8.toInt32))] (.int (0 : Int32))
theorem rm_m14_38 (l : Launch) (Z : State) (aZ : Array Value) (hw : ∀ d ∈ tables_1, d.before aZ Z = true) (ws : List Jvm.Cond) (a0 : Addr) (p2 : Int32) (k_a0 : ClassId) (jj0 : Int32) (jj1 : Int32) (h0 : Heap) (n0 : Nat) (Z0 : n0 ≤ h0.size) (zz2 : Sta Z Z.heap kc1 "$assertionsDisabled" "Z" (.int (1 : Int32))) (O0 : Old Z n0 h0) (zz3 : Sta Z Z.heap kc1 "HI_BYTE_SHIFT" "I" (.int (0 : Int32))) (V_a0 : Arv Z h0 a0 k_a0 .byte (4 : Int32) [(.int jj0), (.int jj1), (.int (0 : Int32)), (.int (0 : Int32))] (.int (0 : Int32))) (zz4 : n0 ≤ a0) (zz5 : Sta Z Z.heap kc1 "LO_BYTE_SHIFT" "I" (.int (8 : Int32))) :
    MetN l Z yn_14 jdk_52_method_4_code 3 none ws ({ frames := 0, cells := 0, slots := 0, locals := 0 } : Room) #[(.ref a0), (.int (1 : Int32)), (.int p2)] h0 (Q_m14_38 Z a0 p2 k_a0 jj0 jj1 h0 n0) := by
 refine MetN.of (plainFor_of_name pn_4) ?_
 intro p e s m below meth c s₁ hret hx hby hml hown hnm hlk hZ X0 e0
 have N0 := Fr.nil n0
 rw [ef_m14_38 m a0 p2]
 refine w_getS X0 hx "" hZ hown (Or.inl (wd_68 hw)) Via.refl e0 (zz2.ext O0.2) (d14_0 hby) (pc' := 3) rfl ?_
 intro T20 X20 e20
 refine w_ifY X20 hx (d14_3 hby) (feq (by decide : ¬ ((1 : Int32) = (0 : Int32)))).2 (pc' := 28) (by decide) (by decide) ?_
 refine w_iloadN X20 hx (d14_28 hby) rfl (pc' := 29) rfl ?_
 refine w_iconst X20 hx (d14_29 hby) (v := (1 : Int32)) rfl (pc' := 30) rfl ?_
 refine w_ishl X20 hx (d14_30 hby) (pc' := 31) rfl ?_
 rw [show ((1 : Int32) <<< ((1 : Int32) &&& 31)) = (2 : Int32) from by decide]
 refine w_istoreN X20 hx (d14_31 hby) (L' := #[.val (.ref a0), .val (.int (2 : Int32)), .val (.int p2)]) rfl (pc' := 32) rfl ?_
 refine w_aloadN X20 hx (d14_32 hby) rfl rfl (pc' := 33) rfl ?_
 refine w_iloadN X20 hx (d14_33 hby) rfl (pc' := 34) rfl ?_
 refine w_iinc X20 hx (d14_34 hby) (v := (1 : Int32)) rfl rfl (L' := #[.val (.ref a0), .val (.int ((2 : Int32) + (1 : Int32))), .val (.int p2)]) rfl (pc' := 37) rfl ?_
 rw [show ((2 : Int32) + (1 : Int32)) = (3 : Int32) from by decide]
 refine w_iloadN X20 hx (d14_37 hby) rfl (pc' := 38) rfl ?_
 refine w_getS X20 hx "" hZ hown (Or.inl (wd_69 hw)) Via.refl e20 (zz3.ext O0.2) (d14_38 hby) (pc' := 41) rfl ?_
 intro T21 X21 e21
 refine w_ishr X21 hx (d14_41 hby) (pc' := 42) rfl ?_
 refine w_i2b X21 hx (d14_42 hby) (pc' := 43) rfl ?_
 obtain ⟨clu22, Aru22, qu22, Su22, Nu22, Hu22, Gu22⟩ := id V_a0
 have hinu22 := inb_of (j := (2 : Int32)) Su22 ⟨by decide, by decide⟩
 refine w_stB X21 hx hZ e21 Aru22 hinu22 (d14_43 hby) (pc' := 44) rfl ?_
 intro T23 h23 X23 e23 W23
 have V24 : Arv Z h23 a0 k_a0 .byte (4 : Int32) [(.int jj0), (.int jj1), (.int (nar .byte ((p2 >>> ((0 : Int32) &&& 31)).toInt8.toInt32))), (.int (0 : Int32))] (.int (0 : Int32)) := Arv.set Aru22 qu22 Su22 Nu22 Hu22 Gu22 (fits_nar_byte _) W23 2 rfl (Nat.le_of_ble_eq_true rfl)
 have V25 : Arv Z h23 a0 k_a0 .byte (4 : Int32) [(.int jj0), (.int jj1), (.int ((p2 >>> ((0 : Int32) &&& 31)).toInt8.toInt32)), (.int (0 : Int32))] (.int (0 : Int32)) := by rw [nar_b] at V24; exact V24
 have K26 : Keep h0 h23 [a0] := (Keep.refl h0 [a0]).wr W23 (Or.inl (by simp))
 have N27 := Fr.snoc X23 N0 zz4
 refine w_aloadN X23 hx (d14_44 hby) rfl rfl (pc' := 45) rfl ?_
 refine w_iloadN X23 hx (d14_45 hby) rfl (pc' := 46) rfl ?_
 refine w_iloadN X23 hx (d14_46 hby) rfl (pc' := 47) rfl ?_
 have f28 : Old Z n0 h23 := (O0.wr W23 zz4)
 refine w_getS X23 hx "" hZ hown (Or.inl (wd_70 hw)) Via.refl e23 (zz5.ext f28.2) (d14_47 hby) (pc' := 50) rfl ?_
 intro T29 X29 e29
 refine w_ishr X29 hx (d14_50 hby) (pc' := 51) rfl ?_
 refine w_i2b X29 hx (d14_51 hby) (pc' := 52) rfl ?_
 obtain ⟨clu30, Aru30, qu30, Su30, Nu30, Hu30, Gu30⟩ := id V25
 have hinu30 := inb_of (j := (3 : Int32)) Su30 ⟨by decide, by decide⟩
 refine w_stB X29 hx hZ e29 Aru30 hinu30 (d14_52 hby) (pc' := 53) rfl ?_
 intro T31 h31 X31 e31 W31
 have V32 : Arv Z h31 a0 k_a0 .byte (4 : Int32) [(.int jj0), (.int jj1), (.int ((p2 >>> ((0 : Int32) &&& 31)).toInt8.toInt32)), (.int (nar .byte ((p2 >>> ((8 : Int32) &&& 31)).toInt8.toInt32)))] (.int (0 : Int32)) := Arv.set Aru30 qu30 Su30 Nu30 Hu30 Gu30 (fits_nar_byte _) W31 3 rfl (Nat.le_of_ble_eq_true rfl)
 have V33 : Arv Z h31 a0 k_a0 .byte (4 : Int32) [(.int jj0), (.int jj1), (.int ((p2 >>> ((0 : Int32) &&& 31)).toInt8.toInt32)), (.int ((p2 >>> ((8 : Int32) &&& 31)).toInt8.toInt32))] (.int (0 : Int32)) := by rw [nar_b] at V32; exact V32
 have K34 : Keep h0 h31 [a0] := K26.wr W31 (Or.inl (by simp))
 have N35 := Fr.snoc X31 N27 zz4
 exact w_done X31 hlk (v := none) e31 (fun _ => rfl) (fun fs hr => X31.returnOut hx hret (d14_53 hby) hr) (by decide) (by decide) (⟨rfl, N35, K34, V33⟩)
theorem ef_m11_34 (m : MethodId) (a0 : Addr)  : entryFrame m #[(.ref a0), (.int (0 : Int32)), (.int (2 : Int32))] 5 = mkF m 0 #[.val (.ref a0), .val (.int (0 : Int32)), .val (.int (2 : Int32)), .unset, .unset] [] := by first | (simp [entryFrame, mkF, argsToLocals, Value.category]; done) | rfl
def Q_m11_34 (Z : State) (a0 : Addr) (k_a0 : ClassId) (jj0 : Int32) (jj1 : Int32) (h0 : Heap) (n0 : Nat) (v : Option Value) (h : Heap) (L : List Loc) : Prop := ∃ (r0 : Addr) (c0 : ClassId), v = some (.ref r0) ∧ Fr n0 L ∧ Keep h0 h [] ∧ h0.size ≤ r0 ∧ Arv Z h r0 c0 .byte (4 : Int32) [(.int ((jj0 >>> ((0 : Int32) &&& 31)).toInt8.toInt32)), (.int ((jj0 >>> ((8 : Int32) &&& 31)).toInt8.toInt32)), (.int ((jj1 >>> ((0 : Int32) &&& 31)).toInt8.toInt32)), (.int ((jj1 >>> ((8 : Int32) &&& 31)).toInt8.toInt32))] (.int (0 : Int32))
theorem rm_m11_34 (l : Launch) (Z : State) (aZ : Array Value) (hw : ∀ d ∈ tables_1, d.before aZ Z = true) (ws : List Jvm.Cond) (a0 : Addr) (k_a0 : ClassId) (jj0 : Int32) (jj1 : Int32) (h0 : Heap) (n0 : Nat) (Z0 : n0 ≤ h0.size) (V_a0 : Arv Z h0 a0 k_a0 .char (2 : Int32) [(.int jj0), (.int jj1)] (.int (0 : Int32))) (zz2 : Sta Z Z.heap kc1 "$assertionsDisabled" "Z" (.int (1 : Int32))) (O0 : Old Z n0 h0) (zz3 : Sta Z Z.heap kc1 "HI_BYTE_SHIFT" "I" (.int (0 : Int32))) (zz4 : Sta Z Z.heap kc1 "LO_BYTE_SHIFT" "I" (.int (8 : Int32))) :
    MetN l Z yn_11 jdk_52_method_14_code 5 (some (.array .byte)) ws ({ frames := 2, cells := 1, slots := 4, locals := 24 } : Room) #[(.ref a0), (.int (0 : Int32)), (.int (2 : Int32))] h0 (Q_m11_34 Z a0 k_a0 jj0 jj1 h0 n0) := by
 refine MetN.of (plainFor_of_name pn_4) ?_
 intro p e s m below meth c s₁ hret hx hby hml hown hnm hlk hZ X0 e0
 have N0 := Fr.nil n0
 rw [ef_m11_34 m a0]
 refine w_iloadN X0 hx (d11_0 hby) rfl (pc' := 1) rfl ?_
 refine w_static X0 hx (y := yn_12) hown (mvT hZ (wd_58 hw)) (mvT hZ (wd_59 hw)) (mvT hZ (wd_47 hw)) (mvT hZ (wd_60 hw)) (by decide) (backOf (W := 0) (rm_m12_35 l Z aZ hw []  h0 n0 Z0 ) hZ (wd_60 hw) (wd_47 hw) (by decide) (by decide)) (by rw [hml]; rfl) [(.int (2 : Int32))] (lenOf pd_8 rfl) rfl (Nat.le_of_eq rfl) (d11_1 hby) (fun _ _ => ⟨rfl, e0, (by decide : 0 + 1 ≤ _), (by decide : 0 + 4 ≤ _)⟩) (pc' := 4) rfl ?_
 rintro _ _ ⟨T20, L20, k20, n20⟩ X20 ⟨Lc20, hQ20, l20, y20, z20⟩
 dsimp only [Pt.U, Pt.locs, Pt.cells, Pt.slots] at X20 l20 y20 z20 hQ20 ⊢
 subst l20 y20 z20
 obtain ⟨r0_20, c0_20, rfl, N20q, K20, g20_0, g20_1⟩ := hQ20
 have N21 := Fr.app N0 N20q
 have K22 : Keep h0 T20.heap [] := (Keep.refl h0 []).trans K20 (all0 (P := fun x => x ∈ [] ∨ h0.size ≤ x))
 have ge23 : n0 ≤ r0_20 := Nat.le_trans Z0 g20_0
 have sz24 : h0.size ≤ r0_20 := Nat.le_trans (Nat.le_refl _) g20_0
 show Runs _ _ _ _ (T20.setTop (mkF m 4 #[.val (.ref a0), .val (.int (0 : Int32)), .val (.int (2 : Int32)), .unset, .unset] [(.ref r0_20)]))
 refine w_astoreN X20 hx (d11_4 hby) rfl (L' := #[.val (.ref a0), .val (.int (0 : Int32)), .val (.int (2 : Int32)), .val (.ref r0_20), .unset]) rfl (pc' := 5) rfl ?_
 refine w_iconst X20 hx (d11_5 hby) (v := (0 : Int32)) rfl (pc' := 6) rfl ?_
 refine w_istore X20 hx (d11_6 hby) (L' := #[.val (.ref a0), .val (.int (0 : Int32)), .val (.int (2 : Int32)), .val (.ref r0_20), .val (.int (0 : Int32))]) rfl (pc' := 8) rfl ?_
 refine w_iload X20 hx (d11_8 hby) rfl (pc' := 10) rfl ?_
 refine w_iloadN X20 hx (d11_10 hby) rfl (pc' := 11) rfl ?_
 refine w_icN X20 hx (d11_11 hby) (tlt (by decide : (0 : Int32) < (2 : Int32))).2.1 (pc' := 14) rfl ?_
 refine w_aloadN X20 hx (d11_14 hby) rfl rfl (pc' := 15) rfl ?_
 refine w_iload X20 hx (d11_15 hby) rfl (pc' := 17) rfl ?_
 refine w_aloadN X20 hx (d11_17 hby) rfl rfl (pc' := 18) rfl ?_
 refine w_iloadN X20 hx (d11_18 hby) rfl (pc' := 19) rfl ?_
 have f25 : Arv Z T20.heap a0 k_a0 .char (2 : Int32) [(.int jj0), (.int jj1)] (.int (0 : Int32)) := (V_a0.keep K20 nin0)
 obtain ⟨clu26, Aru26, qu26, Su26, Nu26, Hu26, Gu26⟩ := id f25
 have hinu26 := inb_of (j := (0 : Int32)) Su26 ⟨by decide, by decide⟩
 refine w_caload X20 hx hZ rfl Aru26 hinu26 (Hu26.at hinu26 rfl) (d11_19 hby) (pc' := 20) rfl ?_
 have f28 : Old Z n0 T20.heap := (O0.keep K20 all0)
 refine w_static X20 hx (y := yn_14) hown (mvT hZ (wd_65 hw)) (mvT hZ (wd_66 hw)) (mvT hZ (wd_47 hw)) (mvT hZ (wd_67 hw)) (by decide) (backOf (W := 0) (rm_m14_37 l Z aZ hw [] r0_20 jj0 c0_20 T20.heap n0 (Nat.le_trans Z0 K20.1) zz2 f28 zz3 g20_1 ge23 zz4) hZ (wd_67 hw) (wd_47 hw) (by decide) (by decide)) (by rw [hml]; rfl) [(.ref r0_20), (.int (0 : Int32)), (.int jj0)] (lenOf pd_9 rfl) rfl (Nat.le_of_eq rfl) (d11_20 hby) (fun _ _ => ⟨rfl, rfl, (by decide : 1 + 0 ≤ _), (by decide : 4 + 0 ≤ _)⟩) (pc' := 23) rfl ?_
 rintro _ _ ⟨T29, L29, k29, n29⟩ X29 ⟨Lc29, hQ29, l29, y29, z29⟩
 dsimp only [Pt.U, Pt.locs, Pt.cells, Pt.slots] at X29 l29 y29 z29 hQ29 ⊢
 subst l29 y29 z29
 obtain ⟨rfl, N29q, K29, g29_0⟩ := hQ29
 have N30 := Fr.app N21 N29q
 have K31 : Keep h0 T29.heap [] := K22.trans K29 (allS (Or.inr sz24) (all0 (P := fun x => x ∈ [] ∨ h0.size ≤ x)))
 show Runs _ _ _ _ (T29.setTop (mkF m 23 #[.val (.ref a0), .val (.int (0 : Int32)), .val (.int (2 : Int32)), .val (.ref r0_20), .val (.int (0 : Int32))] []))
 refine w_iinc X29 hx (d11_23 hby) (v := (1 : Int32)) rfl rfl (L' := #[.val (.ref a0), .val (.int ((0 : Int32) + (1 : Int32))), .val (.int (2 : Int32)), .val (.ref r0_20), .val (.int (0 : Int32))]) rfl (pc' := 26) rfl ?_
 rw [show ((0 : Int32) + (1 : Int32)) = (1 : Int32) from by decide]
 refine w_iinc X29 hx (d11_26 hby) (v := (1 : Int32)) rfl rfl (L' := #[.val (.ref a0), .val (.int (1 : Int32)), .val (.int (2 : Int32)), .val (.ref r0_20), .val (.int ((0 : Int32) + (1 : Int32)))]) rfl (pc' := 29) rfl ?_
 rw [show ((0 : Int32) + (1 : Int32)) = (1 : Int32) from by decide]
 refine w_goto X29 hx (d11_29 hby) (pc' := 8) (by decide) (by decide) ?_
 refine w_iload X29 hx (d11_8 hby) rfl (pc' := 10) rfl ?_
 refine w_iloadN X29 hx (d11_10 hby) rfl (pc' := 11) rfl ?_
 refine w_icN X29 hx (d11_11 hby) (tlt (by decide : (1 : Int32) < (2 : Int32))).2.1 (pc' := 14) rfl ?_
 refine w_aloadN X29 hx (d11_14 hby) rfl rfl (pc' := 15) rfl ?_
 refine w_iload X29 hx (d11_15 hby) rfl (pc' := 17) rfl ?_
 refine w_aloadN X29 hx (d11_17 hby) rfl rfl (pc' := 18) rfl ?_
 refine w_iloadN X29 hx (d11_18 hby) rfl (pc' := 19) rfl ?_
 have ne32 : a0 ≠ r0_20 := (Nat.ne_of_lt (Nat.lt_of_lt_of_le V_a0.lt (Nat.le_trans (Nat.le_refl _) g20_0)))
 have f33 : Arv Z T29.heap a0 k_a0 .char (2 : Int32) [(.int jj0), (.int jj1)] (.int (0 : Int32)) := (f25.keep K29 (ninS ne32 nin0))
 obtain ⟨clu34, Aru34, qu34, Su34, Nu34, Hu34, Gu34⟩ := id f33
 have hinu34 := inb_of (j := (1 : Int32)) Su34 ⟨by decide, by decide⟩
 refine w_caload X29 hx hZ rfl Aru34 hinu34 (Hu34.at hinu34 rfl) (d11_19 hby) (pc' := 20) rfl ?_
 have f35 : Old Z n0 T29.heap := (f28.keep K29 (allS ge23 all0))
 have le36 : h0.size ≤ T29.heap.size := (Nat.le_trans K20.1 K29.1)
 refine w_static X29 hx (y := yn_14) hown (mvT hZ (wd_65 hw)) (mvT hZ (wd_66 hw)) (mvT hZ (wd_47 hw)) (mvT hZ (wd_67 hw)) (by decide) (backOf (W := 0) (rm_m14_38 l Z aZ hw [] r0_20 jj1 c0_20 ((jj0 >>> ((0 : Int32) &&& 31)).toInt8.toInt32) ((jj0 >>> ((8 : Int32) &&& 31)).toInt8.toInt32) T29.heap n0 (Nat.le_trans Z0 le36) zz2 f35 zz3 g29_0 ge23 zz4) hZ (wd_67 hw) (wd_47 hw) (by decide) (by decide)) (by rw [hml]; rfl) [(.ref r0_20), (.int (1 : Int32)), (.int jj1)] (lenOf pd_9 rfl) rfl (Nat.le_of_eq rfl) (d11_20 hby) (fun _ _ => ⟨rfl, rfl, (by decide : 1 + 0 ≤ _), (by decide : 4 + 0 ≤ _)⟩) (pc' := 23) rfl ?_
 rintro _ _ ⟨T37, L37, k37, n37⟩ X37 ⟨Lc37, hQ37, l37, y37, z37⟩
 dsimp only [Pt.U, Pt.locs, Pt.cells, Pt.slots] at X37 l37 y37 z37 hQ37 ⊢
 subst l37 y37 z37
 obtain ⟨rfl, N37q, K37, g37_0⟩ := hQ37
 have N38 := Fr.app N30 N37q
 have K39 : Keep h0 T37.heap [] := K31.trans K37 (allS (Or.inr sz24) (all0 (P := fun x => x ∈ [] ∨ h0.size ≤ x)))
 show Runs _ _ _ _ (T37.setTop (mkF m 23 #[.val (.ref a0), .val (.int (1 : Int32)), .val (.int (2 : Int32)), .val (.ref r0_20), .val (.int (1 : Int32))] []))
 refine w_iinc X37 hx (d11_23 hby) (v := (1 : Int32)) rfl rfl (L' := #[.val (.ref a0), .val (.int ((1 : Int32) + (1 : Int32))), .val (.int (2 : Int32)), .val (.ref r0_20), .val (.int (1 : Int32))]) rfl (pc' := 26) rfl ?_
 rw [show ((1 : Int32) + (1 : Int32)) = (2 : Int32) from by decide]
 refine w_iinc X37 hx (d11_26 hby) (v := (1 : Int32)) rfl rfl (L' := #[.val (.ref a0), .val (.int (2 : Int32)), .val (.int (2 : Int32)), .val (.ref r0_20), .val (.int ((1 : Int32) + (1 : Int32)))]) rfl (pc' := 29) rfl ?_
 rw [show ((1 : Int32) + (1 : Int32)) = (2 : Int32) from by decide]
 refine w_goto X37 hx (d11_29 hby) (pc' := 8) (by decide) (by decide) ?_
 refine w_iload X37 hx (d11_8 hby) rfl (pc' := 10) rfl ?_
 refine w_iloadN X37 hx (d11_10 hby) rfl (pc' := 11) rfl ?_
 refine w_icY X37 hx (d11_11 hby) (flt (by decide : ¬ ((2 : Int32) < (2 : Int32)))).2.1 (pc' := 32) (by decide) (by decide) ?_
 refine w_aloadN X37 hx (d11_32 hby) rfl rfl (pc' := 33) rfl ?_
 exact w_done X37 hlk (v := some (.ref r0_20)) rfl (fun h => by rw [hret] at h; cases h) (fun fs hr => retOut X37 hx hret rfl (Or.inr (Or.inr (Or.inr (Or.inr ⟨rfl, rfl, rfl⟩)))) (d11_33 hby) hr) (by decide) (by decide) (⟨r0_20, c0_20, rfl, N38, K39, sz24, g37_0⟩)
theorem ef_m15_39 (m : MethodId) (a0 : Addr) (p1 : Int32)  : entryFrame m #[(.ref a0), (.int p1)] 2 = mkF m 0 #[.val (.ref a0), .val (.int p1)] [] := by first | (simp [entryFrame, mkF, argsToLocals, Value.category]; done) | rfl
def Q_m15_39 (Z : State) (a0 : Addr) (p1 : Int32) (k_a0 : ClassId) (jj0 : Int32) (jj1 : Int32) (jj2 : Int32) (jj3 : Int32) (h0 : Heap) (n0 : Nat) (v : Option Value) (h : Heap) (L : List Loc) : Prop := v = some (.int (((((gI [jj0, jj1, jj2, jj3] (p1 <<< ((1 : Int32) &&& 31))) &&& (255 : Int32)) <<< ((0 : Int32) &&& 31)) ||| (((gI [jj0, jj1, jj2, jj3] ((p1 <<< ((1 : Int32) &&& 31)) + (1 : Int32))) &&& (255 : Int32)) <<< ((8 : Int32) &&& 31))).toUInt32.toUInt16.toUInt32.toInt32)) ∧ Fr n0 L ∧ h = h0
theorem rm_m15_39 (l : Launch) (Z : State) (aZ : Array Value) (hw : ∀ d ∈ tables_1, d.before aZ Z = true) (ws : List Jvm.Cond) (a0 : Addr) (p1 : Int32) (k_a0 : ClassId) (jj0 : Int32) (jj1 : Int32) (jj2 : Int32) (jj3 : Int32) (h0 : Heap) (n0 : Nat) (Z0 : n0 ≤ h0.size) (zz4 : Sta Z Z.heap kc1 "$assertionsDisabled" "Z" (.int (1 : Int32))) (O0 : Old Z n0 h0) (V_a0 : Arv Z h0 a0 k_a0 .byte (4 : Int32) [(.int jj0), (.int jj1), (.int jj2), (.int jj3)] (.int (0 : Int32))) (hP_3 : ¬ (p1 < (0 : Int32))) (hP_4 : p1 < (2 : Int32)) (zz5 : Sta Z Z.heap kc1 "HI_BYTE_SHIFT" "I" (.int (0 : Int32))) (zz6 : Sta Z Z.heap kc1 "LO_BYTE_SHIFT" "I" (.int (8 : Int32))) :
    MetN l Z yn_15 jdk_52_method_5_code 2 (some .char) ws ({ frames := 0, cells := 0, slots := 0, locals := 0 } : Room) #[(.ref a0), (.int p1)] h0 (Q_m15_39 Z a0 p1 k_a0 jj0 jj1 jj2 jj3 h0 n0) := by
 refine MetN.of (plainFor_of_name pn_4) ?_
 intro p e s m below meth c s₁ hret hx hby hml hown hnm hlk hZ X0 e0
 have N0 := Fr.nil n0
 rw [ef_m15_39 m a0 p1]
 refine w_getS X0 hx "" hZ hown (Or.inl (wd_68 hw)) Via.refl e0 (zz4.ext O0.2) (d15_0 hby) (pc' := 3) rfl ?_
 intro T20 X20 e20
 refine w_ifY X20 hx (d15_3 hby) (feq (by decide : ¬ ((1 : Int32) = (0 : Int32)))).2 (pc' := 28) (by decide) (by decide) ?_
 refine w_iloadN X20 hx (d15_28 hby) rfl (pc' := 29) rfl ?_
 refine w_iconst X20 hx (d15_29 hby) (v := (1 : Int32)) rfl (pc' := 30) rfl ?_
 refine w_ishl X20 hx (d15_30 hby) (pc' := 31) rfl ?_
 refine w_istoreN X20 hx (d15_31 hby) (L' := #[.val (.ref a0), .val (.int (p1 <<< ((1 : Int32) &&& 31)))]) rfl (pc' := 32) rfl ?_
 refine w_aloadN X20 hx (d15_32 hby) rfl rfl (pc' := 33) rfl ?_
 refine w_iloadN X20 hx (d15_33 hby) rfl (pc' := 34) rfl ?_
 refine w_iinc X20 hx (d15_34 hby) (v := (1 : Int32)) rfl rfl (L' := #[.val (.ref a0), .val (.int ((p1 <<< ((1 : Int32) &&& 31)) + (1 : Int32)))]) rfl (pc' := 37) rfl ?_
 obtain ⟨clu21, Aru21, qu21, Su21, Nu21, Hu21, Gu21⟩ := id V_a0
 have hinu21 := inb_of (j := (p1 <<< ((1 : Int32) &&& 31))) Su21 ⟨(own_shl_in (n := 2) (by decide) (by decide) hP_3 hP_4).1.1, (Eq.mp (congrArg (fun z => (p1 <<< ((1 : Int32) &&& 31)) < z) (by decide : (2 : Int32) <<< ((1 : Int32) &&& 31) = 4)) (own_shl_in (n := 2) (by decide) (by decide) hP_3 hP_4).1.2)⟩
 refine w_baload X20 hx hZ e20 Aru21 hinu21 (Hu21.at hinu21 (own_gI [jj0, jj1, jj2, jj3] (p1 <<< ((1 : Int32) &&& 31)))) (d15_37 hby) (pc' := 38) rfl ?_
 refine w_sipush X20 hx (d15_38 hby) (v := (255 : Int32)) rfl (pc' := 41) rfl ?_
 refine w_iand X20 hx (d15_41 hby) (pc' := 42) rfl ?_
 refine w_getS X20 hx "" hZ hown (Or.inl (wd_69 hw)) Via.refl e20 (zz5.ext O0.2) (d15_42 hby) (pc' := 45) rfl ?_
 intro T22 X22 e22
 refine w_ishl X22 hx (d15_45 hby) (pc' := 46) rfl ?_
 refine w_aloadN X22 hx (d15_46 hby) rfl rfl (pc' := 47) rfl ?_
 refine w_iloadN X22 hx (d15_47 hby) rfl (pc' := 48) rfl ?_
 obtain ⟨clu23, Aru23, qu23, Su23, Nu23, Hu23, Gu23⟩ := id V_a0
 have hinu23 := inb_of (j := ((p1 <<< ((1 : Int32) &&& 31)) + (1 : Int32))) Su23 ⟨(own_shl_in (n := 2) (by decide) (by decide) hP_3 hP_4).2.1, (Eq.mp (congrArg (fun z => ((p1 <<< ((1 : Int32) &&& 31)) + (1 : Int32)) < z) (by decide : (2 : Int32) <<< ((1 : Int32) &&& 31) = 4)) (own_shl_in (n := 2) (by decide) (by decide) hP_3 hP_4).2.2)⟩
 refine w_baload X22 hx hZ e22 Aru23 hinu23 (Hu23.at hinu23 (own_gI [jj0, jj1, jj2, jj3] ((p1 <<< ((1 : Int32) &&& 31)) + (1 : Int32)))) (d15_48 hby) (pc' := 49) rfl ?_
 refine w_sipush X22 hx (d15_49 hby) (v := (255 : Int32)) rfl (pc' := 52) rfl ?_
 refine w_iand X22 hx (d15_52 hby) (pc' := 53) rfl ?_
 refine w_getS X22 hx "" hZ hown (Or.inl (wd_70 hw)) Via.refl e22 (zz6.ext O0.2) (d15_53 hby) (pc' := 56) rfl ?_
 intro T24 X24 e24
 refine w_ishl X24 hx (d15_56 hby) (pc' := 57) rfl ?_
 refine w_ior X24 hx (d15_57 hby) (pc' := 58) rfl ?_
 refine w_i2c X24 hx (d15_58 hby) (pc' := 59) rfl ?_
 exact w_done X24 hlk (v := some (.int (((((gI [jj0, jj1, jj2, jj3] (p1 <<< ((1 : Int32) &&& 31))) &&& (255 : Int32)) <<< ((0 : Int32) &&& 31)) ||| (((gI [jj0, jj1, jj2, jj3] ((p1 <<< ((1 : Int32) &&& 31)) + (1 : Int32))) &&& (255 : Int32)) <<< ((8 : Int32) &&& 31))).toUInt32.toUInt16.toUInt32.toInt32))) e24 (fun h => by rw [hret] at h; cases h) (fun fs hr => retOut X24 hx hret (t := .char) (XT.narrow_c _) (Or.inl ⟨rfl, by simp, _, rfl⟩) (d15_59 hby) hr) (by decide) (by decide) (⟨rfl, N0, rfl⟩)
theorem ef_m8_32 (m : MethodId) (a0 : Addr)  : entryFrame m #[(.ref a0), (.int (0 : Int32)), (.int (2 : Int32))] 6 = mkF m 0 #[.val (.ref a0), .val (.int (0 : Int32)), .val (.int (2 : Int32)), .unset, .unset, .unset] [] := by first | (simp [entryFrame, mkF, argsToLocals, Value.category]; done) | rfl
def Q_m8_32 (Z : State) (a0 : Addr) (k_a0 : ClassId) (jj0 : Int32) (jj1 : Int32) (h0 : Heap) (n0 : Nat) (v : Option Value) (h : Heap) (L : List Loc) : Prop := (∃ (t : Addr) (kb : ClassId), v = some (.ref t) ∧ Fr n0 L ∧ Keep h0 h [] ∧ h0.size ≤ t ∧ Arv Z h t kb .byte (2 : Int32) [(.int (jj0.toInt8.toInt32)), (.int (jj1.toInt8.toInt32))] (.int (0 : Int32)) ∧ ¬ ((255 : Int32) < jj0) ∧ ¬ ((255 : Int32) < jj1)) ∨ (∃ (t : Addr) (kb : ClassId), v = some (.ref t) ∧ Fr n0 L ∧ Keep h0 h [] ∧ h0.size ≤ t ∧ Arv Z h t kb .byte (4 : Int32) [(.int ((jj0 >>> ((0 : Int32) &&& 31)).toInt8.toInt32)), (.int ((jj0 >>> ((8 : Int32) &&& 31)).toInt8.toInt32)), (.int ((jj1 >>> ((0 : Int32) &&& 31)).toInt8.toInt32)), (.int ((jj1 >>> ((8 : Int32) &&& 31)).toInt8.toInt32))] (.int (0 : Int32)) ∧ ((255 : Int32) < jj0 ∨ (255 : Int32) < jj1))
theorem rm_m8_32 (l : Launch) (Z : State) (aZ : Array Value) (hw : ∀ d ∈ tables_1, d.before aZ Z = true) (ws : List Jvm.Cond) (a0 : Addr) (k_a0 : ClassId) (jj0 : Int32) (jj1 : Int32) (h0 : Heap) (n0 : Nat) (Z0 : n0 ≤ h0.size) (V_a0 : Arv Z h0 a0 k_a0 .char (2 : Int32) [(.int jj0), (.int jj1)] (.int (0 : Int32))) (zz2 : Sta Z Z.heap kc1 "$assertionsDisabled" "Z" (.int (1 : Int32))) (O0 : Old Z n0 h0) (zz3 : Sta Z Z.heap kc1 "HI_BYTE_SHIFT" "I" (.int (0 : Int32))) (zz4 : Sta Z Z.heap kc1 "LO_BYTE_SHIFT" "I" (.int (8 : Int32))) (zz5 : nar .char jj0 = jj0) (zz6 : nar .char jj1 = jj1) :
    MetN l Z yn_8 jdk_52_method_16_code 6 (some (.array .byte)) ws ({ frames := 3, cells := 2, slots := 6, locals := 40 } : Room) #[(.ref a0), (.int (0 : Int32)), (.int (2 : Int32))] h0 (Q_m8_32 Z a0 k_a0 jj0 jj1 h0 n0) := by
 refine MetN.of (plainFor_of_name pn_4) ?_
 intro p e s m below meth c s₁ hret hx hby hml hown hnm hlk hZ X0 e0
 have N0 := Fr.nil n0
 rw [ef_m8_32 m a0]
 refine w_iloadN X0 hx (d8_0 hby) rfl (pc' := 1) rfl ?_
 refine w_newP X0 hx .byte .byte 2 rfl hZ (wd_21 hw) e0 (d8_1 hby) (by decide) (by decide) (by decide) (by decide) (by decide) (pc' := 3) rfl ?_
 intro T20 h20 k20 b20 X20 e20 E20 g20 A20
 have ge21 : n0 ≤ b20 := Nat.le_trans Z0 (Nat.le_of_eq g20.symm)
 have sz22 : h0.size ≤ b20 := Nat.le_trans (Nat.le_refl _) (Nat.le_of_eq g20.symm)
 have K23 : Keep h0 h20 [] := (Keep.refl h0 []).ext E20
 have V24 : Arv Z h20 b20 k20 .byte (2 : Int32) [(.int (0 : Int32)), (.int (0 : Int32))] (.int (0 : Int32)) := (Arv.new A20 (by decide)).pad (pad_rep [] (.int (0 : Int32)) 2)
 refine w_astoreN X20 hx (d8_3 hby) rfl (L' := #[.val (.ref a0), .val (.int (0 : Int32)), .val (.int (2 : Int32)), .val (.ref b20), .unset, .unset]) rfl (pc' := 4) rfl ?_
 refine w_aloadN X20 hx (d8_4 hby) rfl rfl (pc' := 5) rfl ?_
 refine w_iloadN X20 hx (d8_5 hby) rfl (pc' := 6) rfl ?_
 refine w_aloadN X20 hx (d8_6 hby) rfl rfl (pc' := 7) rfl ?_
 refine w_iconst X20 hx (d8_7 hby) (v := (0 : Int32)) rfl (pc' := 8) rfl ?_
 refine w_iloadN X20 hx (d8_8 hby) rfl (pc' := 9) rfl ?_
 have f25 : Arv Z h20 a0 k_a0 .char (2 : Int32) [(.int jj0), (.int jj1)] (.int (0 : Int32)) := (V_a0.ext E20)
 have ne26 : a0 ≠ b20 := (Nat.ne_of_lt (Nat.lt_of_lt_of_le V_a0.lt (Nat.le_trans (Nat.le_refl _) (Nat.le_of_eq g20.symm))))
 refine w_static X20 hx (y := yn_9) hown (mvT hZ (wd_49 hw)) (mvT hZ (wd_50 hw)) (mvT hZ (wd_47 hw)) (mvT hZ (wd_51 hw)) (by decide) (backOf (W := 0) (rm_m9_33 l Z aZ hw [] a0 b20 k_a0 jj0 jj1 k20 h20 n0 (Nat.le_trans Z0 E20.1) f25 V24 ge21 ne26) hZ (wd_51 hw) (wd_47 hw) (by decide) (by decide)) (by rw [hml]; rfl) [(.ref a0), (.int (0 : Int32)), (.ref b20), (.int (0 : Int32)), (.int (2 : Int32))] (lenOf pd_6 rfl) rfl (Nat.le_of_eq rfl) (d8_9 hby) (fun _ _ => ⟨rfl, e20, (by decide : 1 + 0 ≤ _), (by decide : 2 + 0 ≤ _)⟩) (pc' := 12) rfl ?_
 rintro _ _ ⟨T27, L27, k27, n27⟩ X27 ⟨Lc27, hQ27, l27, y27, z27⟩
 dsimp only [Pt.U, Pt.locs, Pt.cells, Pt.slots] at X27 l27 y27 z27 hQ27 ⊢
 subst l27 y27 z27
 rcases hQ27 with ⟨rfl, N27q, K27, g27_0, g27_1, g27_2⟩ | ⟨j_27, rfl, N27q, K27, g27_0, g27_1, g27_2⟩
 · have N28 := Fr.app N0 N27q
   have K29 : Keep h0 T27.heap [] := K23.trans K27 (allS (Or.inr sz22) (all0 (P := fun x => x ∈ [] ∨ h0.size ≤ x)))
   show Runs _ _ _ _ (T27.setTop (mkF m 12 #[.val (.ref a0), .val (.int (0 : Int32)), .val (.int (2 : Int32)), .val (.ref b20), .unset, .unset] [(.int (2 : Int32))]))
   refine w_istore X27 hx (d8_12 hby) (L' := #[.val (.ref a0), .val (.int (0 : Int32)), .val (.int (2 : Int32)), .val (.ref b20), .val (.int (2 : Int32)), .unset]) rfl (pc' := 14) rfl ?_
   refine w_iload X27 hx (d8_14 hby) rfl (pc' := 16) rfl ?_
   refine w_iloadN X27 hx (d8_16 hby) rfl (pc' := 17) rfl ?_
   refine w_icY X27 hx (d8_17 hby) (teq (by decide : (2 : Int32) = (2 : Int32))).1 (pc' := 57) (by decide) (by decide) ?_
   refine w_aloadN X27 hx (d8_57 hby) rfl rfl (pc' := 58) rfl ?_
   exact w_done X27 hlk (v := some (.ref b20)) rfl (fun h => by rw [hret] at h; cases h) (fun fs hr => retOut X27 hx hret rfl (Or.inr (Or.inr (Or.inr (Or.inr ⟨rfl, rfl, rfl⟩)))) (d8_58 hby) hr) (by decide) (by decide) (Or.inl ⟨b20, k20, rfl, N28, K29, sz22, g27_0, g27_1, g27_2⟩)
 · have N30 := Fr.app N0 N27q
   have K31 : Keep h0 T27.heap [] := K23.trans K27 (allS (Or.inr sz22) (all0 (P := fun x => x ∈ [] ∨ h0.size ≤ x)))
   show Runs _ _ _ _ (T27.setTop (mkF m 12 #[.val (.ref a0), .val (.int (0 : Int32)), .val (.int (2 : Int32)), .val (.ref b20), .unset, .unset] [(.int j_27)]))
   refine w_istore X27 hx (d8_12 hby) (L' := #[.val (.ref a0), .val (.int (0 : Int32)), .val (.int (2 : Int32)), .val (.ref b20), .val (.int j_27), .unset]) rfl (pc' := 14) rfl ?_
   refine w_iload X27 hx (d8_14 hby) rfl (pc' := 16) rfl ?_
   refine w_iloadN X27 hx (d8_16 hby) rfl (pc' := 17) rfl ?_
   refine w_icN X27 hx (d8_17 hby) (feq (fun q => by have h9 := g27_1; rw [q] at h9; exact absurd h9 (by decide))).1 (pc' := 20) rfl ?_
   refine w_aloadN X27 hx (d8_20 hby) rfl rfl (pc' := 21) rfl ?_
   refine w_iloadN X27 hx (d8_21 hby) rfl (pc' := 22) rfl ?_
   refine w_iloadN X27 hx (d8_22 hby) rfl (pc' := 23) rfl ?_
   have f32 : Arv Z T27.heap a0 k_a0 .char (2 : Int32) [(.int jj0), (.int jj1)] (.int (0 : Int32)) := (f25.keep K27 (ninS ne26 nin0))
   have f33 : Old Z n0 T27.heap := ((O0.ext E20).keep K27 (allS ge21 all0))
   have le34 : h0.size ≤ T27.heap.size := (Nat.le_trans E20.1 K27.1)
   refine w_static X27 hx (y := yn_11) hown (mvT hZ (wd_55 hw)) (mvT hZ (wd_56 hw)) (mvT hZ (wd_47 hw)) (mvT hZ (wd_57 hw)) (by decide) (backOf (W := 0) (rm_m11_34 l Z aZ hw [] a0 k_a0 jj0 jj1 T27.heap n0 (Nat.le_trans Z0 le34) f32 zz2 f33 zz3 zz4) hZ (wd_57 hw) (wd_47 hw) (by decide) (by decide)) (by rw [hml]; rfl) [(.ref a0), (.int (0 : Int32)), (.int (2 : Int32))] (lenOf pd_10 rfl) rfl (Nat.le_of_eq rfl) (d8_23 hby) (fun _ _ => ⟨rfl, rfl, (by decide : 1 + 1 ≤ _), (by decide : 2 + 4 ≤ _)⟩) (pc' := 26) rfl ?_
   rintro _ _ ⟨T35, L35, k35, n35⟩ X35 ⟨Lc35, hQ35, l35, y35, z35⟩
   dsimp only [Pt.U, Pt.locs, Pt.cells, Pt.slots] at X35 l35 y35 z35 hQ35 ⊢
   subst l35 y35 z35
   obtain ⟨r0_35, c0_35, rfl, N35q, K35, g35_0, g35_1⟩ := hQ35
   have N36 := Fr.app N30 N35q
   have K37 : Keep h0 T35.heap [] := K31.trans K35 (all0 (P := fun x => x ∈ [] ∨ h0.size ≤ x))
   have ge38 : n0 ≤ r0_35 := Nat.le_trans (Nat.le_trans Z0 le34) g35_0
   have sz39 : h0.size ≤ r0_35 := Nat.le_trans le34 g35_0
   show Runs _ _ _ _ (T35.setTop (mkF m 26 #[.val (.ref a0), .val (.int (0 : Int32)), .val (.int (2 : Int32)), .val (.ref b20), .val (.int j_27), .unset] [(.ref r0_35)]))
   refine w_astore X35 hx (d8_26 hby) rfl (L' := #[.val (.ref a0), .val (.int (0 : Int32)), .val (.int (2 : Int32)), .val (.ref b20), .val (.int j_27), .val (.ref r0_35)]) rfl (pc' := 28) rfl ?_
   refine w_aload X35 hx (d8_28 hby) rfl rfl (pc' := 30) rfl ?_
   refine w_iload X35 hx (d8_30 hby) rfl (pc' := 32) rfl ?_
   have f41 : Old Z n0 T35.heap := (f33.keep K35 all0)
   have le42 : h0.size ≤ T35.heap.size := (Nat.le_trans le34 K35.1)
   refine w_static X35 hx (y := yn_15) hown (mvT hZ (wd_71 hw)) (mvT hZ (wd_72 hw)) (mvT hZ (wd_47 hw)) (mvT hZ (wd_73 hw)) (by decide) (backOf (W := 0) (rm_m15_39 l Z aZ hw [] r0_35 j_27 c0_35 ((jj0 >>> ((0 : Int32) &&& 31)).toInt8.toInt32) ((jj0 >>> ((8 : Int32) &&& 31)).toInt8.toInt32) ((jj1 >>> ((0 : Int32) &&& 31)).toInt8.toInt32) ((jj1 >>> ((8 : Int32) &&& 31)).toInt8.toInt32) T35.heap n0 (Nat.le_trans Z0 le42) zz2 f41 g35_1 g27_0 g27_1 zz3 zz4) hZ (wd_73 hw) (wd_47 hw) (by decide) (by decide)) (by rw [hml]; rfl) [(.ref r0_35), (.int j_27)] (lenOf pd_11 rfl) rfl (Nat.le_of_eq rfl) (d8_32 hby) (fun _ _ => ⟨rfl, rfl, (by decide : 2 + 0 ≤ _), (by decide : 6 + 0 ≤ _)⟩) (pc' := 35) rfl ?_
   rintro _ _ ⟨T43, L43, k43, n43⟩ X43 ⟨Lc43, hQ43, l43, y43, z43⟩
   dsimp only [Pt.U, Pt.locs, Pt.cells, Pt.slots] at X43 l43 y43 z43 hQ43 ⊢
   subst l43 y43 z43
   obtain ⟨rfl, N43q, e43⟩ := hQ43
   have N44 := Fr.app N36 N43q
   show Runs _ _ _ _ (T43.setTop (mkF m 35 #[.val (.ref a0), .val (.int (0 : Int32)), .val (.int (2 : Int32)), .val (.ref b20), .val (.int j_27), .val (.ref r0_35)] [(.int (((((gI [((jj0 >>> ((0 : Int32) &&& 31)).toInt8.toInt32), ((jj0 >>> ((8 : Int32) &&& 31)).toInt8.toInt32), ((jj1 >>> ((0 : Int32) &&& 31)).toInt8.toInt32), ((jj1 >>> ((8 : Int32) &&& 31)).toInt8.toInt32)] (j_27 <<< ((1 : Int32) &&& 31))) &&& (255 : Int32)) <<< ((0 : Int32) &&& 31)) ||| (((gI [((jj0 >>> ((0 : Int32) &&& 31)).toInt8.toInt32), ((jj0 >>> ((8 : Int32) &&& 31)).toInt8.toInt32), ((jj1 >>> ((0 : Int32) &&& 31)).toInt8.toInt32), ((jj1 >>> ((8 : Int32) &&& 31)).toInt8.toInt32)] ((j_27 <<< ((1 : Int32) &&& 31)) + (1 : Int32))) &&& (255 : Int32)) <<< ((8 : Int32) &&& 31))).toUInt32.toUInt16.toUInt32.toInt32))]))
   refine w_sipush X43 hx (d8_35 hby) (v := (255 : Int32)) rfl (pc' := 38) rfl ?_
   refine w_icY X43 hx (d8_38 hby) (tlt (show (255 : Int32) < (((((gI [((jj0 >>> ((0 : Int32) &&& 31)).toInt8.toInt32), ((jj0 >>> ((8 : Int32) &&& 31)).toInt8.toInt32), ((jj1 >>> ((0 : Int32) &&& 31)).toInt8.toInt32), ((jj1 >>> ((8 : Int32) &&& 31)).toInt8.toInt32)] (j_27 <<< ((1 : Int32) &&& 31))) &&& (255 : Int32)) <<< ((0 : Int32) &&& 31)) ||| (((gI [((jj0 >>> ((0 : Int32) &&& 31)).toInt8.toInt32), ((jj0 >>> ((8 : Int32) &&& 31)).toInt8.toInt32), ((jj1 >>> ((0 : Int32) &&& 31)).toInt8.toInt32), ((jj1 >>> ((8 : Int32) &&& 31)).toInt8.toInt32)] ((j_27 <<< ((1 : Int32) &&& 31)) + (1 : Int32))) &&& (255 : Int32)) <<< ((8 : Int32) &&& 31))).toUInt32.toUInt16.toUInt32.toInt32) from by rw [own_uj2 g27_0 g27_1 zz5 zz6]; exact g27_2)).2.2.1 (pc' := 54) (by decide) (by decide) ?_
   refine w_aload X43 hx (d8_54 hby) rfl rfl (pc' := 56) rfl ?_
   exact w_done X43 hlk (v := some (.ref r0_35)) e43 (fun h => by rw [hret] at h; cases h) (fun fs hr => retOut X43 hx hret rfl (Or.inr (Or.inr (Or.inr (Or.inr ⟨rfl, rfl, rfl⟩)))) (d8_56 hby) hr) (by decide) (by decide) (Or.inr (⟨r0_35, c0_35, rfl, N44, K37, sz39, g35_1, (own_or2 g27_0 g27_1 g27_2)⟩))
theorem ef_m10_40 (m : MethodId) (a0 : Addr)  : entryFrame m #[(.ref a0), (.int (2 : Int32))] 2 = mkF m 0 #[.val (.ref a0), .val (.int (2 : Int32))] [] := by first | (simp [entryFrame, mkF, argsToLocals, Value.category]; done) | rfl
def Q_m10_40 (Z : State) (a0 : Addr) (k_a0 : ClassId) (jj0 : Int32) (jj1 : Int32) (h0 : Heap) (n0 : Nat) (v : Option Value) (h : Heap) (L : List Loc) : Prop := v = some (.int (0 : Int32)) ∧ Fr n0 L ∧ h = h0
theorem rm_m10_40 (l : Launch) (Z : State) (aZ : Array Value) (hw : ∀ d ∈ tables_1, d.before aZ Z = true) (ws : List Jvm.Cond) (a0 : Addr) (k_a0 : ClassId) (jj0 : Int32) (jj1 : Int32) (h0 : Heap) (n0 : Nat) (Z0 : n0 ≤ h0.size) (V_a0 : Arv Z h0 a0 k_a0 .byte (2 : Int32) [(.int jj0), (.int jj1)] (.int (0 : Int32))) :
    MetN l Z yn_10 jdk_52_method_15_code 2 (some .byte) ws ({ frames := 0, cells := 0, slots := 0, locals := 0 } : Room) #[(.ref a0), (.int (2 : Int32))] h0 (Q_m10_40 Z a0 k_a0 jj0 jj1 h0 n0) := by
 refine MetN.of (plainFor_of_name pn_4) ?_
 intro p e s m below meth c s₁ hret hx hby hml hown hnm hlk hZ X0 e0
 have N0 := Fr.nil n0
 rw [ef_m10_40 m a0]
 refine w_iloadN X0 hx (d10_0 hby) rfl (pc' := 1) rfl ?_
 refine w_aloadN X0 hx (d10_1 hby) rfl rfl (pc' := 2) rfl ?_
 refine w_alen X0 hx hZ e0 V_a0 (d10_2 hby) (pc' := 3) rfl ?_
 refine w_isub X0 hx (d10_3 hby) (pc' := 4) rfl ?_
 rw [show ((2 : Int32) - (2 : Int32)) = (0 : Int32) from by decide]
 refine w_bipush X0 hx (d10_4 hby) (v := (31 : Int32)) rfl (pc' := 6) rfl ?_
 refine w_iushr X0 hx (d10_6 hby) (pc' := 7) rfl ?_
 rw [show (((0 : Int32).toUInt32 >>> ((31 : Int32) &&& 31).toUInt32).toInt32) = (0 : Int32) from by decide]
 refine w_i2b X0 hx (d10_7 hby) (pc' := 8) rfl ?_
 rw [show ((0 : Int32).toInt8.toInt32) = (0 : Int32) from by decide]
 exact w_done X0 hlk (v := some (.int (0 : Int32))) e0 (fun h => by rw [hret] at h; cases h) (fun fs hr => retN X0 hx (t := .byte) hret (by simp) (d10_8 hby) hr) (by decide) (by decide) (⟨rfl, N0, rfl⟩)
theorem ef_m10_41 (m : MethodId) (a0 : Addr)  : entryFrame m #[(.ref a0), (.int (2 : Int32))] 2 = mkF m 0 #[.val (.ref a0), .val (.int (2 : Int32))] [] := by first | (simp [entryFrame, mkF, argsToLocals, Value.category]; done) | rfl
def Q_m10_41 (Z : State) (a0 : Addr) (k_a0 : ClassId) (jj0 : Int32) (jj1 : Int32) (jj2 : Int32) (jj3 : Int32) (h0 : Heap) (n0 : Nat) (v : Option Value) (h : Heap) (L : List Loc) : Prop := v = some (.int (1 : Int32)) ∧ Fr n0 L ∧ h = h0
theorem rm_m10_41 (l : Launch) (Z : State) (aZ : Array Value) (hw : ∀ d ∈ tables_1, d.before aZ Z = true) (ws : List Jvm.Cond) (a0 : Addr) (k_a0 : ClassId) (jj0 : Int32) (jj1 : Int32) (jj2 : Int32) (jj3 : Int32) (h0 : Heap) (n0 : Nat) (Z0 : n0 ≤ h0.size) (V_a0 : Arv Z h0 a0 k_a0 .byte (4 : Int32) [(.int jj0), (.int jj1), (.int jj2), (.int jj3)] (.int (0 : Int32))) :
    MetN l Z yn_10 jdk_52_method_15_code 2 (some .byte) ws ({ frames := 0, cells := 0, slots := 0, locals := 0 } : Room) #[(.ref a0), (.int (2 : Int32))] h0 (Q_m10_41 Z a0 k_a0 jj0 jj1 jj2 jj3 h0 n0) := by
 refine MetN.of (plainFor_of_name pn_4) ?_
 intro p e s m below meth c s₁ hret hx hby hml hown hnm hlk hZ X0 e0
 have N0 := Fr.nil n0
 rw [ef_m10_41 m a0]
 refine w_iloadN X0 hx (d10_0 hby) rfl (pc' := 1) rfl ?_
 refine w_aloadN X0 hx (d10_1 hby) rfl rfl (pc' := 2) rfl ?_
 refine w_alen X0 hx hZ e0 V_a0 (d10_2 hby) (pc' := 3) rfl ?_
 refine w_isub X0 hx (d10_3 hby) (pc' := 4) rfl ?_
 rw [show ((2 : Int32) - (4 : Int32)) = (-2 : Int32) from by decide]
 refine w_bipush X0 hx (d10_4 hby) (v := (31 : Int32)) rfl (pc' := 6) rfl ?_
 refine w_iushr X0 hx (d10_6 hby) (pc' := 7) rfl ?_
 rw [show (((-2 : Int32).toUInt32 >>> ((31 : Int32) &&& 31).toUInt32).toInt32) = (1 : Int32) from by decide]
 refine w_i2b X0 hx (d10_7 hby) (pc' := 8) rfl ?_
 rw [show ((1 : Int32).toInt8.toInt32) = (1 : Int32) from by decide]
 exact w_done X0 hlk (v := some (.int (1 : Int32))) e0 (fun h => by rw [hret] at h; cases h) (fun fs hr => retN X0 hx (t := .byte) hret (by simp) (d10_8 hby) hr) (by decide) (by decide) (⟨rfl, N0, rfl⟩)
theorem ef_m3_31 (m : MethodId) (a0 : Addr) (a1 : Addr)  : entryFrame m #[(.ref a0), (.ref a1), (.int (0 : Int32)), (.int (2 : Int32)), .null] 6 = mkF m 0 #[.val (.ref a0), .val (.ref a1), .val (.int (0 : Int32)), .val (.int (2 : Int32)), .val .null, .unset] [] := by first | (simp [entryFrame, mkF, argsToLocals, Value.category]; done) | rfl
def Q_m3_31 (Z : State) (a0 : Addr) (a1 : Addr) (jj0 : Int32) (k_a1 : ClassId) (jj1 : Int32) (jj2 : Int32) (h0 : Heap) (n0 : Nat) (v : Option Value) (h : Heap) (L : List Loc) : Prop := (∃ (t : Addr) (kb : ClassId), v = none ∧ Fr n0 L ∧ Keep h0 h [a0] ∧ Exa Z h a0 kc0 ∧ Fld Z h a0 kc0 "coder" "B" (.int (0 : Int32)) ∧ Fld Z h a0 kc0 "value" "[B" (.ref t) ∧ h0.size ≤ t ∧ Arv Z h t kb .byte (2 : Int32) [(.int (jj1.toInt8.toInt32)), (.int (jj2.toInt8.toInt32))] (.int (0 : Int32)) ∧ ¬ ((255 : Int32) < jj1) ∧ ¬ ((255 : Int32) < jj2)) ∨ (∃ (t : Addr) (kb : ClassId), v = none ∧ Fr n0 L ∧ Keep h0 h [a0] ∧ Exa Z h a0 kc0 ∧ Fld Z h a0 kc0 "coder" "B" (.int (1 : Int32)) ∧ Fld Z h a0 kc0 "value" "[B" (.ref t) ∧ h0.size ≤ t ∧ Arv Z h t kb .byte (4 : Int32) [(.int ((jj1 >>> ((0 : Int32) &&& 31)).toInt8.toInt32)), (.int ((jj1 >>> ((8 : Int32) &&& 31)).toInt8.toInt32)), (.int ((jj2 >>> ((0 : Int32) &&& 31)).toInt8.toInt32)), (.int ((jj2 >>> ((8 : Int32) &&& 31)).toInt8.toInt32))] (.int (0 : Int32)) ∧ ((255 : Int32) < jj1 ∨ (255 : Int32) < jj2))
theorem rm_m3_31 (l : Launch) (Z : State) (aZ : Array Value) (hw : ∀ d ∈ tables_1, d.before aZ Z = true) (ws : List Jvm.Cond) (a0 : Addr) (a1 : Addr) (jj0 : Int32) (k_a1 : ClassId) (jj1 : Int32) (jj2 : Int32) (h0 : Heap) (n0 : Nat) (Z0 : n0 ≤ h0.size) (zz3 : Sta Z Z.heap kc0 "COMPACT_STRINGS" "Z" (.int jj0)) (O0 : Old Z n0 h0) (hP_2 : ¬ (jj0 = (0 : Int32))) (V_a1 : Arv Z h0 a1 k_a1 .char (2 : Int32) [(.int jj1), (.int jj2)] (.int (0 : Int32))) (zz4 : nar .char jj1 = jj1) (zz5 : nar .char jj2 = jj2) (zz6 : Sta Z Z.heap kc1 "$assertionsDisabled" "Z" (.int (1 : Int32))) (zz7 : Sta Z Z.heap kc1 "HI_BYTE_SHIFT" "I" (.int (0 : Int32))) (zz8 : Sta Z Z.heap kc1 "LO_BYTE_SHIFT" "I" (.int (8 : Int32))) (E_a0 : Exa Z h0 a0 kc0) (zz9 : Fld Z h0 a0 kc0 "coder" "B" (.int (0 : Int32))) (zz10 : n0 ≤ a0) (zz11 : Fld Z h0 a0 kc0 "value" "[B" .null) :
    MetN l Z yn_3 jdk_42_method_149_code 6 none ws ({ frames := 4, cells := 2, slots := 6, locals := 57 } : Room) #[(.ref a0), (.ref a1), (.int (0 : Int32)), (.int (2 : Int32)), .null] h0 (Q_m3_31 Z a0 a1 jj0 k_a1 jj1 jj2 h0 n0) := by
 refine MetN.of (plainFor_of_name pn_1) ?_
 intro p e s m below meth c s₁ hret hx hby hml hown hnm hlk hZ X0 e0
 have N0 := Fr.nil n0
 rw [ef_m3_31 m a0 a1]
 refine w_aloadN X0 hx (d3_0 hby) rfl rfl (pc' := 1) rfl ?_
 refine w_initO X0 hx 0 hZ hown (wd_17 hw) (wd_18 hw) (wd_19 hw) e0 (by rw [hml]; rfl) (d3_1 hby) (by decide) (Nat.le_of_eq rfl) (by decide) (pc' := 4) rfl ?_
 intro T20 X20 e20
 refine w_iloadN X20 hx (d3_4 hby) rfl (pc' := 5) rfl ?_
 refine w_ifY X20 hx (d3_5 hby) (feq (by decide : ¬ ((2 : Int32) = (0 : Int32)))).2 (pc' := 27) (by decide) (by decide) ?_
 refine w_getS X20 hx "" hZ hown (Or.inl (wd_39 hw)) Via.refl e20 (zz3.ext O0.2) (d3_27 hby) (pc' := 30) rfl ?_
 intro T21 X21 e21
 refine w_ifN X21 hx (d3_30 hby) (feq hP_2).1 (pc' := 33) rfl ?_
 refine w_aloadN X21 hx (d3_33 hby) rfl rfl (pc' := 34) rfl ?_
 refine w_iloadN X21 hx (d3_34 hby) rfl (pc' := 35) rfl ?_
 refine w_iloadN X21 hx (d3_35 hby) rfl (pc' := 36) rfl ?_
 refine w_static X21 hx (y := yn_8) hown (mvT hZ (wd_45 hw)) (mvT hZ (wd_46 hw)) (mvT hZ (wd_47 hw)) (mvT hZ (wd_48 hw)) (by decide) (backOf (W := 0) (rm_m8_32 l Z aZ hw [] a1 k_a1 jj1 jj2 h0 n0 Z0 V_a1 zz6 O0 zz7 zz8 zz4 zz5) hZ (wd_48 hw) (wd_47 hw) (by decide) (by decide)) (by rw [hml]; rfl) [(.ref a1), (.int (0 : Int32)), (.int (2 : Int32))] (lenOf pd_10 rfl) rfl (Nat.le_of_eq rfl) (d3_36 hby) (fun _ _ => ⟨rfl, e21, (by decide : 0 + 2 ≤ _), (by decide : 0 + 6 ≤ _)⟩) (pc' := 39) rfl ?_
 rintro _ _ ⟨T22, L22, k22, n22⟩ X22 ⟨Lc22, hQ22, l22, y22, z22⟩
 dsimp only [Pt.U, Pt.locs, Pt.cells, Pt.slots] at X22 l22 y22 z22 hQ22 ⊢
 subst l22 y22 z22
 rcases hQ22 with ⟨t_22, kb_22, rfl, N22q, K22, g22_0, g22_1, g22_2, g22_3⟩ | ⟨t_22, kb_22, rfl, N22q, K22, g22_0, g22_1, g22_2⟩
 · have N23 := Fr.app N0 N22q
   have K24 : Keep h0 T22.heap [a0] := (Keep.refl h0 [a0]).trans K22 (all0 (P := fun x => x ∈ [a0] ∨ h0.size ≤ x))
   have ge25 : n0 ≤ t_22 := Nat.le_trans Z0 g22_0
   have sz26 : h0.size ≤ t_22 := Nat.le_trans (Nat.le_refl _) g22_0
   show Runs _ _ _ _ (T22.setTop (mkF m 39 #[.val (.ref a0), .val (.ref a1), .val (.int (0 : Int32)), .val (.int (2 : Int32)), .val .null, .unset] [(.ref t_22)]))
   refine w_astore X22 hx (d3_39 hby) rfl (L' := #[.val (.ref a0), .val (.ref a1), .val (.int (0 : Int32)), .val (.int (2 : Int32)), .val .null, .val (.ref t_22)]) rfl (pc' := 41) rfl ?_
   refine w_aloadN X22 hx (d3_41 hby) rfl rfl (pc' := 42) rfl ?_
   refine w_aload X22 hx (d3_42 hby) rfl rfl (pc' := 44) rfl ?_
   refine w_iloadN X22 hx (d3_44 hby) rfl (pc' := 45) rfl ?_
   refine w_static X22 hx (y := yn_10) hown (mvT hZ (wd_52 hw)) (mvT hZ (wd_53 hw)) (mvT hZ (wd_47 hw)) (mvT hZ (wd_54 hw)) (by decide) (backOf (W := 1) (rm_m10_40 l Z aZ hw [] t_22 kb_22 (jj1.toInt8.toInt32) (jj2.toInt8.toInt32) T22.heap n0 (Nat.le_trans Z0 K22.1) g22_1) hZ (wd_54 hw) (wd_47 hw) (by decide) (by decide)) (by rw [hml]; rfl) [(.ref t_22), (.int (2 : Int32))] (lenOf pd_12 rfl) rfl (Nat.le_of_eq rfl) (d3_45 hby) (fun _ _ => ⟨rfl, rfl, (by decide : 2 + 0 ≤ _), (by decide : 6 + 0 ≤ _)⟩) (pc' := 48) rfl ?_
   rintro _ _ ⟨T27, L27, k27, n27⟩ X27 ⟨Lc27, hQ27, l27, y27, z27⟩
   dsimp only [Pt.U, Pt.locs, Pt.cells, Pt.slots] at X27 l27 y27 z27 hQ27 ⊢
   subst l27 y27 z27
   obtain ⟨rfl, N27q, e27⟩ := hQ27
   have N28 := Fr.app N23 N27q
   show Runs _ _ _ _ (T27.setTop (mkF m 48 #[.val (.ref a0), .val (.ref a1), .val (.int (0 : Int32)), .val (.int (2 : Int32)), .val .null, .val (.ref t_22)] [(.int (0 : Int32)), (.ref a0)]))
   have f29 : Exa Z T22.heap a0 kc0 := (E_a0.keep K22)
   have f30 : Fld Z T22.heap a0 kc0 "coder" "B" (.int (0 : Int32)) := (zz9.keep K22 nin0)
   refine w_putF X27 hx "" hZ hown (Or.inl (wd_27 hw)) Via.refl e27 f30 f29 (Or.inr ⟨(wd_23 hw), rfl, hnm⟩) (wd_8 hw) (ty := .byte) (by decide) rfl rfl (d3_48 hby) (pc' := 51) rfl ?_
   intro T31 h31 X31 e31 W31
   have f32 : Fld Z h31 a0 kc0 "coder" "B" (.int (0 : Int32)) := f30.same W31
   have K33 : Keep h0 h31 [a0] := K24.wr W31 (Or.inl (by simp))
   have N34 := Fr.snoc X31 N28 zz10
   refine w_aloadN X31 hx (d3_51 hby) rfl rfl (pc' := 52) rfl ?_
   refine w_aload X31 hx (d3_52 hby) rfl rfl (pc' := 54) rfl ?_
   have f35 : Exa Z h31 a0 kc0 := (f29.wr W31)
   have f36 : Fld Z h31 a0 kc0 "value" "[B" .null := ((zz11.keep K22 nin0).other W31 (Or.inr (slot_ne (Or.inr (wd_22 hw)) (Or.inr (wd_23 hw)) (by decide) (t := (.array .byte)) (t' := .byte) (by decide) (by decide))))
   refine w_putF X31 hx "" hZ hown (Or.inl (wd_26 hw)) Via.refl e31 f36 f35 (Or.inr ⟨(wd_22 hw), rfl, hnm⟩) (wd_8 hw) (ty := (.array .byte)) (by decide) rfl rfl (d3_54 hby) (pc' := 57) rfl ?_
   intro T37 h37 X37 e37 W37
   have f38 : Fld Z h37 a0 kc0 "value" "[B" (.ref t_22) := f36.same W37
   have K39 : Keep h0 h37 [a0] := K33.wr W37 (Or.inl (by simp))
   have N40 := Fr.snoc X37 N34 zz10
   have f41 : Exa Z h37 a0 kc0 := (f35.wr W37)
   have f42 : Fld Z h37 a0 kc0 "coder" "B" (.int (0 : Int32)) := (f32.other W37 (Or.inr (slot_ne (Or.inr (wd_23 hw)) (Or.inr (wd_22 hw)) (by decide) (t := .byte) (t' := (.array .byte)) (by decide) (by decide))))
   have ne43 : a0 ≠ t_22 := (Nat.ne_of_lt (Nat.lt_of_lt_of_le E_a0.lt (Nat.le_trans (Nat.le_refl _) g22_0)))
   have f44 : Arv Z h37 t_22 kb_22 .byte (2 : Int32) [(.int (jj1.toInt8.toInt32)), (.int (jj2.toInt8.toInt32))] (.int (0 : Int32)) := ((g22_1.other W31 (Ne.symm ne43)).other W37 (Ne.symm ne43))
   exact w_done X37 hlk (v := none) e37 (fun _ => rfl) (fun fs hr => X37.returnOut hx hret (d3_57 hby) hr) (by decide) (by decide) (Or.inl ⟨t_22, kb_22, rfl, N40, K39, f41, f42, f38, sz26, f44, g22_2, g22_3⟩)
 · have N45 := Fr.app N0 N22q
   have K46 : Keep h0 T22.heap [a0] := (Keep.refl h0 [a0]).trans K22 (all0 (P := fun x => x ∈ [a0] ∨ h0.size ≤ x))
   have ge47 : n0 ≤ t_22 := Nat.le_trans Z0 g22_0
   have sz48 : h0.size ≤ t_22 := Nat.le_trans (Nat.le_refl _) g22_0
   show Runs _ _ _ _ (T22.setTop (mkF m 39 #[.val (.ref a0), .val (.ref a1), .val (.int (0 : Int32)), .val (.int (2 : Int32)), .val .null, .unset] [(.ref t_22)]))
   refine w_astore X22 hx (d3_39 hby) rfl (L' := #[.val (.ref a0), .val (.ref a1), .val (.int (0 : Int32)), .val (.int (2 : Int32)), .val .null, .val (.ref t_22)]) rfl (pc' := 41) rfl ?_
   refine w_aloadN X22 hx (d3_41 hby) rfl rfl (pc' := 42) rfl ?_
   refine w_aload X22 hx (d3_42 hby) rfl rfl (pc' := 44) rfl ?_
   refine w_iloadN X22 hx (d3_44 hby) rfl (pc' := 45) rfl ?_
   refine w_static X22 hx (y := yn_10) hown (mvT hZ (wd_52 hw)) (mvT hZ (wd_53 hw)) (mvT hZ (wd_47 hw)) (mvT hZ (wd_54 hw)) (by decide) (backOf (W := 1) (rm_m10_41 l Z aZ hw [] t_22 kb_22 ((jj1 >>> ((0 : Int32) &&& 31)).toInt8.toInt32) ((jj1 >>> ((8 : Int32) &&& 31)).toInt8.toInt32) ((jj2 >>> ((0 : Int32) &&& 31)).toInt8.toInt32) ((jj2 >>> ((8 : Int32) &&& 31)).toInt8.toInt32) T22.heap n0 (Nat.le_trans Z0 K22.1) g22_1) hZ (wd_54 hw) (wd_47 hw) (by decide) (by decide)) (by rw [hml]; rfl) [(.ref t_22), (.int (2 : Int32))] (lenOf pd_12 rfl) rfl (Nat.le_of_eq rfl) (d3_45 hby) (fun _ _ => ⟨rfl, rfl, (by decide : 2 + 0 ≤ _), (by decide : 6 + 0 ≤ _)⟩) (pc' := 48) rfl ?_
   rintro _ _ ⟨T49, L49, k49, n49⟩ X49 ⟨Lc49, hQ49, l49, y49, z49⟩
   dsimp only [Pt.U, Pt.locs, Pt.cells, Pt.slots] at X49 l49 y49 z49 hQ49 ⊢
   subst l49 y49 z49
   obtain ⟨rfl, N49q, e49⟩ := hQ49
   have N50 := Fr.app N45 N49q
   show Runs _ _ _ _ (T49.setTop (mkF m 48 #[.val (.ref a0), .val (.ref a1), .val (.int (0 : Int32)), .val (.int (2 : Int32)), .val .null, .val (.ref t_22)] [(.int (1 : Int32)), (.ref a0)]))
   have f51 : Exa Z T22.heap a0 kc0 := (E_a0.keep K22)
   have f52 : Fld Z T22.heap a0 kc0 "coder" "B" (.int (0 : Int32)) := (zz9.keep K22 nin0)
   refine w_putF X49 hx "" hZ hown (Or.inl (wd_27 hw)) Via.refl e49 f52 f51 (Or.inr ⟨(wd_23 hw), rfl, hnm⟩) (wd_8 hw) (ty := .byte) (by decide) rfl rfl (d3_48 hby) (pc' := 51) rfl ?_
   intro T53 h53 X53 e53 W53
   have f54 : Fld Z h53 a0 kc0 "coder" "B" (.int (1 : Int32)) := f52.same W53
   have K55 : Keep h0 h53 [a0] := K46.wr W53 (Or.inl (by simp))
   have N56 := Fr.snoc X53 N50 zz10
   refine w_aloadN X53 hx (d3_51 hby) rfl rfl (pc' := 52) rfl ?_
   refine w_aload X53 hx (d3_52 hby) rfl rfl (pc' := 54) rfl ?_
   have f57 : Exa Z h53 a0 kc0 := (f51.wr W53)
   have f58 : Fld Z h53 a0 kc0 "value" "[B" .null := ((zz11.keep K22 nin0).other W53 (Or.inr (slot_ne (Or.inr (wd_22 hw)) (Or.inr (wd_23 hw)) (by decide) (t := (.array .byte)) (t' := .byte) (by decide) (by decide))))
   refine w_putF X53 hx "" hZ hown (Or.inl (wd_26 hw)) Via.refl e53 f58 f57 (Or.inr ⟨(wd_22 hw), rfl, hnm⟩) (wd_8 hw) (ty := (.array .byte)) (by decide) rfl rfl (d3_54 hby) (pc' := 57) rfl ?_
   intro T59 h59 X59 e59 W59
   have f60 : Fld Z h59 a0 kc0 "value" "[B" (.ref t_22) := f58.same W59
   have K61 : Keep h0 h59 [a0] := K55.wr W59 (Or.inl (by simp))
   have N62 := Fr.snoc X59 N56 zz10
   have f64 : Exa Z h59 a0 kc0 := (f57.wr W59)
   have f65 : Fld Z h59 a0 kc0 "coder" "B" (.int (1 : Int32)) := (f54.other W59 (Or.inr (slot_ne (Or.inr (wd_23 hw)) (Or.inr (wd_22 hw)) (by decide) (t := .byte) (t' := (.array .byte)) (by decide) (by decide))))
   have ne66 : a0 ≠ t_22 := (Nat.ne_of_lt (Nat.lt_of_lt_of_le E_a0.lt (Nat.le_trans (Nat.le_refl _) g22_0)))
   have f67 : Arv Z h59 t_22 kb_22 .byte (4 : Int32) [(.int ((jj1 >>> ((0 : Int32) &&& 31)).toInt8.toInt32)), (.int ((jj1 >>> ((8 : Int32) &&& 31)).toInt8.toInt32)), (.int ((jj2 >>> ((0 : Int32) &&& 31)).toInt8.toInt32)), (.int ((jj2 >>> ((8 : Int32) &&& 31)).toInt8.toInt32))] (.int (0 : Int32)) := ((g22_1.other W53 (Ne.symm ne66)).other W59 (Ne.symm ne66))
   exact w_done X59 hlk (v := none) e59 (fun _ => rfl) (fun fs hr => X59.returnOut hx hret (d3_57 hby) hr) (by decide) (by decide) (Or.inr (⟨t_22, kb_22, rfl, N62, K61, f64, f65, f60, sz48, f67, g22_2⟩))
theorem ef_m2_30 (m : MethodId) (a0 : Addr) (a1 : Addr)  : entryFrame m #[(.ref a0), (.ref a1)] 2 = mkF m 0 #[.val (.ref a0), .val (.ref a1)] [] := by first | (simp [entryFrame, mkF, argsToLocals, Value.category]; done) | rfl
def Q_m2_30 (Z : State) (a0 : Addr) (a1 : Addr) (k_a1 : ClassId) (jj0 : Int32) (jj1 : Int32) (jj2 : Int32) (h0 : Heap) (n0 : Nat) (v : Option Value) (h : Heap) (L : List Loc) : Prop := (∃ (t : Addr) (kb : ClassId), v = none ∧ Fr n0 L ∧ Keep h0 h [a0] ∧ Exa Z h a0 kc0 ∧ Fld Z h a0 kc0 "coder" "B" (.int (0 : Int32)) ∧ Fld Z h a0 kc0 "value" "[B" (.ref t) ∧ h0.size ≤ t ∧ Arv Z h t kb .byte (2 : Int32) [(.int (jj0.toInt8.toInt32)), (.int (jj1.toInt8.toInt32))] (.int (0 : Int32)) ∧ ¬ ((255 : Int32) < jj0) ∧ ¬ ((255 : Int32) < jj1)) ∨ (∃ (t : Addr) (kb : ClassId), v = none ∧ Fr n0 L ∧ Keep h0 h [a0] ∧ Exa Z h a0 kc0 ∧ Fld Z h a0 kc0 "coder" "B" (.int (1 : Int32)) ∧ Fld Z h a0 kc0 "value" "[B" (.ref t) ∧ h0.size ≤ t ∧ Arv Z h t kb .byte (4 : Int32) [(.int ((jj0 >>> ((0 : Int32) &&& 31)).toInt8.toInt32)), (.int ((jj0 >>> ((8 : Int32) &&& 31)).toInt8.toInt32)), (.int ((jj1 >>> ((0 : Int32) &&& 31)).toInt8.toInt32)), (.int ((jj1 >>> ((8 : Int32) &&& 31)).toInt8.toInt32))] (.int (0 : Int32)) ∧ ((255 : Int32) < jj0 ∨ (255 : Int32) < jj1))
theorem rm_m2_30 (l : Launch) (Z : State) (aZ : Array Value) (hw : ∀ d ∈ tables_1, d.before aZ Z = true) (ws : List Jvm.Cond) (a0 : Addr) (a1 : Addr) (k_a1 : ClassId) (jj0 : Int32) (jj1 : Int32) (jj2 : Int32) (h0 : Heap) (n0 : Nat) (Z0 : n0 ≤ h0.size) (V_a1 : Arv Z h0 a1 k_a1 .char (2 : Int32) [(.int jj0), (.int jj1)] (.int (0 : Int32))) (hP_1 : ¬ (jj2 = (0 : Int32))) (zz3 : nar .char jj0 = jj0) (zz4 : nar .char jj1 = jj1) (E_a0 : Exa Z h0 a0 kc0) (zz5 : Fld Z h0 a0 kc0 "coder" "B" (.int (0 : Int32))) (zz6 : Fld Z h0 a0 kc0 "value" "[B" .null) (zz7 : Sta Z Z.heap kc0 "COMPACT_STRINGS" "Z" (.int jj2)) (O0 : Old Z n0 h0) (zz8 : Sta Z Z.heap kc1 "$assertionsDisabled" "Z" (.int (1 : Int32))) (zz9 : Sta Z Z.heap kc1 "HI_BYTE_SHIFT" "I" (.int (0 : Int32))) (zz10 : Sta Z Z.heap kc1 "LO_BYTE_SHIFT" "I" (.int (8 : Int32))) (zz11 : n0 ≤ a0) :
    MetN l Z yn_2 jdk_42_method_3_code 2 none ws ({ frames := 5, cells := 2, slots := 6, locals := 74 } : Room) #[(.ref a0), (.ref a1)] h0 (Q_m2_30 Z a0 a1 k_a1 jj0 jj1 jj2 h0 n0) := by
 refine MetN.of (plainFor_of_name pn_1) ?_
 intro p e s m below meth c s₁ hret hx hby hml hown hnm hlk hZ X0 e0
 have N0 := Fr.nil n0
 rw [ef_m2_30 m a0 a1]
 refine w_aloadN X0 hx (d2_0 hby) rfl rfl (pc' := 1) rfl ?_
 refine w_aloadN X0 hx (d2_1 hby) rfl rfl (pc' := 2) rfl ?_
 refine w_iconst X0 hx (d2_2 hby) (v := (0 : Int32)) rfl (pc' := 3) rfl ?_
 refine w_aloadN X0 hx (d2_3 hby) rfl rfl (pc' := 4) rfl ?_
 refine w_alen X0 hx hZ e0 V_a1 (d2_4 hby) (pc' := 5) rfl ?_
 refine w_null X0 hx (d2_5 hby) (pc' := 6) rfl ?_
 refine w_special X0 hx (y := yn_3) rfl hown (mvT hZ (wd_13 hw)) (mvT hZ (wd_14 hw)) (mvT hZ (wd_16 hw)) (by decide) (backOf (W := 0) (rm_m3_31 l Z aZ hw [] a0 a1 jj2 k_a1 jj0 jj1 h0 n0 Z0 zz7 O0 hP_1 V_a1 zz3 zz4 zz8 zz9 zz10 E_a0 zz5 zz11 zz6) hZ (wd_16 hw) (wd_9 hw) (by decide) (by decide)) (by rw [hml]; rfl) [(.ref a1), (.int (0 : Int32)), (.int (2 : Int32)), .null] (lenOf pd_1 rfl) rfl (Nat.le_of_eq rfl) (d2_6 hby) (fun _ _ => ⟨rfl, e0, (by decide : 0 + 2 ≤ _), (by decide : 0 + 6 ≤ _)⟩) (pc' := 9) rfl ?_
 rintro _ _ ⟨T20, L20, k20, n20⟩ X20 ⟨Lc20, hQ20, l20, y20, z20⟩
 dsimp only [Pt.U, Pt.locs, Pt.cells, Pt.slots] at X20 l20 y20 z20 hQ20 ⊢
 subst l20 y20 z20
 rcases hQ20 with ⟨t_20, kb_20, rfl, N20q, K20, g20_0, g20_1, g20_2, g20_3, g20_4, g20_5, g20_6⟩ | ⟨t_20, kb_20, rfl, N20q, K20, g20_0, g20_1, g20_2, g20_3, g20_4, g20_5⟩
 · have N21 := Fr.app N0 N20q
   have K22 : Keep h0 T20.heap [a0] := (Keep.refl h0 [a0]).trans K20 (allS (Or.inl (by simp)) (all0 (P := fun x => x ∈ [a0] ∨ h0.size ≤ x)))
   have ge23 : n0 ≤ t_20 := Nat.le_trans Z0 g20_3
   have sz24 : h0.size ≤ t_20 := Nat.le_trans (Nat.le_refl _) g20_3
   show Runs _ _ _ _ (T20.setTop (mkF m 9 #[.val (.ref a0), .val (.ref a1)] []))
   exact w_done X20 hlk (v := none) rfl (fun _ => rfl) (fun fs hr => X20.returnOut hx hret (d2_9 hby) hr) (by decide) (by decide) (Or.inl ⟨t_20, kb_20, rfl, N21, K22, g20_0, g20_1, g20_2, sz24, g20_4, g20_5, g20_6⟩)
 · have N25 := Fr.app N0 N20q
   have K26 : Keep h0 T20.heap [a0] := (Keep.refl h0 [a0]).trans K20 (allS (Or.inl (by simp)) (all0 (P := fun x => x ∈ [a0] ∨ h0.size ≤ x)))
   have ge27 : n0 ≤ t_20 := Nat.le_trans Z0 g20_3
   have sz28 : h0.size ≤ t_20 := Nat.le_trans (Nat.le_refl _) g20_3
   show Runs _ _ _ _ (T20.setTop (mkF m 9 #[.val (.ref a0), .val (.ref a1)] []))
   exact w_done X20 hlk (v := none) rfl (fun _ => rfl) (fun fs hr => X20.returnOut hx hret (d2_9 hby) hr) (by decide) (by decide) (Or.inr (⟨t_20, kb_20, rfl, N25, K26, g20_0, g20_1, g20_2, sz28, g20_4, g20_5⟩))
theorem ef_m7_44 (m : MethodId) (a0 : Addr) (a1 : Addr)  : entryFrame m #[(.ref a0), (.ref a1)] 3 = mkF m 0 #[.val (.ref a0), .val (.ref a1), .unset] [] := by first | (simp [entryFrame, mkF, argsToLocals, Value.category]; done) | rfl
def Q_m7_44 (Z : State) (a0 : Addr) (a1 : Addr) (k_a0 : ClassId) (jj0 : Int32) (jj1 : Int32) (k_a1 : ClassId) (h0 : Heap) (n0 : Nat) (v : Option Value) (h : Heap) (L : List Loc) : Prop := v = some (.int (0 : Int32)) ∧ Fr n0 L ∧ h = h0
theorem rm_m7_44 (l : Launch) (Z : State) (aZ : Array Value) (hw : ∀ d ∈ tables_1, d.before aZ Z = true) (ws : List Jvm.Cond) (a0 : Addr) (a1 : Addr) (k_a0 : ClassId) (jj0 : Int32) (jj1 : Int32) (k_a1 : ClassId) (h0 : Heap) (n0 : Nat) (Z0 : n0 ≤ h0.size) (V_a0 : Arv Z h0 a0 k_a0 .byte (2 : Int32) [(.int jj0), (.int jj1)] (.int (0 : Int32))) (V_a1 : Arv Z h0 a1 k_a1 .byte (1 : Int32) [(.int (46 : Int32))] (.int (0 : Int32))) :
    MetN l Z yn_7 jdk_43_method_13_code 3 (some .boolean) ws ({ frames := 0, cells := 0, slots := 0, locals := 0 } : Room) #[(.ref a0), (.ref a1)] h0 (Q_m7_44 Z a0 a1 k_a0 jj0 jj1 k_a1 h0 n0) := by
 refine MetN.of (plainFor_of_name pn_2) ?_
 intro p e s m below meth c s₁ hret hx hby hml hown hnm hlk hZ X0 e0
 have N0 := Fr.nil n0
 rw [ef_m7_44 m a0 a1]
 refine w_aloadN X0 hx (d7_0 hby) rfl rfl (pc' := 1) rfl ?_
 refine w_alen X0 hx hZ e0 V_a0 (d7_1 hby) (pc' := 2) rfl ?_
 refine w_aloadN X0 hx (d7_2 hby) rfl rfl (pc' := 3) rfl ?_
 refine w_alen X0 hx hZ e0 V_a1 (d7_3 hby) (pc' := 4) rfl ?_
 refine w_icY X0 hx (d7_4 hby) (feq (by decide : ¬ ((2 : Int32) = (1 : Int32)))).2 (pc' := 34) (by decide) (by decide) ?_
 refine w_iconst X0 hx (d7_34 hby) (v := (0 : Int32)) rfl (pc' := 35) rfl ?_
 exact w_done X0 hlk (v := some (.int (0 : Int32))) e0 (fun h => by rw [hret] at h; cases h) (fun fs hr => retN X0 hx (t := .boolean) hret (by simp) (d7_35 hby) hr) (by decide) (by decide) (⟨rfl, N0, rfl⟩)
theorem ef_m6_43 (m : MethodId) (a0 : Addr) (a1 : Addr)  : entryFrame m #[(.ref a0), (.ref a1)] 3 = mkF m 0 #[.val (.ref a0), .val (.ref a1), .unset] [] := by first | (simp [entryFrame, mkF, argsToLocals, Value.category]; done) | rfl
def Q_m6_43 (Z : State) (a0 : Addr) (a1 : Addr) (jj0 : Int32) (jj1 : Addr) (jj2 : Addr) (jj3 : ClassId) (jj4 : Int32) (jj5 : Int32) (jj6 : ClassId) (h0 : Heap) (n0 : Nat) (v : Option Value) (h : Heap) (L : List Loc) : Prop := v = some (.int (0 : Int32)) ∧ Fr n0 L ∧ h = h0
theorem rm_m6_43 (l : Launch) (Z : State) (aZ : Array Value) (hw : ∀ d ∈ tables_1, d.before aZ Z = true) (ws : List Jvm.Cond) (a0 : Addr) (a1 : Addr) (jj0 : Int32) (jj1 : Addr) (jj2 : Addr) (jj3 : ClassId) (jj4 : Int32) (jj5 : Int32) (jj6 : ClassId) (h0 : Heap) (n0 : Nat) (Z0 : n0 ≤ h0.size) (zz7 : a0 ≠ a1) (E_a1 : Exa Z h0 a1 kc0) (zz8 : Sta Z Z.heap kc0 "COMPACT_STRINGS" "Z" (.int jj0)) (O0 : Old Z n0 h0) (hP_4 : ¬ (jj0 = (0 : Int32))) (zz9 : Fld Z h0 a0 kc0 "coder" "B" (.int (0 : Int32))) (zz10 : Fld Z h0 a1 kc0 "coder" "B" (.int (0 : Int32))) (zz11 : Fld Z h0 a0 kc0 "value" "[B" (.ref jj1)) (zz12 : Fld Z h0 a1 kc0 "value" "[B" (.ref jj2)) (zz13 : Arv Z h0 jj1 jj3 .byte (2 : Int32) [(.int jj4), (.int jj5)] (.int (0 : Int32))) (zz14 : Arv Z h0 jj2 jj6 .byte (1 : Int32) [(.int (46 : Int32))] (.int (0 : Int32))) :
    MetN l Z yn_6 jdk_42_method_66_code 3 (some .boolean) ws ({ frames := 1, cells := 0, slots := 0, locals := 14 } : Room) #[(.ref a0), (.ref a1)] h0 (Q_m6_43 Z a0 a1 jj0 jj1 jj2 jj3 jj4 jj5 jj6 h0 n0) := by
 refine MetN.of (plainFor_of_name pn_1) ?_
 intro p e s m below meth c s₁ hret hx hby hml hown hnm hlk hZ X0 e0
 have N0 := Fr.nil n0
 rw [ef_m6_43 m a0 a1]
 refine w_aloadN X0 hx (d6_0 hby) rfl rfl (pc' := 1) rfl ?_
 refine w_aloadN X0 hx (d6_1 hby) rfl rfl (pc' := 2) rfl ?_
 refine w_acmp X0 hx (d6_2 hby) (same := false) rfl rfl (decide_eq_false fun q => zz7 (Value.ref.inj q)) (pc' := 7) (by decide) (by decide) ?_
 refine w_aloadN X0 hx (d6_7 hby) rfl rfl (pc' := 8) rfl ?_
 refine w_instY X0 hx hZ hown (wd_38 hw) e0 (Ins.self E_a1) (d6_8 hby) (pc' := 11) rfl ?_
 intro T20 X20 e20
 refine w_ifN X20 hx (d6_11 hby) (feq (by decide : ¬ ((1 : Int32) = (0 : Int32)))).1 (pc' := 14) rfl ?_
 refine w_aloadN X20 hx (d6_14 hby) rfl rfl (pc' := 15) rfl ?_
 refine w_castY X20 hx hZ hown (wd_38 hw) e20 (Ins.self E_a1) (d6_15 hby) (pc' := 18) rfl ?_
 intro T21 X21 e21
 refine w_astoreN X21 hx (d6_18 hby) rfl (L' := #[.val (.ref a0), .val (.ref a1), .val (.ref a1)]) rfl (pc' := 19) rfl ?_
 refine w_getS X21 hx "" hZ hown (Or.inl (wd_39 hw)) Via.refl e21 (zz8.ext O0.2) (d6_19 hby) (pc' := 22) rfl ?_
 intro T22 X22 e22
 refine w_ifN X22 hx (d6_22 hby) (feq hP_4).1 (pc' := 25) rfl ?_
 refine w_aloadN X22 hx (d6_25 hby) rfl rfl (pc' := 26) rfl ?_
 refine w_getF X22 hx "" hZ hown (Or.inl (wd_27 hw)) Via.refl e22 zz9 (d6_26 hby) (pc' := 29) rfl ?_
 intro T23 X23 e23
 refine w_aloadN X23 hx (d6_29 hby) rfl rfl (pc' := 30) rfl ?_
 refine w_getF X23 hx "" hZ hown (Or.inl (wd_27 hw)) Via.refl e23 zz10 (d6_30 hby) (pc' := 33) rfl ?_
 intro T24 X24 e24
 refine w_icN X24 hx (d6_33 hby) (teq (by decide : (0 : Int32) = (0 : Int32))).2 (pc' := 36) rfl ?_
 refine w_aloadN X24 hx (d6_36 hby) rfl rfl (pc' := 37) rfl ?_
 refine w_getF X24 hx "" hZ hown (Or.inl (wd_26 hw)) Via.refl e24 zz11 (d6_37 hby) (pc' := 40) rfl ?_
 intro T25 X25 e25
 refine w_aloadN X25 hx (d6_40 hby) rfl rfl (pc' := 41) rfl ?_
 refine w_getF X25 hx "" hZ hown (Or.inl (wd_26 hw)) Via.refl e25 zz12 (d6_41 hby) (pc' := 44) rfl ?_
 intro T26 X26 e26
 refine w_static X26 hx (y := yn_7) hown (mvT hZ (wd_40 hw)) (mvT hZ (wd_41 hw)) (mvT hZ (wd_42 hw)) (mvT hZ (wd_43 hw)) (by decide) (backOf (W := 0) (rm_m7_44 l Z aZ hw [] jj1 jj2 jj3 jj4 jj5 jj6 h0 n0 Z0 zz13 zz14) hZ (wd_43 hw) (wd_42 hw) (by decide) (by decide)) (by rw [hml]; rfl) [(.ref jj1), (.ref jj2)] (lenOf pd_3 rfl) rfl (Nat.le_of_eq rfl) (d6_44 hby) (fun _ _ => ⟨rfl, e26, (by decide : 0 + 0 ≤ _), (by decide : 0 + 0 ≤ _)⟩) (pc' := 47) rfl ?_
 rintro _ _ ⟨T27, L27, k27, n27⟩ X27 ⟨Lc27, hQ27, l27, y27, z27⟩
 dsimp only [Pt.U, Pt.locs, Pt.cells, Pt.slots] at X27 l27 y27 z27 hQ27 ⊢
 subst l27 y27 z27
 obtain ⟨rfl, N27q, e27⟩ := hQ27
 have N28 := Fr.app N0 N27q
 show Runs _ _ _ _ (T27.setTop (mkF m 47 #[.val (.ref a0), .val (.ref a1), .val (.ref a1)] [(.int (0 : Int32))]))
 refine w_ifY X27 hx (d6_47 hby) (teq (by decide : (0 : Int32) = (0 : Int32))).1 (pc' := 54) (by decide) (by decide) ?_
 refine w_iconst X27 hx (d6_54 hby) (v := (0 : Int32)) rfl (pc' := 55) rfl ?_
 exact w_done X27 hlk (v := some (.int (0 : Int32))) e27 (fun h => by rw [hret] at h; cases h) (fun fs hr => retN X27 hx (t := .boolean) hret (by simp) (d6_55 hby) hr) (by decide) (by decide) (⟨rfl, N28, rfl⟩)
theorem ef_m7_46 (m : MethodId) (a0 : Addr) (a1 : Addr)  : entryFrame m #[(.ref a0), (.ref a1)] 3 = mkF m 0 #[.val (.ref a0), .val (.ref a1), .unset] [] := by first | (simp [entryFrame, mkF, argsToLocals, Value.category]; done) | rfl
def Q_m7_46 (Z : State) (a0 : Addr) (a1 : Addr) (k_a0 : ClassId) (jj0 : Int32) (jj1 : Int32) (k_a1 : ClassId) (h0 : Heap) (n0 : Nat) (v : Option Value) (h : Heap) (L : List Loc) : Prop := v = some (.int (1 : Int32)) ∧ Fr n0 L ∧ h = h0
theorem rm_m7_46 (l : Launch) (Z : State) (aZ : Array Value) (hw : ∀ d ∈ tables_1, d.before aZ Z = true) (ws : List Jvm.Cond) (a0 : Addr) (a1 : Addr) (k_a0 : ClassId) (jj0 : Int32) (jj1 : Int32) (k_a1 : ClassId) (h0 : Heap) (n0 : Nat) (Z0 : n0 ≤ h0.size) (V_a0 : Arv Z h0 a0 k_a0 .byte (2 : Int32) [(.int jj0), (.int jj1)] (.int (0 : Int32))) (V_a1 : Arv Z h0 a1 k_a1 .byte (2 : Int32) [(.int (46 : Int32)), (.int (46 : Int32))] (.int (0 : Int32))) (hP_2 : jj0 = (46 : Int32)) (hP_3 : jj1 = (46 : Int32)) :
    MetN l Z yn_7 jdk_43_method_13_code 3 (some .boolean) ws ({ frames := 0, cells := 0, slots := 0, locals := 0 } : Room) #[(.ref a0), (.ref a1)] h0 (Q_m7_46 Z a0 a1 k_a0 jj0 jj1 k_a1 h0 n0) := by
 refine MetN.of (plainFor_of_name pn_2) ?_
 intro p e s m below meth c s₁ hret hx hby hml hown hnm hlk hZ X0 e0
 have N0 := Fr.nil n0
 rw [ef_m7_46 m a0 a1]
 refine w_aloadN X0 hx (d7_0 hby) rfl rfl (pc' := 1) rfl ?_
 refine w_alen X0 hx hZ e0 V_a0 (d7_1 hby) (pc' := 2) rfl ?_
 refine w_aloadN X0 hx (d7_2 hby) rfl rfl (pc' := 3) rfl ?_
 refine w_alen X0 hx hZ e0 V_a1 (d7_3 hby) (pc' := 4) rfl ?_
 refine w_icN X0 hx (d7_4 hby) (teq (by decide : (2 : Int32) = (2 : Int32))).2 (pc' := 7) rfl ?_
 refine w_iconst X0 hx (d7_7 hby) (v := (0 : Int32)) rfl (pc' := 8) rfl ?_
 refine w_istoreN X0 hx (d7_8 hby) (L' := #[.val (.ref a0), .val (.ref a1), .val (.int (0 : Int32))]) rfl (pc' := 9) rfl ?_
 refine w_iloadN X0 hx (d7_9 hby) rfl (pc' := 10) rfl ?_
 refine w_aloadN X0 hx (d7_10 hby) rfl rfl (pc' := 11) rfl ?_
 refine w_alen X0 hx hZ e0 V_a0 (d7_11 hby) (pc' := 12) rfl ?_
 refine w_icN X0 hx (d7_12 hby) (tlt (by decide : (0 : Int32) < (2 : Int32))).2.1 (pc' := 15) rfl ?_
 refine w_aloadN X0 hx (d7_15 hby) rfl rfl (pc' := 16) rfl ?_
 refine w_iloadN X0 hx (d7_16 hby) rfl (pc' := 17) rfl ?_
 obtain ⟨clu20, Aru20, qu20, Su20, Nu20, Hu20, Gu20⟩ := id V_a0
 have hinu20 := inb_of (j := (0 : Int32)) Su20 ⟨by decide, by decide⟩
 refine w_baload X0 hx hZ e0 Aru20 hinu20 (Hu20.at hinu20 rfl) (d7_17 hby) (pc' := 18) rfl ?_
 refine w_aloadN X0 hx (d7_18 hby) rfl rfl (pc' := 19) rfl ?_
 refine w_iloadN X0 hx (d7_19 hby) rfl (pc' := 20) rfl ?_
 obtain ⟨clu21, Aru21, qu21, Su21, Nu21, Hu21, Gu21⟩ := id V_a1
 have hinu21 := inb_of (j := (0 : Int32)) Su21 ⟨by decide, by decide⟩
 refine w_baload X0 hx hZ e0 Aru21 hinu21 (Hu21.at hinu21 rfl) (d7_20 hby) (pc' := 21) rfl ?_
 refine w_icY X0 hx (d7_21 hby) (teq hP_2).1 (pc' := 26) (by decide) (by decide) ?_
 refine w_iinc X0 hx (d7_26 hby) (v := (1 : Int32)) rfl rfl (L' := #[.val (.ref a0), .val (.ref a1), .val (.int ((0 : Int32) + (1 : Int32)))]) rfl (pc' := 29) rfl ?_
 rw [show ((0 : Int32) + (1 : Int32)) = (1 : Int32) from by decide]
 refine w_goto X0 hx (d7_29 hby) (pc' := 9) (by decide) (by decide) ?_
 refine w_iloadN X0 hx (d7_9 hby) rfl (pc' := 10) rfl ?_
 refine w_aloadN X0 hx (d7_10 hby) rfl rfl (pc' := 11) rfl ?_
 refine w_alen X0 hx hZ e0 V_a0 (d7_11 hby) (pc' := 12) rfl ?_
 refine w_icN X0 hx (d7_12 hby) (tlt (by decide : (1 : Int32) < (2 : Int32))).2.1 (pc' := 15) rfl ?_
 refine w_aloadN X0 hx (d7_15 hby) rfl rfl (pc' := 16) rfl ?_
 refine w_iloadN X0 hx (d7_16 hby) rfl (pc' := 17) rfl ?_
 obtain ⟨clu22, Aru22, qu22, Su22, Nu22, Hu22, Gu22⟩ := id V_a0
 have hinu22 := inb_of (j := (1 : Int32)) Su22 ⟨by decide, by decide⟩
 refine w_baload X0 hx hZ e0 Aru22 hinu22 (Hu22.at hinu22 rfl) (d7_17 hby) (pc' := 18) rfl ?_
 refine w_aloadN X0 hx (d7_18 hby) rfl rfl (pc' := 19) rfl ?_
 refine w_iloadN X0 hx (d7_19 hby) rfl (pc' := 20) rfl ?_
 obtain ⟨clu23, Aru23, qu23, Su23, Nu23, Hu23, Gu23⟩ := id V_a1
 have hinu23 := inb_of (j := (1 : Int32)) Su23 ⟨by decide, by decide⟩
 refine w_baload X0 hx hZ e0 Aru23 hinu23 (Hu23.at hinu23 rfl) (d7_20 hby) (pc' := 21) rfl ?_
 refine w_icY X0 hx (d7_21 hby) (teq hP_3).1 (pc' := 26) (by decide) (by decide) ?_
 refine w_iinc X0 hx (d7_26 hby) (v := (1 : Int32)) rfl rfl (L' := #[.val (.ref a0), .val (.ref a1), .val (.int ((1 : Int32) + (1 : Int32)))]) rfl (pc' := 29) rfl ?_
 rw [show ((1 : Int32) + (1 : Int32)) = (2 : Int32) from by decide]
 refine w_goto X0 hx (d7_29 hby) (pc' := 9) (by decide) (by decide) ?_
 refine w_iloadN X0 hx (d7_9 hby) rfl (pc' := 10) rfl ?_
 refine w_aloadN X0 hx (d7_10 hby) rfl rfl (pc' := 11) rfl ?_
 refine w_alen X0 hx hZ e0 V_a0 (d7_11 hby) (pc' := 12) rfl ?_
 refine w_icY X0 hx (d7_12 hby) (flt (by decide : ¬ ((2 : Int32) < (2 : Int32)))).2.1 (pc' := 32) (by decide) (by decide) ?_
 refine w_iconst X0 hx (d7_32 hby) (v := (1 : Int32)) rfl (pc' := 33) rfl ?_
 exact w_done X0 hlk (v := some (.int (1 : Int32))) e0 (fun h => by rw [hret] at h; cases h) (fun fs hr => retN X0 hx (t := .boolean) hret (by simp) (d7_33 hby) hr) (by decide) (by decide) (⟨rfl, N0, rfl⟩)
theorem ef_m6_45 (m : MethodId) (a0 : Addr) (a1 : Addr)  : entryFrame m #[(.ref a0), (.ref a1)] 3 = mkF m 0 #[.val (.ref a0), .val (.ref a1), .unset] [] := by first | (simp [entryFrame, mkF, argsToLocals, Value.category]; done) | rfl
def Q_m6_45 (Z : State) (a0 : Addr) (a1 : Addr) (jj0 : Int32) (jj1 : Addr) (jj2 : Addr) (jj3 : ClassId) (jj4 : Int32) (jj5 : Int32) (jj6 : ClassId) (h0 : Heap) (n0 : Nat) (v : Option Value) (h : Heap) (L : List Loc) : Prop := v = some (.int (1 : Int32)) ∧ Fr n0 L ∧ h = h0
theorem rm_m6_45 (l : Launch) (Z : State) (aZ : Array Value) (hw : ∀ d ∈ tables_1, d.before aZ Z = true) (ws : List Jvm.Cond) (a0 : Addr) (a1 : Addr) (jj0 : Int32) (jj1 : Addr) (jj2 : Addr) (jj3 : ClassId) (jj4 : Int32) (jj5 : Int32) (jj6 : ClassId) (h0 : Heap) (n0 : Nat) (Z0 : n0 ≤ h0.size) (zz7 : a0 ≠ a1) (E_a1 : Exa Z h0 a1 kc0) (zz8 : Sta Z Z.heap kc0 "COMPACT_STRINGS" "Z" (.int jj0)) (O0 : Old Z n0 h0) (hP_4 : ¬ (jj0 = (0 : Int32))) (zz9 : Fld Z h0 a0 kc0 "coder" "B" (.int (0 : Int32))) (zz10 : Fld Z h0 a1 kc0 "coder" "B" (.int (0 : Int32))) (zz11 : Fld Z h0 a0 kc0 "value" "[B" (.ref jj1)) (zz12 : Fld Z h0 a1 kc0 "value" "[B" (.ref jj2)) (zz13 : Arv Z h0 jj1 jj3 .byte (2 : Int32) [(.int jj4), (.int jj5)] (.int (0 : Int32))) (zz14 : Arv Z h0 jj2 jj6 .byte (2 : Int32) [(.int (46 : Int32)), (.int (46 : Int32))] (.int (0 : Int32))) (zz15 : jj4 = (46 : Int32)) (zz16 : jj5 = (46 : Int32)) :
    MetN l Z yn_6 jdk_42_method_66_code 3 (some .boolean) ws ({ frames := 1, cells := 0, slots := 0, locals := 14 } : Room) #[(.ref a0), (.ref a1)] h0 (Q_m6_45 Z a0 a1 jj0 jj1 jj2 jj3 jj4 jj5 jj6 h0 n0) := by
 refine MetN.of (plainFor_of_name pn_1) ?_
 intro p e s m below meth c s₁ hret hx hby hml hown hnm hlk hZ X0 e0
 have N0 := Fr.nil n0
 rw [ef_m6_45 m a0 a1]
 refine w_aloadN X0 hx (d6_0 hby) rfl rfl (pc' := 1) rfl ?_
 refine w_aloadN X0 hx (d6_1 hby) rfl rfl (pc' := 2) rfl ?_
 refine w_acmp X0 hx (d6_2 hby) (same := false) rfl rfl (decide_eq_false fun q => zz7 (Value.ref.inj q)) (pc' := 7) (by decide) (by decide) ?_
 refine w_aloadN X0 hx (d6_7 hby) rfl rfl (pc' := 8) rfl ?_
 refine w_instY X0 hx hZ hown (wd_38 hw) e0 (Ins.self E_a1) (d6_8 hby) (pc' := 11) rfl ?_
 intro T20 X20 e20
 refine w_ifN X20 hx (d6_11 hby) (feq (by decide : ¬ ((1 : Int32) = (0 : Int32)))).1 (pc' := 14) rfl ?_
 refine w_aloadN X20 hx (d6_14 hby) rfl rfl (pc' := 15) rfl ?_
 refine w_castY X20 hx hZ hown (wd_38 hw) e20 (Ins.self E_a1) (d6_15 hby) (pc' := 18) rfl ?_
 intro T21 X21 e21
 refine w_astoreN X21 hx (d6_18 hby) rfl (L' := #[.val (.ref a0), .val (.ref a1), .val (.ref a1)]) rfl (pc' := 19) rfl ?_
 refine w_getS X21 hx "" hZ hown (Or.inl (wd_39 hw)) Via.refl e21 (zz8.ext O0.2) (d6_19 hby) (pc' := 22) rfl ?_
 intro T22 X22 e22
 refine w_ifN X22 hx (d6_22 hby) (feq hP_4).1 (pc' := 25) rfl ?_
 refine w_aloadN X22 hx (d6_25 hby) rfl rfl (pc' := 26) rfl ?_
 refine w_getF X22 hx "" hZ hown (Or.inl (wd_27 hw)) Via.refl e22 zz9 (d6_26 hby) (pc' := 29) rfl ?_
 intro T23 X23 e23
 refine w_aloadN X23 hx (d6_29 hby) rfl rfl (pc' := 30) rfl ?_
 refine w_getF X23 hx "" hZ hown (Or.inl (wd_27 hw)) Via.refl e23 zz10 (d6_30 hby) (pc' := 33) rfl ?_
 intro T24 X24 e24
 refine w_icN X24 hx (d6_33 hby) (teq (by decide : (0 : Int32) = (0 : Int32))).2 (pc' := 36) rfl ?_
 refine w_aloadN X24 hx (d6_36 hby) rfl rfl (pc' := 37) rfl ?_
 refine w_getF X24 hx "" hZ hown (Or.inl (wd_26 hw)) Via.refl e24 zz11 (d6_37 hby) (pc' := 40) rfl ?_
 intro T25 X25 e25
 refine w_aloadN X25 hx (d6_40 hby) rfl rfl (pc' := 41) rfl ?_
 refine w_getF X25 hx "" hZ hown (Or.inl (wd_26 hw)) Via.refl e25 zz12 (d6_41 hby) (pc' := 44) rfl ?_
 intro T26 X26 e26
 refine w_static X26 hx (y := yn_7) hown (mvT hZ (wd_40 hw)) (mvT hZ (wd_41 hw)) (mvT hZ (wd_42 hw)) (mvT hZ (wd_43 hw)) (by decide) (backOf (W := 0) (rm_m7_46 l Z aZ hw [] jj1 jj2 jj3 jj4 jj5 jj6 h0 n0 Z0 zz13 zz14 zz15 zz16) hZ (wd_43 hw) (wd_42 hw) (by decide) (by decide)) (by rw [hml]; rfl) [(.ref jj1), (.ref jj2)] (lenOf pd_3 rfl) rfl (Nat.le_of_eq rfl) (d6_44 hby) (fun _ _ => ⟨rfl, e26, (by decide : 0 + 0 ≤ _), (by decide : 0 + 0 ≤ _)⟩) (pc' := 47) rfl ?_
 rintro _ _ ⟨T27, L27, k27, n27⟩ X27 ⟨Lc27, hQ27, l27, y27, z27⟩
 dsimp only [Pt.U, Pt.locs, Pt.cells, Pt.slots] at X27 l27 y27 z27 hQ27 ⊢
 subst l27 y27 z27
 obtain ⟨rfl, N27q, e27⟩ := hQ27
 have N28 := Fr.app N0 N27q
 show Runs _ _ _ _ (T27.setTop (mkF m 47 #[.val (.ref a0), .val (.ref a1), .val (.ref a1)] [(.int (1 : Int32))]))
 refine w_ifN X27 hx (d6_47 hby) (feq (by decide : ¬ ((1 : Int32) = (0 : Int32)))).1 (pc' := 50) rfl ?_
 refine w_iconst X27 hx (d6_50 hby) (v := (1 : Int32)) rfl (pc' := 51) rfl ?_
 refine w_goto X27 hx (d6_51 hby) (pc' := 55) (by decide) (by decide) ?_
 exact w_done X27 hlk (v := some (.int (1 : Int32))) e27 (fun h => by rw [hret] at h; cases h) (fun fs hr => retN X27 hx (t := .boolean) hret (by simp) (d6_55 hby) hr) (by decide) (by decide) (⟨rfl, N28, rfl⟩)
theorem ef_m5_42 (m : MethodId) (a0 : Addr)  : entryFrame m #[(.ref a0)] 1 = mkF m 0 #[.val (.ref a0)] [] := by first | (simp [entryFrame, mkF, argsToLocals, Value.category]; done) | rfl
def Q_m5_42 (Z : State) (a0 : Addr) (jj0 : Addr) (jj1 : ClassId) (jj2 : Int32) (jj3 : Int32) (jj4 : Int32) (h0 : Heap) (n0 : Nat) (v : Option Value) (h : Heap) (L : List Loc) (S : Addr → Prop) : Prop := v = some (.int (1 : Int32)) ∧ Fr n0 L ∧ Keep h0 h []
theorem rm_m5_42 (l : Launch) (Z : State) (aZ : Array Value) (hw : ∀ d ∈ tables_1, d.before aZ Z = true) (ws : List Jvm.Cond) (a0 : Addr) (jj0 : Addr) (jj1 : ClassId) (jj2 : Int32) (jj3 : Int32) (jj4 : Int32) (h0 : Heap) (n0 : Nat) (Z0 : n0 ≤ h0.size) (E_a0 : Exa Z h0 a0 kc0) (hP_1 : ¬ (jj4 = (0 : Int32))) (zz5 : Fld Z h0 a0 kc0 "coder" "B" (.int (0 : Int32))) (zz6 : Fld Z h0 a0 kc0 "value" "[B" (.ref jj0)) (zz7 : Arv Z h0 jj0 jj1 .byte (2 : Int32) [(.int jj2), (.int jj3)] (.int (0 : Int32))) (zz8 : Sta Z Z.heap kc0 "COMPACT_STRINGS" "Z" (.int jj4)) (O0 : Old Z n0 h0) (hP_7 : jj2 = (46 : Int32)) (hP_8 : jj3 = (46 : Int32)) :
    MetH l Z EL yn_5 prog_59_method_10_code 1 (some .boolean) ws ({ frames := 2, cells := 4, slots := 20, locals := 28 } : Room) #[(.ref a0)] h0 (Q_m5_42 Z a0 jj0 jj1 jj2 jj3 jj4 h0 n0) [a0] := by
 refine MetH.of (plainFor_of_name pn_3) ?_
 intro p e s m below meth c s₁ hret hx hby hml hown hnm hlk hZ X0 e0 hh hH hsf hS0 C0
 have N0 := Fr.nil n0
 rw [ef_m5_42 m a0]
 refine w_aloadN X0 hx (d5_0 hby) rfl rfl (pc' := 1) rfl ?_
 obtain ⟨a20, T20, h20, k20, b20, c20, X20, e20, E20, hS20, hk20, hZ20, hown20, gE20, gC20, gV20, gA20, lt20, ltb20, A20, -, ns20, st20⟩ := ldcCH X0 hx hZ hown (wd_32 hw) (own_wS hw) e0 hS0 (Nat.le_refl _) (own_EW hw) (by simp [EL]) C0.1 (vs := [(.int (46 : Int32))]) (z := (1 : Int32)) (by decide +kernel) (by decide) (by decide) (g := (mkF m 1 #[.val (.ref a0)] [(.ref a0)])) rfl (d5_1 hby) (n := 4) (by decide +kernel) (by decide) (by decide) (by decide)
 refine Runs.by ?_ st20
 have C21 : CHr Z EL s.vm h0 T20.vm h20 := C0.trans A20
 have K22 : Keep h0 h20 [] := (Keep.refl h0 []).ext E20
 show Runs _ _ _ _ (T20.setTop (mkF m 3 #[.val (.ref a0)] [(.ref a20), (.ref a0)]))
 have f39 : Old Z n0 h20 := (O0.ext E20)
 have f40 : Fld Z h20 a0 kc0 "coder" "B" (.int (0 : Int32)) := (zz5.ext E20)
 have f41 : Fld Z h20 a0 kc0 "value" "[B" (.ref jj0) := (zz6.ext E20)
 have f42 : Arv Z h20 jj0 jj1 .byte (2 : Int32) [(.int jj2), (.int jj3)] (.int (0 : Int32)) := (zz7.ext E20)
 have ne43 : a0 ≠ a20 := (ns20 a0 (CHr.safe A20 (Nat.lt_of_lt_of_le zz5.lt (Nat.le_refl _)) (hsf a0 (by simp)))).1
 have f45 : Exa Z h20 a0 kc0 := (E_a0.ext E20)
 obtain ⟨cq44, kq44, q44a, q44b, q44c⟩ := isOf hZ20 e20 f45
 refine w_virtual X20 hx (y := yn_6) (z := yn_6) hown20 (mvT hZ20 (wd_33 hw)) (mvT hZ20 (wd_34 hw)) (notFace_of_selects (args := #[]) (mvT hZ20 (wd_36 hw))) (mvT hZ20 (wd_36 hw)) (mvT hZ20 (wd_35 hw)) (by decide) (backOf (W := 0) (rm_m6_43 l Z aZ hw [] a0 a20 jj4 jj0 b20 jj1 jj2 jj3 c20 h20 n0 (Nat.le_trans Z0 E20.1) ne43 gE20 zz8 f39 hP_1 f40 gC20 f41 gV20 f42 gA20) hZ20 (wd_37 hw) (wd_9 hw) (by decide) (by decide)) q44a q44c (by rw [hml]; rfl) [(.ref a20)] (lenOf pd_4 rfl) rfl (Nat.le_of_eq rfl) (d5_3 hby) (fun _ _ => ⟨rfl, e20, (by decide : 2 + 0 ≤ _), (by decide : 8 + 0 ≤ _)⟩) (pc' := 6) rfl ?_
 rintro _ _ ⟨T44, L44, k44, n44⟩ X44 ⟨Lc44, hQ44, l44, y44, z44⟩
 dsimp only [Pt.U, Pt.locs, Pt.cells, Pt.slots] at X44 l44 y44 z44 hQ44 ⊢
 subst l44 y44 z44
 obtain ⟨rfl, N44q, e44⟩ := hQ44
 have N46 := Fr.app N0 N44q
 show Runs _ _ _ _ (T44.setTop (mkF m 6 #[.val (.ref a0)] [(.int (0 : Int32))]))
 refine w_ifN X44 hx (d5_6 hby) (teq (by decide : (0 : Int32) = (0 : Int32))).2 (pc' := 9) rfl ?_
 refine w_aloadN X44 hx (d5_9 hby) rfl rfl (pc' := 10) rfl ?_
 obtain ⟨a47, T47, h47, k47, b47, c47, X47, e47, E47, hS47, hk47, hZ47, hown47, gE47, gC47, gV47, gA47, lt47, ltb47, A47, -, ns47, st47⟩ := ldcCH X44 hx hZ20 hown20 (wd_44 hw) (own_wS hw) e44 hS20 hk20 (own_EW hw) (by simp [EL]) C21.1 (vs := [(.int (46 : Int32)), (.int (46 : Int32))]) (z := (2 : Int32)) (by decide +kernel) (by decide) (by decide) (g := (mkF m 10 #[.val (.ref a0)] [(.ref a0)])) rfl (d5_10 hby) (n := 8) (by decide +kernel) (by decide) (by decide) (by decide)
 refine Runs.by ?_ st47
 have C48 : CHr Z EL s.vm h0 T47.vm h47 := C21.trans A47
 have K49 : Keep h0 h47 [] := K22.ext E47
 show Runs _ _ _ _ (T47.setTop (mkF m 12 #[.val (.ref a0)] [(.ref a47), (.ref a0)]))
 have f70 : Old Z n0 h47 := (f39.ext E47)
 have f71 : Fld Z h47 a0 kc0 "coder" "B" (.int (0 : Int32)) := (f40.ext E47)
 have f72 : Fld Z h47 a0 kc0 "value" "[B" (.ref jj0) := (f41.ext E47)
 have f73 : Arv Z h47 jj0 jj1 .byte (2 : Int32) [(.int jj2), (.int jj3)] (.int (0 : Int32)) := (f42.ext E47)
 have ne74 : a0 ≠ a47 := (ns47 a0 (CHr.safe A47 (Nat.lt_of_lt_of_le zz5.lt E20.1) (CHr.safe A20 (Nat.lt_of_lt_of_le zz5.lt (Nat.le_refl _)) (hsf a0 (by simp))))).1
 have le75 : h0.size ≤ h47.size := (Nat.le_trans E20.1 E47.1)
 have f77 : Exa Z h47 a0 kc0 := (f45.ext E47)
 obtain ⟨cq76, kq76, q76a, q76b, q76c⟩ := isOf hZ47 e47 f77
 refine w_virtual X47 hx (y := yn_6) (z := yn_6) hown47 (mvT hZ47 (wd_33 hw)) (mvT hZ47 (wd_34 hw)) (notFace_of_selects (args := #[]) (mvT hZ47 (wd_36 hw))) (mvT hZ47 (wd_36 hw)) (mvT hZ47 (wd_35 hw)) (by decide) (backOf (W := 0) (rm_m6_45 l Z aZ hw [] a0 a47 jj4 jj0 b47 jj1 jj2 jj3 c47 h47 n0 (Nat.le_trans Z0 le75) ne74 gE47 zz8 f70 hP_1 f71 gC47 f72 gV47 f73 gA47 hP_7 hP_8) hZ47 (wd_37 hw) (wd_9 hw) (by decide) (by decide)) q76a q76c (by rw [hml]; rfl) [(.ref a47)] (lenOf pd_4 rfl) rfl (Nat.le_of_eq rfl) (d5_12 hby) (fun _ _ => ⟨rfl, e47, (by decide : 4 + 0 ≤ _), (by decide : 20 + 0 ≤ _)⟩) (pc' := 15) rfl ?_
 rintro _ _ ⟨T76, L76, k76, n76⟩ X76 ⟨Lc76, hQ76, l76, y76, z76⟩
 dsimp only [Pt.U, Pt.locs, Pt.cells, Pt.slots] at X76 l76 y76 z76 hQ76 ⊢
 subst l76 y76 z76
 obtain ⟨rfl, N76q, e76⟩ := hQ76
 have N78 := Fr.app N46 N76q
 show Runs _ _ _ _ (T76.setTop (mkF m 15 #[.val (.ref a0)] [(.int (1 : Int32))]))
 refine w_ifN X76 hx (d5_15 hby) (feq (by decide : ¬ ((1 : Int32) = (0 : Int32)))).1 (pc' := 18) rfl ?_
 refine w_iconst X76 hx (d5_18 hby) (v := (1 : Int32)) rfl (pc' := 19) rfl ?_
 refine w_goto X76 hx (d5_19 hby) (pc' := 23) (by decide) (by decide) ?_
 exact w_doneH X76 hlk (v := some (.int (1 : Int32))) e76 hh hZ47 (own_EW hw) hS47 hk47 C48 (fun h => by rw [hret] at h; cases h) (fun fs hr => retN X76 hx (t := .boolean) hret (by simp) (d5_23 hby) hr) (by decide) (by decide) (fun hsy => ⟨rfl, N78, K49⟩)
theorem ef_m7_49 (m : MethodId) (a0 : Addr) (a1 : Addr)  : entryFrame m #[(.ref a0), (.ref a1)] 3 = mkF m 0 #[.val (.ref a0), .val (.ref a1), .unset] [] := by first | (simp [entryFrame, mkF, argsToLocals, Value.category]; done) | rfl
def Q_m7_49 (Z : State) (a0 : Addr) (a1 : Addr) (k_a0 : ClassId) (jj0 : Int32) (jj1 : Int32) (k_a1 : ClassId) (h0 : Heap) (n0 : Nat) (v : Option Value) (h : Heap) (L : List Loc) : Prop := v = some (.int (0 : Int32)) ∧ Fr n0 L ∧ h = h0
theorem rm_m7_49 (l : Launch) (Z : State) (aZ : Array Value) (hw : ∀ d ∈ tables_1, d.before aZ Z = true) (ws : List Jvm.Cond) (a0 : Addr) (a1 : Addr) (k_a0 : ClassId) (jj0 : Int32) (jj1 : Int32) (k_a1 : ClassId) (h0 : Heap) (n0 : Nat) (Z0 : n0 ≤ h0.size) (V_a0 : Arv Z h0 a0 k_a0 .byte (2 : Int32) [(.int jj0), (.int jj1)] (.int (0 : Int32))) (V_a1 : Arv Z h0 a1 k_a1 .byte (2 : Int32) [(.int (46 : Int32)), (.int (46 : Int32))] (.int (0 : Int32))) (hP_2 : jj0 = (46 : Int32)) (hP_3 : ¬ (jj1 = (46 : Int32))) :
    MetN l Z yn_7 jdk_43_method_13_code 3 (some .boolean) ws ({ frames := 0, cells := 0, slots := 0, locals := 0 } : Room) #[(.ref a0), (.ref a1)] h0 (Q_m7_49 Z a0 a1 k_a0 jj0 jj1 k_a1 h0 n0) := by
 refine MetN.of (plainFor_of_name pn_2) ?_
 intro p e s m below meth c s₁ hret hx hby hml hown hnm hlk hZ X0 e0
 have N0 := Fr.nil n0
 rw [ef_m7_49 m a0 a1]
 refine w_aloadN X0 hx (d7_0 hby) rfl rfl (pc' := 1) rfl ?_
 refine w_alen X0 hx hZ e0 V_a0 (d7_1 hby) (pc' := 2) rfl ?_
 refine w_aloadN X0 hx (d7_2 hby) rfl rfl (pc' := 3) rfl ?_
 refine w_alen X0 hx hZ e0 V_a1 (d7_3 hby) (pc' := 4) rfl ?_
 refine w_icN X0 hx (d7_4 hby) (teq (by decide : (2 : Int32) = (2 : Int32))).2 (pc' := 7) rfl ?_
 refine w_iconst X0 hx (d7_7 hby) (v := (0 : Int32)) rfl (pc' := 8) rfl ?_
 refine w_istoreN X0 hx (d7_8 hby) (L' := #[.val (.ref a0), .val (.ref a1), .val (.int (0 : Int32))]) rfl (pc' := 9) rfl ?_
 refine w_iloadN X0 hx (d7_9 hby) rfl (pc' := 10) rfl ?_
 refine w_aloadN X0 hx (d7_10 hby) rfl rfl (pc' := 11) rfl ?_
 refine w_alen X0 hx hZ e0 V_a0 (d7_11 hby) (pc' := 12) rfl ?_
 refine w_icN X0 hx (d7_12 hby) (tlt (by decide : (0 : Int32) < (2 : Int32))).2.1 (pc' := 15) rfl ?_
 refine w_aloadN X0 hx (d7_15 hby) rfl rfl (pc' := 16) rfl ?_
 refine w_iloadN X0 hx (d7_16 hby) rfl (pc' := 17) rfl ?_
 obtain ⟨clu20, Aru20, qu20, Su20, Nu20, Hu20, Gu20⟩ := id V_a0
 have hinu20 := inb_of (j := (0 : Int32)) Su20 ⟨by decide, by decide⟩
 refine w_baload X0 hx hZ e0 Aru20 hinu20 (Hu20.at hinu20 rfl) (d7_17 hby) (pc' := 18) rfl ?_
 refine w_aloadN X0 hx (d7_18 hby) rfl rfl (pc' := 19) rfl ?_
 refine w_iloadN X0 hx (d7_19 hby) rfl (pc' := 20) rfl ?_
 obtain ⟨clu21, Aru21, qu21, Su21, Nu21, Hu21, Gu21⟩ := id V_a1
 have hinu21 := inb_of (j := (0 : Int32)) Su21 ⟨by decide, by decide⟩
 refine w_baload X0 hx hZ e0 Aru21 hinu21 (Hu21.at hinu21 rfl) (d7_20 hby) (pc' := 21) rfl ?_
 refine w_icY X0 hx (d7_21 hby) (teq hP_2).1 (pc' := 26) (by decide) (by decide) ?_
 refine w_iinc X0 hx (d7_26 hby) (v := (1 : Int32)) rfl rfl (L' := #[.val (.ref a0), .val (.ref a1), .val (.int ((0 : Int32) + (1 : Int32)))]) rfl (pc' := 29) rfl ?_
 rw [show ((0 : Int32) + (1 : Int32)) = (1 : Int32) from by decide]
 refine w_goto X0 hx (d7_29 hby) (pc' := 9) (by decide) (by decide) ?_
 refine w_iloadN X0 hx (d7_9 hby) rfl (pc' := 10) rfl ?_
 refine w_aloadN X0 hx (d7_10 hby) rfl rfl (pc' := 11) rfl ?_
 refine w_alen X0 hx hZ e0 V_a0 (d7_11 hby) (pc' := 12) rfl ?_
 refine w_icN X0 hx (d7_12 hby) (tlt (by decide : (1 : Int32) < (2 : Int32))).2.1 (pc' := 15) rfl ?_
 refine w_aloadN X0 hx (d7_15 hby) rfl rfl (pc' := 16) rfl ?_
 refine w_iloadN X0 hx (d7_16 hby) rfl (pc' := 17) rfl ?_
 obtain ⟨clu22, Aru22, qu22, Su22, Nu22, Hu22, Gu22⟩ := id V_a0
 have hinu22 := inb_of (j := (1 : Int32)) Su22 ⟨by decide, by decide⟩
 refine w_baload X0 hx hZ e0 Aru22 hinu22 (Hu22.at hinu22 rfl) (d7_17 hby) (pc' := 18) rfl ?_
 refine w_aloadN X0 hx (d7_18 hby) rfl rfl (pc' := 19) rfl ?_
 refine w_iloadN X0 hx (d7_19 hby) rfl (pc' := 20) rfl ?_
 obtain ⟨clu23, Aru23, qu23, Su23, Nu23, Hu23, Gu23⟩ := id V_a1
 have hinu23 := inb_of (j := (1 : Int32)) Su23 ⟨by decide, by decide⟩
 refine w_baload X0 hx hZ e0 Aru23 hinu23 (Hu23.at hinu23 rfl) (d7_20 hby) (pc' := 21) rfl ?_
 refine w_icN X0 hx (d7_21 hby) (feq hP_3).1 (pc' := 24) rfl ?_
 refine w_iconst X0 hx (d7_24 hby) (v := (0 : Int32)) rfl (pc' := 25) rfl ?_
 exact w_done X0 hlk (v := some (.int (0 : Int32))) e0 (fun h => by rw [hret] at h; cases h) (fun fs hr => retN X0 hx (t := .boolean) hret (by simp) (d7_25 hby) hr) (by decide) (by decide) (⟨rfl, N0, rfl⟩)
theorem ef_m6_48 (m : MethodId) (a0 : Addr) (a1 : Addr)  : entryFrame m #[(.ref a0), (.ref a1)] 3 = mkF m 0 #[.val (.ref a0), .val (.ref a1), .unset] [] := by first | (simp [entryFrame, mkF, argsToLocals, Value.category]; done) | rfl
def Q_m6_48 (Z : State) (a0 : Addr) (a1 : Addr) (jj0 : Int32) (jj1 : Addr) (jj2 : Addr) (jj3 : ClassId) (jj4 : Int32) (jj5 : Int32) (jj6 : ClassId) (h0 : Heap) (n0 : Nat) (v : Option Value) (h : Heap) (L : List Loc) : Prop := v = some (.int (0 : Int32)) ∧ Fr n0 L ∧ h = h0
theorem rm_m6_48 (l : Launch) (Z : State) (aZ : Array Value) (hw : ∀ d ∈ tables_1, d.before aZ Z = true) (ws : List Jvm.Cond) (a0 : Addr) (a1 : Addr) (jj0 : Int32) (jj1 : Addr) (jj2 : Addr) (jj3 : ClassId) (jj4 : Int32) (jj5 : Int32) (jj6 : ClassId) (h0 : Heap) (n0 : Nat) (Z0 : n0 ≤ h0.size) (zz7 : a0 ≠ a1) (E_a1 : Exa Z h0 a1 kc0) (zz8 : Sta Z Z.heap kc0 "COMPACT_STRINGS" "Z" (.int jj0)) (O0 : Old Z n0 h0) (hP_4 : ¬ (jj0 = (0 : Int32))) (zz9 : Fld Z h0 a0 kc0 "coder" "B" (.int (0 : Int32))) (zz10 : Fld Z h0 a1 kc0 "coder" "B" (.int (0 : Int32))) (zz11 : Fld Z h0 a0 kc0 "value" "[B" (.ref jj1)) (zz12 : Fld Z h0 a1 kc0 "value" "[B" (.ref jj2)) (zz13 : Arv Z h0 jj1 jj3 .byte (2 : Int32) [(.int jj4), (.int jj5)] (.int (0 : Int32))) (zz14 : Arv Z h0 jj2 jj6 .byte (2 : Int32) [(.int (46 : Int32)), (.int (46 : Int32))] (.int (0 : Int32))) (zz15 : jj4 = (46 : Int32)) (zz16 : ¬ (jj5 = (46 : Int32))) :
    MetN l Z yn_6 jdk_42_method_66_code 3 (some .boolean) ws ({ frames := 1, cells := 0, slots := 0, locals := 14 } : Room) #[(.ref a0), (.ref a1)] h0 (Q_m6_48 Z a0 a1 jj0 jj1 jj2 jj3 jj4 jj5 jj6 h0 n0) := by
 refine MetN.of (plainFor_of_name pn_1) ?_
 intro p e s m below meth c s₁ hret hx hby hml hown hnm hlk hZ X0 e0
 have N0 := Fr.nil n0
 rw [ef_m6_48 m a0 a1]
 refine w_aloadN X0 hx (d6_0 hby) rfl rfl (pc' := 1) rfl ?_
 refine w_aloadN X0 hx (d6_1 hby) rfl rfl (pc' := 2) rfl ?_
 refine w_acmp X0 hx (d6_2 hby) (same := false) rfl rfl (decide_eq_false fun q => zz7 (Value.ref.inj q)) (pc' := 7) (by decide) (by decide) ?_
 refine w_aloadN X0 hx (d6_7 hby) rfl rfl (pc' := 8) rfl ?_
 refine w_instY X0 hx hZ hown (wd_38 hw) e0 (Ins.self E_a1) (d6_8 hby) (pc' := 11) rfl ?_
 intro T20 X20 e20
 refine w_ifN X20 hx (d6_11 hby) (feq (by decide : ¬ ((1 : Int32) = (0 : Int32)))).1 (pc' := 14) rfl ?_
 refine w_aloadN X20 hx (d6_14 hby) rfl rfl (pc' := 15) rfl ?_
 refine w_castY X20 hx hZ hown (wd_38 hw) e20 (Ins.self E_a1) (d6_15 hby) (pc' := 18) rfl ?_
 intro T21 X21 e21
 refine w_astoreN X21 hx (d6_18 hby) rfl (L' := #[.val (.ref a0), .val (.ref a1), .val (.ref a1)]) rfl (pc' := 19) rfl ?_
 refine w_getS X21 hx "" hZ hown (Or.inl (wd_39 hw)) Via.refl e21 (zz8.ext O0.2) (d6_19 hby) (pc' := 22) rfl ?_
 intro T22 X22 e22
 refine w_ifN X22 hx (d6_22 hby) (feq hP_4).1 (pc' := 25) rfl ?_
 refine w_aloadN X22 hx (d6_25 hby) rfl rfl (pc' := 26) rfl ?_
 refine w_getF X22 hx "" hZ hown (Or.inl (wd_27 hw)) Via.refl e22 zz9 (d6_26 hby) (pc' := 29) rfl ?_
 intro T23 X23 e23
 refine w_aloadN X23 hx (d6_29 hby) rfl rfl (pc' := 30) rfl ?_
 refine w_getF X23 hx "" hZ hown (Or.inl (wd_27 hw)) Via.refl e23 zz10 (d6_30 hby) (pc' := 33) rfl ?_
 intro T24 X24 e24
 refine w_icN X24 hx (d6_33 hby) (teq (by decide : (0 : Int32) = (0 : Int32))).2 (pc' := 36) rfl ?_
 refine w_aloadN X24 hx (d6_36 hby) rfl rfl (pc' := 37) rfl ?_
 refine w_getF X24 hx "" hZ hown (Or.inl (wd_26 hw)) Via.refl e24 zz11 (d6_37 hby) (pc' := 40) rfl ?_
 intro T25 X25 e25
 refine w_aloadN X25 hx (d6_40 hby) rfl rfl (pc' := 41) rfl ?_
 refine w_getF X25 hx "" hZ hown (Or.inl (wd_26 hw)) Via.refl e25 zz12 (d6_41 hby) (pc' := 44) rfl ?_
 intro T26 X26 e26
 refine w_static X26 hx (y := yn_7) hown (mvT hZ (wd_40 hw)) (mvT hZ (wd_41 hw)) (mvT hZ (wd_42 hw)) (mvT hZ (wd_43 hw)) (by decide) (backOf (W := 0) (rm_m7_49 l Z aZ hw [] jj1 jj2 jj3 jj4 jj5 jj6 h0 n0 Z0 zz13 zz14 zz15 zz16) hZ (wd_43 hw) (wd_42 hw) (by decide) (by decide)) (by rw [hml]; rfl) [(.ref jj1), (.ref jj2)] (lenOf pd_3 rfl) rfl (Nat.le_of_eq rfl) (d6_44 hby) (fun _ _ => ⟨rfl, e26, (by decide : 0 + 0 ≤ _), (by decide : 0 + 0 ≤ _)⟩) (pc' := 47) rfl ?_
 rintro _ _ ⟨T27, L27, k27, n27⟩ X27 ⟨Lc27, hQ27, l27, y27, z27⟩
 dsimp only [Pt.U, Pt.locs, Pt.cells, Pt.slots] at X27 l27 y27 z27 hQ27 ⊢
 subst l27 y27 z27
 obtain ⟨rfl, N27q, e27⟩ := hQ27
 have N28 := Fr.app N0 N27q
 show Runs _ _ _ _ (T27.setTop (mkF m 47 #[.val (.ref a0), .val (.ref a1), .val (.ref a1)] [(.int (0 : Int32))]))
 refine w_ifY X27 hx (d6_47 hby) (teq (by decide : (0 : Int32) = (0 : Int32))).1 (pc' := 54) (by decide) (by decide) ?_
 refine w_iconst X27 hx (d6_54 hby) (v := (0 : Int32)) rfl (pc' := 55) rfl ?_
 exact w_done X27 hlk (v := some (.int (0 : Int32))) e27 (fun h => by rw [hret] at h; cases h) (fun fs hr => retN X27 hx (t := .boolean) hret (by simp) (d6_55 hby) hr) (by decide) (by decide) (⟨rfl, N28, rfl⟩)
theorem ef_m5_47 (m : MethodId) (a0 : Addr)  : entryFrame m #[(.ref a0)] 1 = mkF m 0 #[.val (.ref a0)] [] := by first | (simp [entryFrame, mkF, argsToLocals, Value.category]; done) | rfl
def Q_m5_47 (Z : State) (a0 : Addr) (jj0 : Int32) (jj1 : Addr) (jj2 : ClassId) (jj3 : Int32) (jj4 : Int32) (h0 : Heap) (n0 : Nat) (v : Option Value) (h : Heap) (L : List Loc) (S : Addr → Prop) : Prop := v = some (.int (0 : Int32)) ∧ Fr n0 L ∧ Keep h0 h []
theorem rm_m5_47 (l : Launch) (Z : State) (aZ : Array Value) (hw : ∀ d ∈ tables_1, d.before aZ Z = true) (ws : List Jvm.Cond) (a0 : Addr) (jj0 : Int32) (jj1 : Addr) (jj2 : ClassId) (jj3 : Int32) (jj4 : Int32) (h0 : Heap) (n0 : Nat) (Z0 : n0 ≤ h0.size) (E_a0 : Exa Z h0 a0 kc0) (zz5 : Sta Z Z.heap kc0 "COMPACT_STRINGS" "Z" (.int jj0)) (O0 : Old Z n0 h0) (zz6 : Fld Z h0 a0 kc0 "coder" "B" (.int (0 : Int32))) (zz7 : Fld Z h0 a0 kc0 "value" "[B" (.ref jj1)) (zz8 : Arv Z h0 jj1 jj2 .byte (2 : Int32) [(.int jj3), (.int jj4)] (.int (0 : Int32))) (hP_6 : ¬ (jj0 = (0 : Int32))) (hP_7 : jj3 = (46 : Int32)) (hP_8 : ¬ (jj4 = (46 : Int32))) :
    MetH l Z EL yn_5 prog_59_method_10_code 1 (some .boolean) ws ({ frames := 2, cells := 4, slots := 20, locals := 28 } : Room) #[(.ref a0)] h0 (Q_m5_47 Z a0 jj0 jj1 jj2 jj3 jj4 h0 n0) [a0] := by
 refine MetH.of (plainFor_of_name pn_3) ?_
 intro p e s m below meth c s₁ hret hx hby hml hown hnm hlk hZ X0 e0 hh hH hsf hS0 C0
 have N0 := Fr.nil n0
 rw [ef_m5_47 m a0]
 refine w_aloadN X0 hx (d5_0 hby) rfl rfl (pc' := 1) rfl ?_
 obtain ⟨a20, T20, h20, k20, b20, c20, X20, e20, E20, hS20, hk20, hZ20, hown20, gE20, gC20, gV20, gA20, lt20, ltb20, A20, -, ns20, st20⟩ := ldcCH X0 hx hZ hown (wd_32 hw) (own_wS hw) e0 hS0 (Nat.le_refl _) (own_EW hw) (by simp [EL]) C0.1 (vs := [(.int (46 : Int32))]) (z := (1 : Int32)) (by decide +kernel) (by decide) (by decide) (g := (mkF m 1 #[.val (.ref a0)] [(.ref a0)])) rfl (d5_1 hby) (n := 4) (by decide +kernel) (by decide) (by decide) (by decide)
 refine Runs.by ?_ st20
 have C21 : CHr Z EL s.vm h0 T20.vm h20 := C0.trans A20
 have K22 : Keep h0 h20 [] := (Keep.refl h0 []).ext E20
 show Runs _ _ _ _ (T20.setTop (mkF m 3 #[.val (.ref a0)] [(.ref a20), (.ref a0)]))
 have f39 : Old Z n0 h20 := (O0.ext E20)
 have f40 : Fld Z h20 a0 kc0 "coder" "B" (.int (0 : Int32)) := (zz6.ext E20)
 have f41 : Fld Z h20 a0 kc0 "value" "[B" (.ref jj1) := (zz7.ext E20)
 have f42 : Arv Z h20 jj1 jj2 .byte (2 : Int32) [(.int jj3), (.int jj4)] (.int (0 : Int32)) := (zz8.ext E20)
 have ne43 : a0 ≠ a20 := (ns20 a0 (CHr.safe A20 (Nat.lt_of_lt_of_le zz6.lt (Nat.le_refl _)) (hsf a0 (by simp)))).1
 have f45 : Exa Z h20 a0 kc0 := (E_a0.ext E20)
 obtain ⟨cq44, kq44, q44a, q44b, q44c⟩ := isOf hZ20 e20 f45
 refine w_virtual X20 hx (y := yn_6) (z := yn_6) hown20 (mvT hZ20 (wd_33 hw)) (mvT hZ20 (wd_34 hw)) (notFace_of_selects (args := #[]) (mvT hZ20 (wd_36 hw))) (mvT hZ20 (wd_36 hw)) (mvT hZ20 (wd_35 hw)) (by decide) (backOf (W := 0) (rm_m6_43 l Z aZ hw [] a0 a20 jj0 jj1 b20 jj2 jj3 jj4 c20 h20 n0 (Nat.le_trans Z0 E20.1) ne43 gE20 zz5 f39 hP_6 f40 gC20 f41 gV20 f42 gA20) hZ20 (wd_37 hw) (wd_9 hw) (by decide) (by decide)) q44a q44c (by rw [hml]; rfl) [(.ref a20)] (lenOf pd_4 rfl) rfl (Nat.le_of_eq rfl) (d5_3 hby) (fun _ _ => ⟨rfl, e20, (by decide : 2 + 0 ≤ _), (by decide : 8 + 0 ≤ _)⟩) (pc' := 6) rfl ?_
 rintro _ _ ⟨T44, L44, k44, n44⟩ X44 ⟨Lc44, hQ44, l44, y44, z44⟩
 dsimp only [Pt.U, Pt.locs, Pt.cells, Pt.slots] at X44 l44 y44 z44 hQ44 ⊢
 subst l44 y44 z44
 obtain ⟨rfl, N44q, e44⟩ := hQ44
 have N46 := Fr.app N0 N44q
 show Runs _ _ _ _ (T44.setTop (mkF m 6 #[.val (.ref a0)] [(.int (0 : Int32))]))
 refine w_ifN X44 hx (d5_6 hby) (teq (by decide : (0 : Int32) = (0 : Int32))).2 (pc' := 9) rfl ?_
 refine w_aloadN X44 hx (d5_9 hby) rfl rfl (pc' := 10) rfl ?_
 obtain ⟨a47, T47, h47, k47, b47, c47, X47, e47, E47, hS47, hk47, hZ47, hown47, gE47, gC47, gV47, gA47, lt47, ltb47, A47, -, ns47, st47⟩ := ldcCH X44 hx hZ20 hown20 (wd_44 hw) (own_wS hw) e44 hS20 hk20 (own_EW hw) (by simp [EL]) C21.1 (vs := [(.int (46 : Int32)), (.int (46 : Int32))]) (z := (2 : Int32)) (by decide +kernel) (by decide) (by decide) (g := (mkF m 10 #[.val (.ref a0)] [(.ref a0)])) rfl (d5_10 hby) (n := 8) (by decide +kernel) (by decide) (by decide) (by decide)
 refine Runs.by ?_ st47
 have C48 : CHr Z EL s.vm h0 T47.vm h47 := C21.trans A47
 have K49 : Keep h0 h47 [] := K22.ext E47
 show Runs _ _ _ _ (T47.setTop (mkF m 12 #[.val (.ref a0)] [(.ref a47), (.ref a0)]))
 have f75 : Old Z n0 h47 := (f39.ext E47)
 have f76 : Fld Z h47 a0 kc0 "coder" "B" (.int (0 : Int32)) := (f40.ext E47)
 have f77 : Fld Z h47 a0 kc0 "value" "[B" (.ref jj1) := (f41.ext E47)
 have f78 : Arv Z h47 jj1 jj2 .byte (2 : Int32) [(.int jj3), (.int jj4)] (.int (0 : Int32)) := (f42.ext E47)
 have ne79 : a0 ≠ a47 := (ns47 a0 (CHr.safe A47 (Nat.lt_of_lt_of_le zz6.lt E20.1) (CHr.safe A20 (Nat.lt_of_lt_of_le zz6.lt (Nat.le_refl _)) (hsf a0 (by simp))))).1
 have le80 : h0.size ≤ h47.size := (Nat.le_trans E20.1 E47.1)
 have f82 : Exa Z h47 a0 kc0 := (f45.ext E47)
 obtain ⟨cq81, kq81, q81a, q81b, q81c⟩ := isOf hZ47 e47 f82
 refine w_virtual X47 hx (y := yn_6) (z := yn_6) hown47 (mvT hZ47 (wd_33 hw)) (mvT hZ47 (wd_34 hw)) (notFace_of_selects (args := #[]) (mvT hZ47 (wd_36 hw))) (mvT hZ47 (wd_36 hw)) (mvT hZ47 (wd_35 hw)) (by decide) (backOf (W := 0) (rm_m6_48 l Z aZ hw [] a0 a47 jj0 jj1 b47 jj2 jj3 jj4 c47 h47 n0 (Nat.le_trans Z0 le80) ne79 gE47 zz5 f75 hP_6 f76 gC47 f77 gV47 f78 gA47 hP_7 hP_8) hZ47 (wd_37 hw) (wd_9 hw) (by decide) (by decide)) q81a q81c (by rw [hml]; rfl) [(.ref a47)] (lenOf pd_4 rfl) rfl (Nat.le_of_eq rfl) (d5_12 hby) (fun _ _ => ⟨rfl, e47, (by decide : 4 + 0 ≤ _), (by decide : 20 + 0 ≤ _)⟩) (pc' := 15) rfl ?_
 rintro _ _ ⟨T81, L81, k81, n81⟩ X81 ⟨Lc81, hQ81, l81, y81, z81⟩
 dsimp only [Pt.U, Pt.locs, Pt.cells, Pt.slots] at X81 l81 y81 z81 hQ81 ⊢
 subst l81 y81 z81
 obtain ⟨rfl, N81q, e81⟩ := hQ81
 have N83 := Fr.app N46 N81q
 show Runs _ _ _ _ (T81.setTop (mkF m 15 #[.val (.ref a0)] [(.int (0 : Int32))]))
 refine w_ifY X81 hx (d5_15 hby) (teq (by decide : (0 : Int32) = (0 : Int32))).1 (pc' := 22) (by decide) (by decide) ?_
 refine w_iconst X81 hx (d5_22 hby) (v := (0 : Int32)) rfl (pc' := 23) rfl ?_
 exact w_doneH X81 hlk (v := some (.int (0 : Int32))) e81 hh hZ47 (own_EW hw) hS47 hk47 C48 (fun h => by rw [hret] at h; cases h) (fun fs hr => retN X81 hx (t := .boolean) hret (by simp) (d5_23 hby) hr) (by decide) (by decide) (fun hsy => ⟨rfl, N83, K49⟩)
theorem ef_m7_52 (m : MethodId) (a0 : Addr) (a1 : Addr)  : entryFrame m #[(.ref a0), (.ref a1)] 3 = mkF m 0 #[.val (.ref a0), .val (.ref a1), .unset] [] := by first | (simp [entryFrame, mkF, argsToLocals, Value.category]; done) | rfl
def Q_m7_52 (Z : State) (a0 : Addr) (a1 : Addr) (k_a0 : ClassId) (jj0 : Int32) (jj1 : Int32) (k_a1 : ClassId) (h0 : Heap) (n0 : Nat) (v : Option Value) (h : Heap) (L : List Loc) : Prop := v = some (.int (0 : Int32)) ∧ Fr n0 L ∧ h = h0
theorem rm_m7_52 (l : Launch) (Z : State) (aZ : Array Value) (hw : ∀ d ∈ tables_1, d.before aZ Z = true) (ws : List Jvm.Cond) (a0 : Addr) (a1 : Addr) (k_a0 : ClassId) (jj0 : Int32) (jj1 : Int32) (k_a1 : ClassId) (h0 : Heap) (n0 : Nat) (Z0 : n0 ≤ h0.size) (V_a0 : Arv Z h0 a0 k_a0 .byte (2 : Int32) [(.int jj0), (.int jj1)] (.int (0 : Int32))) (V_a1 : Arv Z h0 a1 k_a1 .byte (2 : Int32) [(.int (46 : Int32)), (.int (46 : Int32))] (.int (0 : Int32))) (hP_2 : ¬ (jj0 = (46 : Int32))) :
    MetN l Z yn_7 jdk_43_method_13_code 3 (some .boolean) ws ({ frames := 0, cells := 0, slots := 0, locals := 0 } : Room) #[(.ref a0), (.ref a1)] h0 (Q_m7_52 Z a0 a1 k_a0 jj0 jj1 k_a1 h0 n0) := by
 refine MetN.of (plainFor_of_name pn_2) ?_
 intro p e s m below meth c s₁ hret hx hby hml hown hnm hlk hZ X0 e0
 have N0 := Fr.nil n0
 rw [ef_m7_52 m a0 a1]
 refine w_aloadN X0 hx (d7_0 hby) rfl rfl (pc' := 1) rfl ?_
 refine w_alen X0 hx hZ e0 V_a0 (d7_1 hby) (pc' := 2) rfl ?_
 refine w_aloadN X0 hx (d7_2 hby) rfl rfl (pc' := 3) rfl ?_
 refine w_alen X0 hx hZ e0 V_a1 (d7_3 hby) (pc' := 4) rfl ?_
 refine w_icN X0 hx (d7_4 hby) (teq (by decide : (2 : Int32) = (2 : Int32))).2 (pc' := 7) rfl ?_
 refine w_iconst X0 hx (d7_7 hby) (v := (0 : Int32)) rfl (pc' := 8) rfl ?_
 refine w_istoreN X0 hx (d7_8 hby) (L' := #[.val (.ref a0), .val (.ref a1), .val (.int (0 : Int32))]) rfl (pc' := 9) rfl ?_
 refine w_iloadN X0 hx (d7_9 hby) rfl (pc' := 10) rfl ?_
 refine w_aloadN X0 hx (d7_10 hby) rfl rfl (pc' := 11) rfl ?_
 refine w_alen X0 hx hZ e0 V_a0 (d7_11 hby) (pc' := 12) rfl ?_
 refine w_icN X0 hx (d7_12 hby) (tlt (by decide : (0 : Int32) < (2 : Int32))).2.1 (pc' := 15) rfl ?_
 refine w_aloadN X0 hx (d7_15 hby) rfl rfl (pc' := 16) rfl ?_
 refine w_iloadN X0 hx (d7_16 hby) rfl (pc' := 17) rfl ?_
 obtain ⟨clu20, Aru20, qu20, Su20, Nu20, Hu20, Gu20⟩ := id V_a0
 have hinu20 := inb_of (j := (0 : Int32)) Su20 ⟨by decide, by decide⟩
 refine w_baload X0 hx hZ e0 Aru20 hinu20 (Hu20.at hinu20 rfl) (d7_17 hby) (pc' := 18) rfl ?_
 refine w_aloadN X0 hx (d7_18 hby) rfl rfl (pc' := 19) rfl ?_
 refine w_iloadN X0 hx (d7_19 hby) rfl (pc' := 20) rfl ?_
 obtain ⟨clu21, Aru21, qu21, Su21, Nu21, Hu21, Gu21⟩ := id V_a1
 have hinu21 := inb_of (j := (0 : Int32)) Su21 ⟨by decide, by decide⟩
 refine w_baload X0 hx hZ e0 Aru21 hinu21 (Hu21.at hinu21 rfl) (d7_20 hby) (pc' := 21) rfl ?_
 refine w_icN X0 hx (d7_21 hby) (feq hP_2).1 (pc' := 24) rfl ?_
 refine w_iconst X0 hx (d7_24 hby) (v := (0 : Int32)) rfl (pc' := 25) rfl ?_
 exact w_done X0 hlk (v := some (.int (0 : Int32))) e0 (fun h => by rw [hret] at h; cases h) (fun fs hr => retN X0 hx (t := .boolean) hret (by simp) (d7_25 hby) hr) (by decide) (by decide) (⟨rfl, N0, rfl⟩)
theorem ef_m6_51 (m : MethodId) (a0 : Addr) (a1 : Addr)  : entryFrame m #[(.ref a0), (.ref a1)] 3 = mkF m 0 #[.val (.ref a0), .val (.ref a1), .unset] [] := by first | (simp [entryFrame, mkF, argsToLocals, Value.category]; done) | rfl
def Q_m6_51 (Z : State) (a0 : Addr) (a1 : Addr) (jj0 : Int32) (jj1 : Addr) (jj2 : Addr) (jj3 : ClassId) (jj4 : Int32) (jj5 : Int32) (jj6 : ClassId) (h0 : Heap) (n0 : Nat) (v : Option Value) (h : Heap) (L : List Loc) : Prop := v = some (.int (0 : Int32)) ∧ Fr n0 L ∧ h = h0
theorem rm_m6_51 (l : Launch) (Z : State) (aZ : Array Value) (hw : ∀ d ∈ tables_1, d.before aZ Z = true) (ws : List Jvm.Cond) (a0 : Addr) (a1 : Addr) (jj0 : Int32) (jj1 : Addr) (jj2 : Addr) (jj3 : ClassId) (jj4 : Int32) (jj5 : Int32) (jj6 : ClassId) (h0 : Heap) (n0 : Nat) (Z0 : n0 ≤ h0.size) (zz7 : a0 ≠ a1) (E_a1 : Exa Z h0 a1 kc0) (zz8 : Sta Z Z.heap kc0 "COMPACT_STRINGS" "Z" (.int jj0)) (O0 : Old Z n0 h0) (hP_4 : ¬ (jj0 = (0 : Int32))) (zz9 : Fld Z h0 a0 kc0 "coder" "B" (.int (0 : Int32))) (zz10 : Fld Z h0 a1 kc0 "coder" "B" (.int (0 : Int32))) (zz11 : Fld Z h0 a0 kc0 "value" "[B" (.ref jj1)) (zz12 : Fld Z h0 a1 kc0 "value" "[B" (.ref jj2)) (zz13 : Arv Z h0 jj1 jj3 .byte (2 : Int32) [(.int jj4), (.int jj5)] (.int (0 : Int32))) (zz14 : Arv Z h0 jj2 jj6 .byte (2 : Int32) [(.int (46 : Int32)), (.int (46 : Int32))] (.int (0 : Int32))) (zz15 : ¬ (jj4 = (46 : Int32))) :
    MetN l Z yn_6 jdk_42_method_66_code 3 (some .boolean) ws ({ frames := 1, cells := 0, slots := 0, locals := 14 } : Room) #[(.ref a0), (.ref a1)] h0 (Q_m6_51 Z a0 a1 jj0 jj1 jj2 jj3 jj4 jj5 jj6 h0 n0) := by
 refine MetN.of (plainFor_of_name pn_1) ?_
 intro p e s m below meth c s₁ hret hx hby hml hown hnm hlk hZ X0 e0
 have N0 := Fr.nil n0
 rw [ef_m6_51 m a0 a1]
 refine w_aloadN X0 hx (d6_0 hby) rfl rfl (pc' := 1) rfl ?_
 refine w_aloadN X0 hx (d6_1 hby) rfl rfl (pc' := 2) rfl ?_
 refine w_acmp X0 hx (d6_2 hby) (same := false) rfl rfl (decide_eq_false fun q => zz7 (Value.ref.inj q)) (pc' := 7) (by decide) (by decide) ?_
 refine w_aloadN X0 hx (d6_7 hby) rfl rfl (pc' := 8) rfl ?_
 refine w_instY X0 hx hZ hown (wd_38 hw) e0 (Ins.self E_a1) (d6_8 hby) (pc' := 11) rfl ?_
 intro T20 X20 e20
 refine w_ifN X20 hx (d6_11 hby) (feq (by decide : ¬ ((1 : Int32) = (0 : Int32)))).1 (pc' := 14) rfl ?_
 refine w_aloadN X20 hx (d6_14 hby) rfl rfl (pc' := 15) rfl ?_
 refine w_castY X20 hx hZ hown (wd_38 hw) e20 (Ins.self E_a1) (d6_15 hby) (pc' := 18) rfl ?_
 intro T21 X21 e21
 refine w_astoreN X21 hx (d6_18 hby) rfl (L' := #[.val (.ref a0), .val (.ref a1), .val (.ref a1)]) rfl (pc' := 19) rfl ?_
 refine w_getS X21 hx "" hZ hown (Or.inl (wd_39 hw)) Via.refl e21 (zz8.ext O0.2) (d6_19 hby) (pc' := 22) rfl ?_
 intro T22 X22 e22
 refine w_ifN X22 hx (d6_22 hby) (feq hP_4).1 (pc' := 25) rfl ?_
 refine w_aloadN X22 hx (d6_25 hby) rfl rfl (pc' := 26) rfl ?_
 refine w_getF X22 hx "" hZ hown (Or.inl (wd_27 hw)) Via.refl e22 zz9 (d6_26 hby) (pc' := 29) rfl ?_
 intro T23 X23 e23
 refine w_aloadN X23 hx (d6_29 hby) rfl rfl (pc' := 30) rfl ?_
 refine w_getF X23 hx "" hZ hown (Or.inl (wd_27 hw)) Via.refl e23 zz10 (d6_30 hby) (pc' := 33) rfl ?_
 intro T24 X24 e24
 refine w_icN X24 hx (d6_33 hby) (teq (by decide : (0 : Int32) = (0 : Int32))).2 (pc' := 36) rfl ?_
 refine w_aloadN X24 hx (d6_36 hby) rfl rfl (pc' := 37) rfl ?_
 refine w_getF X24 hx "" hZ hown (Or.inl (wd_26 hw)) Via.refl e24 zz11 (d6_37 hby) (pc' := 40) rfl ?_
 intro T25 X25 e25
 refine w_aloadN X25 hx (d6_40 hby) rfl rfl (pc' := 41) rfl ?_
 refine w_getF X25 hx "" hZ hown (Or.inl (wd_26 hw)) Via.refl e25 zz12 (d6_41 hby) (pc' := 44) rfl ?_
 intro T26 X26 e26
 refine w_static X26 hx (y := yn_7) hown (mvT hZ (wd_40 hw)) (mvT hZ (wd_41 hw)) (mvT hZ (wd_42 hw)) (mvT hZ (wd_43 hw)) (by decide) (backOf (W := 0) (rm_m7_52 l Z aZ hw [] jj1 jj2 jj3 jj4 jj5 jj6 h0 n0 Z0 zz13 zz14 zz15) hZ (wd_43 hw) (wd_42 hw) (by decide) (by decide)) (by rw [hml]; rfl) [(.ref jj1), (.ref jj2)] (lenOf pd_3 rfl) rfl (Nat.le_of_eq rfl) (d6_44 hby) (fun _ _ => ⟨rfl, e26, (by decide : 0 + 0 ≤ _), (by decide : 0 + 0 ≤ _)⟩) (pc' := 47) rfl ?_
 rintro _ _ ⟨T27, L27, k27, n27⟩ X27 ⟨Lc27, hQ27, l27, y27, z27⟩
 dsimp only [Pt.U, Pt.locs, Pt.cells, Pt.slots] at X27 l27 y27 z27 hQ27 ⊢
 subst l27 y27 z27
 obtain ⟨rfl, N27q, e27⟩ := hQ27
 have N28 := Fr.app N0 N27q
 show Runs _ _ _ _ (T27.setTop (mkF m 47 #[.val (.ref a0), .val (.ref a1), .val (.ref a1)] [(.int (0 : Int32))]))
 refine w_ifY X27 hx (d6_47 hby) (teq (by decide : (0 : Int32) = (0 : Int32))).1 (pc' := 54) (by decide) (by decide) ?_
 refine w_iconst X27 hx (d6_54 hby) (v := (0 : Int32)) rfl (pc' := 55) rfl ?_
 exact w_done X27 hlk (v := some (.int (0 : Int32))) e27 (fun h => by rw [hret] at h; cases h) (fun fs hr => retN X27 hx (t := .boolean) hret (by simp) (d6_55 hby) hr) (by decide) (by decide) (⟨rfl, N28, rfl⟩)
theorem ef_m5_50 (m : MethodId) (a0 : Addr)  : entryFrame m #[(.ref a0)] 1 = mkF m 0 #[.val (.ref a0)] [] := by first | (simp [entryFrame, mkF, argsToLocals, Value.category]; done) | rfl
def Q_m5_50 (Z : State) (a0 : Addr) (jj0 : Int32) (jj1 : Addr) (jj2 : ClassId) (jj3 : Int32) (jj4 : Int32) (h0 : Heap) (n0 : Nat) (v : Option Value) (h : Heap) (L : List Loc) (S : Addr → Prop) : Prop := v = some (.int (0 : Int32)) ∧ Fr n0 L ∧ Keep h0 h []
theorem rm_m5_50 (l : Launch) (Z : State) (aZ : Array Value) (hw : ∀ d ∈ tables_1, d.before aZ Z = true) (ws : List Jvm.Cond) (a0 : Addr) (jj0 : Int32) (jj1 : Addr) (jj2 : ClassId) (jj3 : Int32) (jj4 : Int32) (h0 : Heap) (n0 : Nat) (Z0 : n0 ≤ h0.size) (E_a0 : Exa Z h0 a0 kc0) (zz5 : Sta Z Z.heap kc0 "COMPACT_STRINGS" "Z" (.int jj0)) (O0 : Old Z n0 h0) (zz6 : Fld Z h0 a0 kc0 "coder" "B" (.int (0 : Int32))) (zz7 : Fld Z h0 a0 kc0 "value" "[B" (.ref jj1)) (zz8 : Arv Z h0 jj1 jj2 .byte (2 : Int32) [(.int jj3), (.int jj4)] (.int (0 : Int32))) (hP_6 : ¬ (jj0 = (0 : Int32))) (hP_7 : ¬ (jj3 = (46 : Int32))) :
    MetH l Z EL yn_5 prog_59_method_10_code 1 (some .boolean) ws ({ frames := 2, cells := 4, slots := 20, locals := 28 } : Room) #[(.ref a0)] h0 (Q_m5_50 Z a0 jj0 jj1 jj2 jj3 jj4 h0 n0) [a0] := by
 refine MetH.of (plainFor_of_name pn_3) ?_
 intro p e s m below meth c s₁ hret hx hby hml hown hnm hlk hZ X0 e0 hh hH hsf hS0 C0
 have N0 := Fr.nil n0
 rw [ef_m5_50 m a0]
 refine w_aloadN X0 hx (d5_0 hby) rfl rfl (pc' := 1) rfl ?_
 obtain ⟨a20, T20, h20, k20, b20, c20, X20, e20, E20, hS20, hk20, hZ20, hown20, gE20, gC20, gV20, gA20, lt20, ltb20, A20, -, ns20, st20⟩ := ldcCH X0 hx hZ hown (wd_32 hw) (own_wS hw) e0 hS0 (Nat.le_refl _) (own_EW hw) (by simp [EL]) C0.1 (vs := [(.int (46 : Int32))]) (z := (1 : Int32)) (by decide +kernel) (by decide) (by decide) (g := (mkF m 1 #[.val (.ref a0)] [(.ref a0)])) rfl (d5_1 hby) (n := 4) (by decide +kernel) (by decide) (by decide) (by decide)
 refine Runs.by ?_ st20
 have C21 : CHr Z EL s.vm h0 T20.vm h20 := C0.trans A20
 have K22 : Keep h0 h20 [] := (Keep.refl h0 []).ext E20
 show Runs _ _ _ _ (T20.setTop (mkF m 3 #[.val (.ref a0)] [(.ref a20), (.ref a0)]))
 have f39 : Old Z n0 h20 := (O0.ext E20)
 have f40 : Fld Z h20 a0 kc0 "coder" "B" (.int (0 : Int32)) := (zz6.ext E20)
 have f41 : Fld Z h20 a0 kc0 "value" "[B" (.ref jj1) := (zz7.ext E20)
 have f42 : Arv Z h20 jj1 jj2 .byte (2 : Int32) [(.int jj3), (.int jj4)] (.int (0 : Int32)) := (zz8.ext E20)
 have ne43 : a0 ≠ a20 := (ns20 a0 (CHr.safe A20 (Nat.lt_of_lt_of_le zz6.lt (Nat.le_refl _)) (hsf a0 (by simp)))).1
 have f45 : Exa Z h20 a0 kc0 := (E_a0.ext E20)
 obtain ⟨cq44, kq44, q44a, q44b, q44c⟩ := isOf hZ20 e20 f45
 refine w_virtual X20 hx (y := yn_6) (z := yn_6) hown20 (mvT hZ20 (wd_33 hw)) (mvT hZ20 (wd_34 hw)) (notFace_of_selects (args := #[]) (mvT hZ20 (wd_36 hw))) (mvT hZ20 (wd_36 hw)) (mvT hZ20 (wd_35 hw)) (by decide) (backOf (W := 0) (rm_m6_43 l Z aZ hw [] a0 a20 jj0 jj1 b20 jj2 jj3 jj4 c20 h20 n0 (Nat.le_trans Z0 E20.1) ne43 gE20 zz5 f39 hP_6 f40 gC20 f41 gV20 f42 gA20) hZ20 (wd_37 hw) (wd_9 hw) (by decide) (by decide)) q44a q44c (by rw [hml]; rfl) [(.ref a20)] (lenOf pd_4 rfl) rfl (Nat.le_of_eq rfl) (d5_3 hby) (fun _ _ => ⟨rfl, e20, (by decide : 2 + 0 ≤ _), (by decide : 8 + 0 ≤ _)⟩) (pc' := 6) rfl ?_
 rintro _ _ ⟨T44, L44, k44, n44⟩ X44 ⟨Lc44, hQ44, l44, y44, z44⟩
 dsimp only [Pt.U, Pt.locs, Pt.cells, Pt.slots] at X44 l44 y44 z44 hQ44 ⊢
 subst l44 y44 z44
 obtain ⟨rfl, N44q, e44⟩ := hQ44
 have N46 := Fr.app N0 N44q
 show Runs _ _ _ _ (T44.setTop (mkF m 6 #[.val (.ref a0)] [(.int (0 : Int32))]))
 refine w_ifN X44 hx (d5_6 hby) (teq (by decide : (0 : Int32) = (0 : Int32))).2 (pc' := 9) rfl ?_
 refine w_aloadN X44 hx (d5_9 hby) rfl rfl (pc' := 10) rfl ?_
 obtain ⟨a47, T47, h47, k47, b47, c47, X47, e47, E47, hS47, hk47, hZ47, hown47, gE47, gC47, gV47, gA47, lt47, ltb47, A47, -, ns47, st47⟩ := ldcCH X44 hx hZ20 hown20 (wd_44 hw) (own_wS hw) e44 hS20 hk20 (own_EW hw) (by simp [EL]) C21.1 (vs := [(.int (46 : Int32)), (.int (46 : Int32))]) (z := (2 : Int32)) (by decide +kernel) (by decide) (by decide) (g := (mkF m 10 #[.val (.ref a0)] [(.ref a0)])) rfl (d5_10 hby) (n := 8) (by decide +kernel) (by decide) (by decide) (by decide)
 refine Runs.by ?_ st47
 have C48 : CHr Z EL s.vm h0 T47.vm h47 := C21.trans A47
 have K49 : Keep h0 h47 [] := K22.ext E47
 show Runs _ _ _ _ (T47.setTop (mkF m 12 #[.val (.ref a0)] [(.ref a47), (.ref a0)]))
 have f80 : Old Z n0 h47 := (f39.ext E47)
 have f81 : Fld Z h47 a0 kc0 "coder" "B" (.int (0 : Int32)) := (f40.ext E47)
 have f82 : Fld Z h47 a0 kc0 "value" "[B" (.ref jj1) := (f41.ext E47)
 have f83 : Arv Z h47 jj1 jj2 .byte (2 : Int32) [(.int jj3), (.int jj4)] (.int (0 : Int32)) := (f42.ext E47)
 have ne84 : a0 ≠ a47 := (ns47 a0 (CHr.safe A47 (Nat.lt_of_lt_of_le zz6.lt E20.1) (CHr.safe A20 (Nat.lt_of_lt_of_le zz6.lt (Nat.le_refl _)) (hsf a0 (by simp))))).1
 have le85 : h0.size ≤ h47.size := (Nat.le_trans E20.1 E47.1)
 have f87 : Exa Z h47 a0 kc0 := (f45.ext E47)
 obtain ⟨cq86, kq86, q86a, q86b, q86c⟩ := isOf hZ47 e47 f87
 refine w_virtual X47 hx (y := yn_6) (z := yn_6) hown47 (mvT hZ47 (wd_33 hw)) (mvT hZ47 (wd_34 hw)) (notFace_of_selects (args := #[]) (mvT hZ47 (wd_36 hw))) (mvT hZ47 (wd_36 hw)) (mvT hZ47 (wd_35 hw)) (by decide) (backOf (W := 0) (rm_m6_51 l Z aZ hw [] a0 a47 jj0 jj1 b47 jj2 jj3 jj4 c47 h47 n0 (Nat.le_trans Z0 le85) ne84 gE47 zz5 f80 hP_6 f81 gC47 f82 gV47 f83 gA47 hP_7) hZ47 (wd_37 hw) (wd_9 hw) (by decide) (by decide)) q86a q86c (by rw [hml]; rfl) [(.ref a47)] (lenOf pd_4 rfl) rfl (Nat.le_of_eq rfl) (d5_12 hby) (fun _ _ => ⟨rfl, e47, (by decide : 4 + 0 ≤ _), (by decide : 20 + 0 ≤ _)⟩) (pc' := 15) rfl ?_
 rintro _ _ ⟨T86, L86, k86, n86⟩ X86 ⟨Lc86, hQ86, l86, y86, z86⟩
 dsimp only [Pt.U, Pt.locs, Pt.cells, Pt.slots] at X86 l86 y86 z86 hQ86 ⊢
 subst l86 y86 z86
 obtain ⟨rfl, N86q, e86⟩ := hQ86
 have N88 := Fr.app N46 N86q
 show Runs _ _ _ _ (T86.setTop (mkF m 15 #[.val (.ref a0)] [(.int (0 : Int32))]))
 refine w_ifY X86 hx (d5_15 hby) (teq (by decide : (0 : Int32) = (0 : Int32))).1 (pc' := 22) (by decide) (by decide) ?_
 refine w_iconst X86 hx (d5_22 hby) (v := (0 : Int32)) rfl (pc' := 23) rfl ?_
 exact w_doneH X86 hlk (v := some (.int (0 : Int32))) e86 hh hZ47 (own_EW hw) hS47 hk47 C48 (fun h => by rw [hret] at h; cases h) (fun fs hr => retN X86 hx (t := .boolean) hret (by simp) (d5_23 hby) hr) (by decide) (by decide) (fun hsy => ⟨rfl, N88, K49⟩)
theorem ef_m9_56 (m : MethodId) (a0 : Addr) (a2 : Addr)  : entryFrame m #[(.ref a0), (.int (0 : Int32)), (.ref a2), (.int (0 : Int32)), (.int (3 : Int32))] 7 = mkF m 0 #[.val (.ref a0), .val (.int (0 : Int32)), .val (.ref a2), .val (.int (0 : Int32)), .val (.int (3 : Int32)), .unset, .unset] [] := by first | (simp [entryFrame, mkF, argsToLocals, Value.category]; done) | rfl
def Q_m9_56 (Z : State) (a0 : Addr) (a2 : Addr) (k_a0 : ClassId) (jj0 : Int32) (jj1 : Int32) (jj2 : Int32) (k_a2 : ClassId) (h0 : Heap) (n0 : Nat) (v : Option Value) (h : Heap) (L : List Loc) : Prop := (v = some (.int (3 : Int32)) ∧ Fr n0 L ∧ Keep h0 h [a2] ∧ Arv Z h a2 k_a2 .byte (3 : Int32) [(.int (jj0.toInt8.toInt32)), (.int (jj1.toInt8.toInt32)), (.int (jj2.toInt8.toInt32))] (.int (0 : Int32)) ∧ ¬ ((255 : Int32) < jj0) ∧ ¬ ((255 : Int32) < jj1) ∧ ¬ ((255 : Int32) < jj2)) ∨ (∃ (j : Int32), v = some (.int j) ∧ Fr n0 L ∧ Keep h0 h [a2] ∧ ¬ (j < (0 : Int32)) ∧ j < (3 : Int32) ∧ (255 : Int32) < (gI [jj0, jj1, jj2, (0 : Int32)] j))
theorem rm_m9_56 (l : Launch) (Z : State) (aZ : Array Value) (hw : ∀ d ∈ tables_1, d.before aZ Z = true) (ws : List Jvm.Cond) (a0 : Addr) (a2 : Addr) (k_a0 : ClassId) (jj0 : Int32) (jj1 : Int32) (jj2 : Int32) (k_a2 : ClassId) (h0 : Heap) (n0 : Nat) (Z0 : n0 ≤ h0.size) (V_a0 : Arv Z h0 a0 k_a0 .char (3 : Int32) [(.int jj0), (.int jj1), (.int jj2)] (.int (0 : Int32))) (V_a2 : Arv Z h0 a2 k_a2 .byte (3 : Int32) [(.int (0 : Int32)), (.int (0 : Int32)), (.int (0 : Int32))] (.int (0 : Int32))) (zz3 : n0 ≤ a2) (zz4 : a0 ≠ a2) :
    MetN l Z yn_9 jdk_52_method_21_code 7 (some .int) ws ({ frames := 0, cells := 0, slots := 0, locals := 0 } : Room) #[(.ref a0), (.int (0 : Int32)), (.ref a2), (.int (0 : Int32)), (.int (3 : Int32))] h0 (Q_m9_56 Z a0 a2 k_a0 jj0 jj1 jj2 k_a2 h0 n0) := by
 refine MetN.of (plainFor_of_name pn_4) ?_
 intro p e s m below meth c s₁ hret hx hby hml hown hnm hlk hZ X0 e0
 have N0 := Fr.nil n0
 rw [ef_m9_56 m a0 a2]
 refine w_iconst X0 hx (d9_0 hby) (v := (0 : Int32)) rfl (pc' := 1) rfl ?_
 refine w_istore X0 hx (d9_1 hby) (L' := #[.val (.ref a0), .val (.int (0 : Int32)), .val (.ref a2), .val (.int (0 : Int32)), .val (.int (3 : Int32)), .val (.int (0 : Int32)), .unset]) rfl (pc' := 3) rfl ?_
 refine w_iload X0 hx (d9_3 hby) rfl (pc' := 5) rfl ?_
 refine w_iload X0 hx (d9_5 hby) rfl (pc' := 7) rfl ?_
 refine w_icN X0 hx (d9_7 hby) (tlt (by decide : (0 : Int32) < (3 : Int32))).2.1 (pc' := 10) rfl ?_
 refine w_aloadN X0 hx (d9_10 hby) rfl rfl (pc' := 11) rfl ?_
 refine w_iloadN X0 hx (d9_11 hby) rfl (pc' := 12) rfl ?_
 obtain ⟨clu20, Aru20, qu20, Su20, Nu20, Hu20, Gu20⟩ := id V_a0
 have hinu20 := inb_of (j := (0 : Int32)) Su20 ⟨by decide, by decide⟩
 refine w_caload X0 hx hZ e0 Aru20 hinu20 (Hu20.at hinu20 rfl) (d9_12 hby) (pc' := 13) rfl ?_
 refine w_istore X0 hx (d9_13 hby) (L' := #[.val (.ref a0), .val (.int (0 : Int32)), .val (.ref a2), .val (.int (0 : Int32)), .val (.int (3 : Int32)), .val (.int (0 : Int32)), .val (.int jj0)]) rfl (pc' := 15) rfl ?_
 refine w_iload X0 hx (d9_15 hby) rfl (pc' := 17) rfl ?_
 refine w_sipush X0 hx (d9_17 hby) (v := (255 : Int32)) rfl (pc' := 20) rfl ?_
 by_cases hc21 : (255 : Int32) < jj0
 · refine w_icN X0 hx (d9_20 hby) (tlt hc21).2.2.2 (pc' := 23) rfl ?_
   refine w_iload X0 hx (d9_23 hby) rfl (pc' := 25) rfl ?_
   exact w_done X0 hlk (v := some (.int (0 : Int32))) e0 (fun h => by rw [hret] at h; cases h) (fun fs hr => retI X0 hx hret (d9_25 hby) hr) (by decide) (by decide) (Or.inr (⟨(0 : Int32), rfl, N0, (Keep.refl h0 [a2]), (by decide : ¬ ((0 : Int32) < (0 : Int32))), (by decide : (0 : Int32) < (3 : Int32)), (show (255 : Int32) < (gI [jj0, jj1, jj2, (0 : Int32)] (0 : Int32)) from hc21)⟩))
 · refine w_icY X0 hx (d9_20 hby) (flt hc21).2.2.2 (pc' := 26) (by decide) (by decide) ?_
   refine w_aloadN X0 hx (d9_26 hby) rfl rfl (pc' := 27) rfl ?_
   refine w_iloadN X0 hx (d9_27 hby) rfl (pc' := 28) rfl ?_
   refine w_iload X0 hx (d9_28 hby) rfl (pc' := 30) rfl ?_
   refine w_i2b X0 hx (d9_30 hby) (pc' := 31) rfl ?_
   obtain ⟨clu22, Aru22, qu22, Su22, Nu22, Hu22, Gu22⟩ := id V_a2
   have hinu22 := inb_of (j := (0 : Int32)) Su22 ⟨by decide, by decide⟩
   refine w_stB X0 hx hZ e0 Aru22 hinu22 (d9_31 hby) (pc' := 32) rfl ?_
   intro T23 h23 X23 e23 W23
   have V24 : Arv Z h23 a2 k_a2 .byte (3 : Int32) [(.int (nar .byte (jj0.toInt8.toInt32))), (.int (0 : Int32)), (.int (0 : Int32))] (.int (0 : Int32)) := Arv.set Aru22 qu22 Su22 Nu22 Hu22 Gu22 (fits_nar_byte _) W23 0 rfl (Nat.le_of_ble_eq_true rfl)
   have V25 : Arv Z h23 a2 k_a2 .byte (3 : Int32) [(.int (jj0.toInt8.toInt32)), (.int (0 : Int32)), (.int (0 : Int32))] (.int (0 : Int32)) := by rw [nar_b] at V24; exact V24
   have K26 : Keep h0 h23 [a2] := (Keep.refl h0 [a2]).wr W23 (Or.inl (by simp))
   have N27 := Fr.snoc X23 N0 zz3
   refine w_iinc X23 hx (d9_32 hby) (v := (1 : Int32)) rfl rfl (L' := #[.val (.ref a0), .val (.int ((0 : Int32) + (1 : Int32))), .val (.ref a2), .val (.int (0 : Int32)), .val (.int (3 : Int32)), .val (.int (0 : Int32)), .val (.int jj0)]) rfl (pc' := 35) rfl ?_
   rw [show ((0 : Int32) + (1 : Int32)) = (1 : Int32) from by decide]
   refine w_iinc X23 hx (d9_35 hby) (v := (1 : Int32)) rfl rfl (L' := #[.val (.ref a0), .val (.int (1 : Int32)), .val (.ref a2), .val (.int ((0 : Int32) + (1 : Int32))), .val (.int (3 : Int32)), .val (.int (0 : Int32)), .val (.int jj0)]) rfl (pc' := 38) rfl ?_
   rw [show ((0 : Int32) + (1 : Int32)) = (1 : Int32) from by decide]
   refine w_iinc X23 hx (d9_38 hby) (v := (1 : Int32)) rfl rfl (L' := #[.val (.ref a0), .val (.int (1 : Int32)), .val (.ref a2), .val (.int (1 : Int32)), .val (.int (3 : Int32)), .val (.int ((0 : Int32) + (1 : Int32))), .val (.int jj0)]) rfl (pc' := 41) rfl ?_
   rw [show ((0 : Int32) + (1 : Int32)) = (1 : Int32) from by decide]
   refine w_goto X23 hx (d9_41 hby) (pc' := 3) (by decide) (by decide) ?_
   refine w_iload X23 hx (d9_3 hby) rfl (pc' := 5) rfl ?_
   refine w_iload X23 hx (d9_5 hby) rfl (pc' := 7) rfl ?_
   refine w_icN X23 hx (d9_7 hby) (tlt (by decide : (1 : Int32) < (3 : Int32))).2.1 (pc' := 10) rfl ?_
   refine w_aloadN X23 hx (d9_10 hby) rfl rfl (pc' := 11) rfl ?_
   refine w_iloadN X23 hx (d9_11 hby) rfl (pc' := 12) rfl ?_
   have f28 : Arv Z h23 a0 k_a0 .char (3 : Int32) [(.int jj0), (.int jj1), (.int jj2)] (.int (0 : Int32)) := (V_a0.other W23 zz4)
   obtain ⟨clu29, Aru29, qu29, Su29, Nu29, Hu29, Gu29⟩ := id f28
   have hinu29 := inb_of (j := (1 : Int32)) Su29 ⟨by decide, by decide⟩
   refine w_caload X23 hx hZ e23 Aru29 hinu29 (Hu29.at hinu29 rfl) (d9_12 hby) (pc' := 13) rfl ?_
   refine w_istore X23 hx (d9_13 hby) (L' := #[.val (.ref a0), .val (.int (1 : Int32)), .val (.ref a2), .val (.int (1 : Int32)), .val (.int (3 : Int32)), .val (.int (1 : Int32)), .val (.int jj1)]) rfl (pc' := 15) rfl ?_
   refine w_iload X23 hx (d9_15 hby) rfl (pc' := 17) rfl ?_
   refine w_sipush X23 hx (d9_17 hby) (v := (255 : Int32)) rfl (pc' := 20) rfl ?_
   by_cases hc30 : (255 : Int32) < jj1
   · refine w_icN X23 hx (d9_20 hby) (tlt hc30).2.2.2 (pc' := 23) rfl ?_
     refine w_iload X23 hx (d9_23 hby) rfl (pc' := 25) rfl ?_
     exact w_done X23 hlk (v := some (.int (1 : Int32))) e23 (fun h => by rw [hret] at h; cases h) (fun fs hr => retI X23 hx hret (d9_25 hby) hr) (by decide) (by decide) (Or.inr (⟨(1 : Int32), rfl, N27, K26, (by decide : ¬ ((1 : Int32) < (0 : Int32))), (by decide : (1 : Int32) < (3 : Int32)), (show (255 : Int32) < (gI [jj0, jj1, jj2, (0 : Int32)] (1 : Int32)) from hc30)⟩))
   · refine w_icY X23 hx (d9_20 hby) (flt hc30).2.2.2 (pc' := 26) (by decide) (by decide) ?_
     refine w_aloadN X23 hx (d9_26 hby) rfl rfl (pc' := 27) rfl ?_
     refine w_iloadN X23 hx (d9_27 hby) rfl (pc' := 28) rfl ?_
     refine w_iload X23 hx (d9_28 hby) rfl (pc' := 30) rfl ?_
     refine w_i2b X23 hx (d9_30 hby) (pc' := 31) rfl ?_
     obtain ⟨clu31, Aru31, qu31, Su31, Nu31, Hu31, Gu31⟩ := id V25
     have hinu31 := inb_of (j := (1 : Int32)) Su31 ⟨by decide, by decide⟩
     refine w_stB X23 hx hZ e23 Aru31 hinu31 (d9_31 hby) (pc' := 32) rfl ?_
     intro T32 h32 X32 e32 W32
     have V33 : Arv Z h32 a2 k_a2 .byte (3 : Int32) [(.int (jj0.toInt8.toInt32)), (.int (nar .byte (jj1.toInt8.toInt32))), (.int (0 : Int32))] (.int (0 : Int32)) := Arv.set Aru31 qu31 Su31 Nu31 Hu31 Gu31 (fits_nar_byte _) W32 1 rfl (Nat.le_of_ble_eq_true rfl)
     have V34 : Arv Z h32 a2 k_a2 .byte (3 : Int32) [(.int (jj0.toInt8.toInt32)), (.int (jj1.toInt8.toInt32)), (.int (0 : Int32))] (.int (0 : Int32)) := by rw [nar_b] at V33; exact V33
     have K35 : Keep h0 h32 [a2] := K26.wr W32 (Or.inl (by simp))
     have N36 := Fr.snoc X32 N27 zz3
     refine w_iinc X32 hx (d9_32 hby) (v := (1 : Int32)) rfl rfl (L' := #[.val (.ref a0), .val (.int ((1 : Int32) + (1 : Int32))), .val (.ref a2), .val (.int (1 : Int32)), .val (.int (3 : Int32)), .val (.int (1 : Int32)), .val (.int jj1)]) rfl (pc' := 35) rfl ?_
     rw [show ((1 : Int32) + (1 : Int32)) = (2 : Int32) from by decide]
     refine w_iinc X32 hx (d9_35 hby) (v := (1 : Int32)) rfl rfl (L' := #[.val (.ref a0), .val (.int (2 : Int32)), .val (.ref a2), .val (.int ((1 : Int32) + (1 : Int32))), .val (.int (3 : Int32)), .val (.int (1 : Int32)), .val (.int jj1)]) rfl (pc' := 38) rfl ?_
     rw [show ((1 : Int32) + (1 : Int32)) = (2 : Int32) from by decide]
     refine w_iinc X32 hx (d9_38 hby) (v := (1 : Int32)) rfl rfl (L' := #[.val (.ref a0), .val (.int (2 : Int32)), .val (.ref a2), .val (.int (2 : Int32)), .val (.int (3 : Int32)), .val (.int ((1 : Int32) + (1 : Int32))), .val (.int jj1)]) rfl (pc' := 41) rfl ?_
     rw [show ((1 : Int32) + (1 : Int32)) = (2 : Int32) from by decide]
     refine w_goto X32 hx (d9_41 hby) (pc' := 3) (by decide) (by decide) ?_
     refine w_iload X32 hx (d9_3 hby) rfl (pc' := 5) rfl ?_
     refine w_iload X32 hx (d9_5 hby) rfl (pc' := 7) rfl ?_
     refine w_icN X32 hx (d9_7 hby) (tlt (by decide : (2 : Int32) < (3 : Int32))).2.1 (pc' := 10) rfl ?_
     refine w_aloadN X32 hx (d9_10 hby) rfl rfl (pc' := 11) rfl ?_
     refine w_iloadN X32 hx (d9_11 hby) rfl (pc' := 12) rfl ?_
     have f37 : Arv Z h32 a0 k_a0 .char (3 : Int32) [(.int jj0), (.int jj1), (.int jj2)] (.int (0 : Int32)) := (f28.other W32 zz4)
     obtain ⟨clu38, Aru38, qu38, Su38, Nu38, Hu38, Gu38⟩ := id f37
     have hinu38 := inb_of (j := (2 : Int32)) Su38 ⟨by decide, by decide⟩
     refine w_caload X32 hx hZ e32 Aru38 hinu38 (Hu38.at hinu38 rfl) (d9_12 hby) (pc' := 13) rfl ?_
     refine w_istore X32 hx (d9_13 hby) (L' := #[.val (.ref a0), .val (.int (2 : Int32)), .val (.ref a2), .val (.int (2 : Int32)), .val (.int (3 : Int32)), .val (.int (2 : Int32)), .val (.int jj2)]) rfl (pc' := 15) rfl ?_
     refine w_iload X32 hx (d9_15 hby) rfl (pc' := 17) rfl ?_
     refine w_sipush X32 hx (d9_17 hby) (v := (255 : Int32)) rfl (pc' := 20) rfl ?_
     by_cases hc39 : (255 : Int32) < jj2
     · refine w_icN X32 hx (d9_20 hby) (tlt hc39).2.2.2 (pc' := 23) rfl ?_
       refine w_iload X32 hx (d9_23 hby) rfl (pc' := 25) rfl ?_
       exact w_done X32 hlk (v := some (.int (2 : Int32))) e32 (fun h => by rw [hret] at h; cases h) (fun fs hr => retI X32 hx hret (d9_25 hby) hr) (by decide) (by decide) (Or.inr (⟨(2 : Int32), rfl, N36, K35, (by decide : ¬ ((2 : Int32) < (0 : Int32))), (by decide : (2 : Int32) < (3 : Int32)), (show (255 : Int32) < (gI [jj0, jj1, jj2, (0 : Int32)] (2 : Int32)) from hc39)⟩))
     · refine w_icY X32 hx (d9_20 hby) (flt hc39).2.2.2 (pc' := 26) (by decide) (by decide) ?_
       refine w_aloadN X32 hx (d9_26 hby) rfl rfl (pc' := 27) rfl ?_
       refine w_iloadN X32 hx (d9_27 hby) rfl (pc' := 28) rfl ?_
       refine w_iload X32 hx (d9_28 hby) rfl (pc' := 30) rfl ?_
       refine w_i2b X32 hx (d9_30 hby) (pc' := 31) rfl ?_
       obtain ⟨clu40, Aru40, qu40, Su40, Nu40, Hu40, Gu40⟩ := id V34
       have hinu40 := inb_of (j := (2 : Int32)) Su40 ⟨by decide, by decide⟩
       refine w_stB X32 hx hZ e32 Aru40 hinu40 (d9_31 hby) (pc' := 32) rfl ?_
       intro T41 h41 X41 e41 W41
       have V42 : Arv Z h41 a2 k_a2 .byte (3 : Int32) [(.int (jj0.toInt8.toInt32)), (.int (jj1.toInt8.toInt32)), (.int (nar .byte (jj2.toInt8.toInt32)))] (.int (0 : Int32)) := Arv.set Aru40 qu40 Su40 Nu40 Hu40 Gu40 (fits_nar_byte _) W41 2 rfl (Nat.le_of_ble_eq_true rfl)
       have V43 : Arv Z h41 a2 k_a2 .byte (3 : Int32) [(.int (jj0.toInt8.toInt32)), (.int (jj1.toInt8.toInt32)), (.int (jj2.toInt8.toInt32))] (.int (0 : Int32)) := by rw [nar_b] at V42; exact V42
       have K44 : Keep h0 h41 [a2] := K35.wr W41 (Or.inl (by simp))
       have N45 := Fr.snoc X41 N36 zz3
       refine w_iinc X41 hx (d9_32 hby) (v := (1 : Int32)) rfl rfl (L' := #[.val (.ref a0), .val (.int ((2 : Int32) + (1 : Int32))), .val (.ref a2), .val (.int (2 : Int32)), .val (.int (3 : Int32)), .val (.int (2 : Int32)), .val (.int jj2)]) rfl (pc' := 35) rfl ?_
       rw [show ((2 : Int32) + (1 : Int32)) = (3 : Int32) from by decide]
       refine w_iinc X41 hx (d9_35 hby) (v := (1 : Int32)) rfl rfl (L' := #[.val (.ref a0), .val (.int (3 : Int32)), .val (.ref a2), .val (.int ((2 : Int32) + (1 : Int32))), .val (.int (3 : Int32)), .val (.int (2 : Int32)), .val (.int jj2)]) rfl (pc' := 38) rfl ?_
       rw [show ((2 : Int32) + (1 : Int32)) = (3 : Int32) from by decide]
       refine w_iinc X41 hx (d9_38 hby) (v := (1 : Int32)) rfl rfl (L' := #[.val (.ref a0), .val (.int (3 : Int32)), .val (.ref a2), .val (.int (3 : Int32)), .val (.int (3 : Int32)), .val (.int ((2 : Int32) + (1 : Int32))), .val (.int jj2)]) rfl (pc' := 41) rfl ?_
       rw [show ((2 : Int32) + (1 : Int32)) = (3 : Int32) from by decide]
       refine w_goto X41 hx (d9_41 hby) (pc' := 3) (by decide) (by decide) ?_
       refine w_iload X41 hx (d9_3 hby) rfl (pc' := 5) rfl ?_
       refine w_iload X41 hx (d9_5 hby) rfl (pc' := 7) rfl ?_
       refine w_icY X41 hx (d9_7 hby) (flt (by decide : ¬ ((3 : Int32) < (3 : Int32)))).2.1 (pc' := 44) (by decide) (by decide) ?_
       refine w_iload X41 hx (d9_44 hby) rfl (pc' := 46) rfl ?_
       exact w_done X41 hlk (v := some (.int (3 : Int32))) e41 (fun h => by rw [hret] at h; cases h) (fun fs hr => retI X41 hx hret (d9_46 hby) hr) (by decide) (by decide) (Or.inl ⟨rfl, N45, K44, V43, hc21, hc30, hc39⟩)
theorem ef_m13_59 (m : MethodId)   : entryFrame m #[(.int (3 : Int32))] 1 = mkF m 0 #[.val (.int (3 : Int32))] [] := by first | (simp [entryFrame, mkF, argsToLocals, Value.category]; done) | rfl
def Q_m13_59 (Z : State)  (h0 : Heap) (n0 : Nat) (v : Option Value) (h : Heap) (L : List Loc) : Prop := v = some (.int (6 : Int32)) ∧ Fr n0 L ∧ h = h0
theorem rm_m13_59 (l : Launch) (Z : State) (aZ : Array Value) (hw : ∀ d ∈ tables_1, d.before aZ Z = true) (ws : List Jvm.Cond)  (h0 : Heap) (n0 : Nat) (Z0 : n0 ≤ h0.size) :
    MetN l Z yn_13 jdk_52_method_3_code 1 (some .int) ws ({ frames := 0, cells := 0, slots := 0, locals := 0 } : Room) #[(.int (3 : Int32))] h0 (Q_m13_59 Z  h0 n0) := by
 refine MetN.of (plainFor_of_name pn_4) ?_
 intro p e s m below meth c s₁ hret hx hby hml hown hnm hlk hZ X0 e0
 have N0 := Fr.nil n0
 rw [ef_m13_59 m ]
 refine w_iloadN X0 hx (d13_0 hby) rfl (pc' := 1) rfl ?_
 refine w_ifY X0 hx (d13_1 hby) (flt (by decide : ¬ ((3 : Int32) < (0 : Int32)))).2.1 (pc' := 12) (by decide) (by decide) ?_
 refine w_iloadN X0 hx (d13_12 hby) rfl (pc' := 13) rfl ?_
 refine w_ldcI X0 hx hZ hown (wd_64 hw) (d13_13 hby) (pc' := 15) rfl ?_
 refine w_icY X0 hx (d13_15 hby) (tlt (by decide : (3 : Int32) < (1073741823 : Int32))).1 (pc' := 55) (by decide) (by decide) ?_
 refine w_iloadN X0 hx (d13_55 hby) rfl (pc' := 56) rfl ?_
 refine w_iconst X0 hx (d13_56 hby) (v := (1 : Int32)) rfl (pc' := 57) rfl ?_
 refine w_ishl X0 hx (d13_57 hby) (pc' := 58) rfl ?_
 rw [show ((3 : Int32) <<< ((1 : Int32) &&& 31)) = (6 : Int32) from by decide]
 exact w_done X0 hlk (v := some (.int (6 : Int32))) e0 (fun h => by rw [hret] at h; cases h) (fun fs hr => retI X0 hx hret (d13_58 hby) hr) (by decide) (by decide) (⟨rfl, N0, rfl⟩)
theorem ef_m12_58 (m : MethodId)   : entryFrame m #[(.int (3 : Int32))] 1 = mkF m 0 #[.val (.int (3 : Int32))] [] := by first | (simp [entryFrame, mkF, argsToLocals, Value.category]; done) | rfl
def Q_m12_58 (Z : State)  (h0 : Heap) (n0 : Nat) (v : Option Value) (h : Heap) (L : List Loc) : Prop := ∃ (r0 : Addr) (c0 : ClassId), v = some (.ref r0) ∧ Fr n0 L ∧ Keep h0 h [] ∧ h0.size ≤ r0 ∧ Arv Z h r0 c0 .byte (6 : Int32) [(.int (0 : Int32)), (.int (0 : Int32)), (.int (0 : Int32)), (.int (0 : Int32)), (.int (0 : Int32)), (.int (0 : Int32))] (.int (0 : Int32))
theorem rm_m12_58 (l : Launch) (Z : State) (aZ : Array Value) (hw : ∀ d ∈ tables_1, d.before aZ Z = true) (ws : List Jvm.Cond)  (h0 : Heap) (n0 : Nat) (Z0 : n0 ≤ h0.size) :
    MetN l Z yn_12 jdk_52_method_2_code 1 (some (.array .byte)) ws ({ frames := 1, cells := 1, slots := 6, locals := 12 } : Room) #[(.int (3 : Int32))] h0 (Q_m12_58 Z  h0 n0) := by
 refine MetN.of (plainFor_of_name pn_4) ?_
 intro p e s m below meth c s₁ hret hx hby hml hown hnm hlk hZ X0 e0
 have N0 := Fr.nil n0
 rw [ef_m12_58 m ]
 refine w_iloadN X0 hx (d12_0 hby) rfl (pc' := 1) rfl ?_
 refine w_static X0 hx (y := yn_13) hown (mvT hZ (wd_61 hw)) (mvT hZ (wd_62 hw)) (mvT hZ (wd_47 hw)) (mvT hZ (wd_63 hw)) (by decide) (backOf (W := 0) (rm_m13_59 l Z aZ hw []  h0 n0 Z0 ) hZ (wd_63 hw) (wd_47 hw) (by decide) (by decide)) (by rw [hml]; rfl) [(.int (3 : Int32))] (lenOf pd_7 rfl) rfl (Nat.le_of_eq rfl) (d12_1 hby) (fun _ _ => ⟨rfl, e0, (by decide : 0 + 0 ≤ _), (by decide : 0 + 0 ≤ _)⟩) (pc' := 4) rfl ?_
 rintro _ _ ⟨T20, L20, k20, n20⟩ X20 ⟨Lc20, hQ20, l20, y20, z20⟩
 dsimp only [Pt.U, Pt.locs, Pt.cells, Pt.slots] at X20 l20 y20 z20 hQ20 ⊢
 subst l20 y20 z20
 obtain ⟨rfl, N20q, e20⟩ := hQ20
 have N21 := Fr.app N0 N20q
 show Runs _ _ _ _ (T20.setTop (mkF m 4 #[.val (.int (3 : Int32))] [(.int (6 : Int32))]))
 refine w_newP X20 hx .byte .byte 6 rfl hZ (wd_21 hw) e20 (d12_4 hby) (by decide) (by decide) (by decide) (by decide) (by decide) (pc' := 6) rfl ?_
 intro T22 h22 k22 b22 X22 e22 E22 g22 A22
 have ge23 : n0 ≤ b22 := Nat.le_trans Z0 (Nat.le_of_eq g22.symm)
 have sz24 : h0.size ≤ b22 := Nat.le_trans (Nat.le_refl _) (Nat.le_of_eq g22.symm)
 have K25 : Keep h0 h22 [] := (Keep.refl h0 []).ext E22
 have V26 : Arv Z h22 b22 k22 .byte (6 : Int32) [(.int (0 : Int32)), (.int (0 : Int32)), (.int (0 : Int32)), (.int (0 : Int32)), (.int (0 : Int32)), (.int (0 : Int32))] (.int (0 : Int32)) := (Arv.new A22 (by decide)).pad (pad_rep [] (.int (0 : Int32)) 6)
 exact w_done X22 hlk (v := some (.ref b22)) e22 (fun h => by rw [hret] at h; cases h) (fun fs hr => retOut X22 hx hret rfl (Or.inr (Or.inr (Or.inr (Or.inr ⟨rfl, rfl, rfl⟩)))) (d12_6 hby) hr) (by decide) (by decide) (⟨b22, k22, rfl, N21, K25, sz24, V26⟩)
theorem ef_m14_60 (m : MethodId) (a0 : Addr) (p2 : Int32)  : entryFrame m #[(.ref a0), (.int (0 : Int32)), (.int p2)] 3 = mkF m 0 #[.val (.ref a0), .val (.int (0 : Int32)), .val (.int p2)] [] := by first | (simp [entryFrame, mkF, argsToLocals, Value.category]; done) | rfl
def Q_m14_60 (Z : State) (a0 : Addr) (p2 : Int32) (k_a0 : ClassId) (h0 : Heap) (n0 : Nat) (v : Option Value) (h : Heap) (L : List Loc) : Prop := v = none ∧ Fr n0 L ∧ Keep h0 h [a0] ∧ Arv Z h a0 k_a0 .byte (6 : Int32) [(.int ((p2 >>> ((0 : Int32) &&& 31)).toInt8.toInt32)), (.int ((p2 >>> ((8 : Int32) &&& 31)).toInt8.toInt32)), (.int (0 : Int32)), (.int (0 : Int32)), (.int (0 : Int32)), (.int (0 : Int32))] (.int (0 : Int32))
theorem rm_m14_60 (l : Launch) (Z : State) (aZ : Array Value) (hw : ∀ d ∈ tables_1, d.before aZ Z = true) (ws : List Jvm.Cond) (a0 : Addr) (p2 : Int32) (k_a0 : ClassId) (h0 : Heap) (n0 : Nat) (Z0 : n0 ≤ h0.size) (zz0 : Sta Z Z.heap kc1 "$assertionsDisabled" "Z" (.int (1 : Int32))) (O0 : Old Z n0 h0) (zz1 : Sta Z Z.heap kc1 "HI_BYTE_SHIFT" "I" (.int (0 : Int32))) (V_a0 : Arv Z h0 a0 k_a0 .byte (6 : Int32) [(.int (0 : Int32)), (.int (0 : Int32)), (.int (0 : Int32)), (.int (0 : Int32)), (.int (0 : Int32)), (.int (0 : Int32))] (.int (0 : Int32))) (zz2 : n0 ≤ a0) (zz3 : Sta Z Z.heap kc1 "LO_BYTE_SHIFT" "I" (.int (8 : Int32))) :
    MetN l Z yn_14 jdk_52_method_4_code 3 none ws ({ frames := 0, cells := 0, slots := 0, locals := 0 } : Room) #[(.ref a0), (.int (0 : Int32)), (.int p2)] h0 (Q_m14_60 Z a0 p2 k_a0 h0 n0) := by
 refine MetN.of (plainFor_of_name pn_4) ?_
 intro p e s m below meth c s₁ hret hx hby hml hown hnm hlk hZ X0 e0
 have N0 := Fr.nil n0
 rw [ef_m14_60 m a0 p2]
 refine w_getS X0 hx "" hZ hown (Or.inl (wd_68 hw)) Via.refl e0 (zz0.ext O0.2) (d14_0 hby) (pc' := 3) rfl ?_
 intro T20 X20 e20
 refine w_ifY X20 hx (d14_3 hby) (feq (by decide : ¬ ((1 : Int32) = (0 : Int32)))).2 (pc' := 28) (by decide) (by decide) ?_
 refine w_iloadN X20 hx (d14_28 hby) rfl (pc' := 29) rfl ?_
 refine w_iconst X20 hx (d14_29 hby) (v := (1 : Int32)) rfl (pc' := 30) rfl ?_
 refine w_ishl X20 hx (d14_30 hby) (pc' := 31) rfl ?_
 rw [show ((0 : Int32) <<< ((1 : Int32) &&& 31)) = (0 : Int32) from by decide]
 refine w_istoreN X20 hx (d14_31 hby) (L' := #[.val (.ref a0), .val (.int (0 : Int32)), .val (.int p2)]) rfl (pc' := 32) rfl ?_
 refine w_aloadN X20 hx (d14_32 hby) rfl rfl (pc' := 33) rfl ?_
 refine w_iloadN X20 hx (d14_33 hby) rfl (pc' := 34) rfl ?_
 refine w_iinc X20 hx (d14_34 hby) (v := (1 : Int32)) rfl rfl (L' := #[.val (.ref a0), .val (.int ((0 : Int32) + (1 : Int32))), .val (.int p2)]) rfl (pc' := 37) rfl ?_
 rw [show ((0 : Int32) + (1 : Int32)) = (1 : Int32) from by decide]
 refine w_iloadN X20 hx (d14_37 hby) rfl (pc' := 38) rfl ?_
 refine w_getS X20 hx "" hZ hown (Or.inl (wd_69 hw)) Via.refl e20 (zz1.ext O0.2) (d14_38 hby) (pc' := 41) rfl ?_
 intro T21 X21 e21
 refine w_ishr X21 hx (d14_41 hby) (pc' := 42) rfl ?_
 refine w_i2b X21 hx (d14_42 hby) (pc' := 43) rfl ?_
 obtain ⟨clu22, Aru22, qu22, Su22, Nu22, Hu22, Gu22⟩ := id V_a0
 have hinu22 := inb_of (j := (0 : Int32)) Su22 ⟨by decide, by decide⟩
 refine w_stB X21 hx hZ e21 Aru22 hinu22 (d14_43 hby) (pc' := 44) rfl ?_
 intro T23 h23 X23 e23 W23
 have V24 : Arv Z h23 a0 k_a0 .byte (6 : Int32) [(.int (nar .byte ((p2 >>> ((0 : Int32) &&& 31)).toInt8.toInt32))), (.int (0 : Int32)), (.int (0 : Int32)), (.int (0 : Int32)), (.int (0 : Int32)), (.int (0 : Int32))] (.int (0 : Int32)) := Arv.set Aru22 qu22 Su22 Nu22 Hu22 Gu22 (fits_nar_byte _) W23 0 rfl (Nat.le_of_ble_eq_true rfl)
 have V25 : Arv Z h23 a0 k_a0 .byte (6 : Int32) [(.int ((p2 >>> ((0 : Int32) &&& 31)).toInt8.toInt32)), (.int (0 : Int32)), (.int (0 : Int32)), (.int (0 : Int32)), (.int (0 : Int32)), (.int (0 : Int32))] (.int (0 : Int32)) := by rw [nar_b] at V24; exact V24
 have K26 : Keep h0 h23 [a0] := (Keep.refl h0 [a0]).wr W23 (Or.inl (by simp))
 have N27 := Fr.snoc X23 N0 zz2
 refine w_aloadN X23 hx (d14_44 hby) rfl rfl (pc' := 45) rfl ?_
 refine w_iloadN X23 hx (d14_45 hby) rfl (pc' := 46) rfl ?_
 refine w_iloadN X23 hx (d14_46 hby) rfl (pc' := 47) rfl ?_
 have f28 : Old Z n0 h23 := (O0.wr W23 zz2)
 refine w_getS X23 hx "" hZ hown (Or.inl (wd_70 hw)) Via.refl e23 (zz3.ext f28.2) (d14_47 hby) (pc' := 50) rfl ?_
 intro T29 X29 e29
 refine w_ishr X29 hx (d14_50 hby) (pc' := 51) rfl ?_
 refine w_i2b X29 hx (d14_51 hby) (pc' := 52) rfl ?_
 obtain ⟨clu30, Aru30, qu30, Su30, Nu30, Hu30, Gu30⟩ := id V25
 have hinu30 := inb_of (j := (1 : Int32)) Su30 ⟨by decide, by decide⟩
 refine w_stB X29 hx hZ e29 Aru30 hinu30 (d14_52 hby) (pc' := 53) rfl ?_
 intro T31 h31 X31 e31 W31
 have V32 : Arv Z h31 a0 k_a0 .byte (6 : Int32) [(.int ((p2 >>> ((0 : Int32) &&& 31)).toInt8.toInt32)), (.int (nar .byte ((p2 >>> ((8 : Int32) &&& 31)).toInt8.toInt32))), (.int (0 : Int32)), (.int (0 : Int32)), (.int (0 : Int32)), (.int (0 : Int32))] (.int (0 : Int32)) := Arv.set Aru30 qu30 Su30 Nu30 Hu30 Gu30 (fits_nar_byte _) W31 1 rfl (Nat.le_of_ble_eq_true rfl)
 have V33 : Arv Z h31 a0 k_a0 .byte (6 : Int32) [(.int ((p2 >>> ((0 : Int32) &&& 31)).toInt8.toInt32)), (.int ((p2 >>> ((8 : Int32) &&& 31)).toInt8.toInt32)), (.int (0 : Int32)), (.int (0 : Int32)), (.int (0 : Int32)), (.int (0 : Int32))] (.int (0 : Int32)) := by rw [nar_b] at V32; exact V32
 have K34 : Keep h0 h31 [a0] := K26.wr W31 (Or.inl (by simp))
 have N35 := Fr.snoc X31 N27 zz2
 exact w_done X31 hlk (v := none) e31 (fun _ => rfl) (fun fs hr => X31.returnOut hx hret (d14_53 hby) hr) (by decide) (by decide) (⟨rfl, N35, K34, V33⟩)
theorem ef_m14_61 (m : MethodId) (a0 : Addr) (p2 : Int32)  : entryFrame m #[(.ref a0), (.int (1 : Int32)), (.int p2)] 3 = mkF m 0 #[.val (.ref a0), .val (.int (1 : Int32)), .val (.int p2)] [] := by first | (simp [entryFrame, mkF, argsToLocals, Value.category]; done) | rfl
def Q_m14_61 (Z : State) (a0 : Addr) (p2 : Int32) (k_a0 : ClassId) (jj0 : Int32) (jj1 : Int32) (h0 : Heap) (n0 : Nat) (v : Option Value) (h : Heap) (L : List Loc) : Prop := v = none ∧ Fr n0 L ∧ Keep h0 h [a0] ∧ Arv Z h a0 k_a0 .byte (6 : Int32) [(.int jj0), (.int jj1), (.int ((p2 >>> ((0 : Int32) &&& 31)).toInt8.toInt32)), (.int ((p2 >>> ((8 : Int32) &&& 31)).toInt8.toInt32)), (.int (0 : Int32)), (.int (0 : Int32))] (.int (0 : Int32))
theorem rm_m14_61 (l : Launch) (Z : State) (aZ : Array Value) (hw : ∀ d ∈ tables_1, d.before aZ Z = true) (ws : List Jvm.Cond) (a0 : Addr) (p2 : Int32) (k_a0 : ClassId) (jj0 : Int32) (jj1 : Int32) (h0 : Heap) (n0 : Nat) (Z0 : n0 ≤ h0.size) (zz2 : Sta Z Z.heap kc1 "$assertionsDisabled" "Z" (.int (1 : Int32))) (O0 : Old Z n0 h0) (zz3 : Sta Z Z.heap kc1 "HI_BYTE_SHIFT" "I" (.int (0 : Int32))) (V_a0 : Arv Z h0 a0 k_a0 .byte (6 : Int32) [(.int jj0), (.int jj1), (.int (0 : Int32)), (.int (0 : Int32)), (.int (0 : Int32)), (.int (0 : Int32))] (.int (0 : Int32))) (zz4 : n0 ≤ a0) (zz5 : Sta Z Z.heap kc1 "LO_BYTE_SHIFT" "I" (.int (8 : Int32))) :
    MetN l Z yn_14 jdk_52_method_4_code 3 none ws ({ frames := 0, cells := 0, slots := 0, locals := 0 } : Room) #[(.ref a0), (.int (1 : Int32)), (.int p2)] h0 (Q_m14_61 Z a0 p2 k_a0 jj0 jj1 h0 n0) := by
 refine MetN.of (plainFor_of_name pn_4) ?_
 intro p e s m below meth c s₁ hret hx hby hml hown hnm hlk hZ X0 e0
 have N0 := Fr.nil n0
 rw [ef_m14_61 m a0 p2]
 refine w_getS X0 hx "" hZ hown (Or.inl (wd_68 hw)) Via.refl e0 (zz2.ext O0.2) (d14_0 hby) (pc' := 3) rfl ?_
 intro T20 X20 e20
 refine w_ifY X20 hx (d14_3 hby) (feq (by decide : ¬ ((1 : Int32) = (0 : Int32)))).2 (pc' := 28) (by decide) (by decide) ?_
 refine w_iloadN X20 hx (d14_28 hby) rfl (pc' := 29) rfl ?_
 refine w_iconst X20 hx (d14_29 hby) (v := (1 : Int32)) rfl (pc' := 30) rfl ?_
 refine w_ishl X20 hx (d14_30 hby) (pc' := 31) rfl ?_
 rw [show ((1 : Int32) <<< ((1 : Int32) &&& 31)) = (2 : Int32) from by decide]
 refine w_istoreN X20 hx (d14_31 hby) (L' := #[.val (.ref a0), .val (.int (2 : Int32)), .val (.int p2)]) rfl (pc' := 32) rfl ?_
 refine w_aloadN X20 hx (d14_32 hby) rfl rfl (pc' := 33) rfl ?_
 refine w_iloadN X20 hx (d14_33 hby) rfl (pc' := 34) rfl ?_
 refine w_iinc X20 hx (d14_34 hby) (v := (1 : Int32)) rfl rfl (L' := #[.val (.ref a0), .val (.int ((2 : Int32) + (1 : Int32))), .val (.int p2)]) rfl (pc' := 37) rfl ?_
 rw [show ((2 : Int32) + (1 : Int32)) = (3 : Int32) from by decide]
 refine w_iloadN X20 hx (d14_37 hby) rfl (pc' := 38) rfl ?_
 refine w_getS X20 hx "" hZ hown (Or.inl (wd_69 hw)) Via.refl e20 (zz3.ext O0.2) (d14_38 hby) (pc' := 41) rfl ?_
 intro T21 X21 e21
 refine w_ishr X21 hx (d14_41 hby) (pc' := 42) rfl ?_
 refine w_i2b X21 hx (d14_42 hby) (pc' := 43) rfl ?_
 obtain ⟨clu22, Aru22, qu22, Su22, Nu22, Hu22, Gu22⟩ := id V_a0
 have hinu22 := inb_of (j := (2 : Int32)) Su22 ⟨by decide, by decide⟩
 refine w_stB X21 hx hZ e21 Aru22 hinu22 (d14_43 hby) (pc' := 44) rfl ?_
 intro T23 h23 X23 e23 W23
 have V24 : Arv Z h23 a0 k_a0 .byte (6 : Int32) [(.int jj0), (.int jj1), (.int (nar .byte ((p2 >>> ((0 : Int32) &&& 31)).toInt8.toInt32))), (.int (0 : Int32)), (.int (0 : Int32)), (.int (0 : Int32))] (.int (0 : Int32)) := Arv.set Aru22 qu22 Su22 Nu22 Hu22 Gu22 (fits_nar_byte _) W23 2 rfl (Nat.le_of_ble_eq_true rfl)
 have V25 : Arv Z h23 a0 k_a0 .byte (6 : Int32) [(.int jj0), (.int jj1), (.int ((p2 >>> ((0 : Int32) &&& 31)).toInt8.toInt32)), (.int (0 : Int32)), (.int (0 : Int32)), (.int (0 : Int32))] (.int (0 : Int32)) := by rw [nar_b] at V24; exact V24
 have K26 : Keep h0 h23 [a0] := (Keep.refl h0 [a0]).wr W23 (Or.inl (by simp))
 have N27 := Fr.snoc X23 N0 zz4
 refine w_aloadN X23 hx (d14_44 hby) rfl rfl (pc' := 45) rfl ?_
 refine w_iloadN X23 hx (d14_45 hby) rfl (pc' := 46) rfl ?_
 refine w_iloadN X23 hx (d14_46 hby) rfl (pc' := 47) rfl ?_
 have f28 : Old Z n0 h23 := (O0.wr W23 zz4)
 refine w_getS X23 hx "" hZ hown (Or.inl (wd_70 hw)) Via.refl e23 (zz5.ext f28.2) (d14_47 hby) (pc' := 50) rfl ?_
 intro T29 X29 e29
 refine w_ishr X29 hx (d14_50 hby) (pc' := 51) rfl ?_
 refine w_i2b X29 hx (d14_51 hby) (pc' := 52) rfl ?_
 obtain ⟨clu30, Aru30, qu30, Su30, Nu30, Hu30, Gu30⟩ := id V25
 have hinu30 := inb_of (j := (3 : Int32)) Su30 ⟨by decide, by decide⟩
 refine w_stB X29 hx hZ e29 Aru30 hinu30 (d14_52 hby) (pc' := 53) rfl ?_
 intro T31 h31 X31 e31 W31
 have V32 : Arv Z h31 a0 k_a0 .byte (6 : Int32) [(.int jj0), (.int jj1), (.int ((p2 >>> ((0 : Int32) &&& 31)).toInt8.toInt32)), (.int (nar .byte ((p2 >>> ((8 : Int32) &&& 31)).toInt8.toInt32))), (.int (0 : Int32)), (.int (0 : Int32))] (.int (0 : Int32)) := Arv.set Aru30 qu30 Su30 Nu30 Hu30 Gu30 (fits_nar_byte _) W31 3 rfl (Nat.le_of_ble_eq_true rfl)
 have V33 : Arv Z h31 a0 k_a0 .byte (6 : Int32) [(.int jj0), (.int jj1), (.int ((p2 >>> ((0 : Int32) &&& 31)).toInt8.toInt32)), (.int ((p2 >>> ((8 : Int32) &&& 31)).toInt8.toInt32)), (.int (0 : Int32)), (.int (0 : Int32))] (.int (0 : Int32)) := by rw [nar_b] at V32; exact V32
 have K34 : Keep h0 h31 [a0] := K26.wr W31 (Or.inl (by simp))
 have N35 := Fr.snoc X31 N27 zz4
 exact w_done X31 hlk (v := none) e31 (fun _ => rfl) (fun fs hr => X31.returnOut hx hret (d14_53 hby) hr) (by decide) (by decide) (⟨rfl, N35, K34, V33⟩)
theorem ef_m14_62 (m : MethodId) (a0 : Addr) (p2 : Int32)  : entryFrame m #[(.ref a0), (.int (2 : Int32)), (.int p2)] 3 = mkF m 0 #[.val (.ref a0), .val (.int (2 : Int32)), .val (.int p2)] [] := by first | (simp [entryFrame, mkF, argsToLocals, Value.category]; done) | rfl
def Q_m14_62 (Z : State) (a0 : Addr) (p2 : Int32) (k_a0 : ClassId) (jj0 : Int32) (jj1 : Int32) (jj2 : Int32) (jj3 : Int32) (h0 : Heap) (n0 : Nat) (v : Option Value) (h : Heap) (L : List Loc) : Prop := v = none ∧ Fr n0 L ∧ Keep h0 h [a0] ∧ Arv Z h a0 k_a0 .byte (6 : Int32) [(.int jj0), (.int jj1), (.int jj2), (.int jj3), (.int ((p2 >>> ((0 : Int32) &&& 31)).toInt8.toInt32)), (.int ((p2 >>> ((8 : Int32) &&& 31)).toInt8.toInt32))] (.int (0 : Int32))
theorem rm_m14_62 (l : Launch) (Z : State) (aZ : Array Value) (hw : ∀ d ∈ tables_1, d.before aZ Z = true) (ws : List Jvm.Cond) (a0 : Addr) (p2 : Int32) (k_a0 : ClassId) (jj0 : Int32) (jj1 : Int32) (jj2 : Int32) (jj3 : Int32) (h0 : Heap) (n0 : Nat) (Z0 : n0 ≤ h0.size) (zz4 : Sta Z Z.heap kc1 "$assertionsDisabled" "Z" (.int (1 : Int32))) (O0 : Old Z n0 h0) (zz5 : Sta Z Z.heap kc1 "HI_BYTE_SHIFT" "I" (.int (0 : Int32))) (V_a0 : Arv Z h0 a0 k_a0 .byte (6 : Int32) [(.int jj0), (.int jj1), (.int jj2), (.int jj3), (.int (0 : Int32)), (.int (0 : Int32))] (.int (0 : Int32))) (zz6 : n0 ≤ a0) (zz7 : Sta Z Z.heap kc1 "LO_BYTE_SHIFT" "I" (.int (8 : Int32))) :
    MetN l Z yn_14 jdk_52_method_4_code 3 none ws ({ frames := 0, cells := 0, slots := 0, locals := 0 } : Room) #[(.ref a0), (.int (2 : Int32)), (.int p2)] h0 (Q_m14_62 Z a0 p2 k_a0 jj0 jj1 jj2 jj3 h0 n0) := by
 refine MetN.of (plainFor_of_name pn_4) ?_
 intro p e s m below meth c s₁ hret hx hby hml hown hnm hlk hZ X0 e0
 have N0 := Fr.nil n0
 rw [ef_m14_62 m a0 p2]
 refine w_getS X0 hx "" hZ hown (Or.inl (wd_68 hw)) Via.refl e0 (zz4.ext O0.2) (d14_0 hby) (pc' := 3) rfl ?_
 intro T20 X20 e20
 refine w_ifY X20 hx (d14_3 hby) (feq (by decide : ¬ ((1 : Int32) = (0 : Int32)))).2 (pc' := 28) (by decide) (by decide) ?_
 refine w_iloadN X20 hx (d14_28 hby) rfl (pc' := 29) rfl ?_
 refine w_iconst X20 hx (d14_29 hby) (v := (1 : Int32)) rfl (pc' := 30) rfl ?_
 refine w_ishl X20 hx (d14_30 hby) (pc' := 31) rfl ?_
 rw [show ((2 : Int32) <<< ((1 : Int32) &&& 31)) = (4 : Int32) from by decide]
 refine w_istoreN X20 hx (d14_31 hby) (L' := #[.val (.ref a0), .val (.int (4 : Int32)), .val (.int p2)]) rfl (pc' := 32) rfl ?_
 refine w_aloadN X20 hx (d14_32 hby) rfl rfl (pc' := 33) rfl ?_
 refine w_iloadN X20 hx (d14_33 hby) rfl (pc' := 34) rfl ?_
 refine w_iinc X20 hx (d14_34 hby) (v := (1 : Int32)) rfl rfl (L' := #[.val (.ref a0), .val (.int ((4 : Int32) + (1 : Int32))), .val (.int p2)]) rfl (pc' := 37) rfl ?_
 rw [show ((4 : Int32) + (1 : Int32)) = (5 : Int32) from by decide]
 refine w_iloadN X20 hx (d14_37 hby) rfl (pc' := 38) rfl ?_
 refine w_getS X20 hx "" hZ hown (Or.inl (wd_69 hw)) Via.refl e20 (zz5.ext O0.2) (d14_38 hby) (pc' := 41) rfl ?_
 intro T21 X21 e21
 refine w_ishr X21 hx (d14_41 hby) (pc' := 42) rfl ?_
 refine w_i2b X21 hx (d14_42 hby) (pc' := 43) rfl ?_
 obtain ⟨clu22, Aru22, qu22, Su22, Nu22, Hu22, Gu22⟩ := id V_a0
 have hinu22 := inb_of (j := (4 : Int32)) Su22 ⟨by decide, by decide⟩
 refine w_stB X21 hx hZ e21 Aru22 hinu22 (d14_43 hby) (pc' := 44) rfl ?_
 intro T23 h23 X23 e23 W23
 have V24 : Arv Z h23 a0 k_a0 .byte (6 : Int32) [(.int jj0), (.int jj1), (.int jj2), (.int jj3), (.int (nar .byte ((p2 >>> ((0 : Int32) &&& 31)).toInt8.toInt32))), (.int (0 : Int32))] (.int (0 : Int32)) := Arv.set Aru22 qu22 Su22 Nu22 Hu22 Gu22 (fits_nar_byte _) W23 4 rfl (Nat.le_of_ble_eq_true rfl)
 have V25 : Arv Z h23 a0 k_a0 .byte (6 : Int32) [(.int jj0), (.int jj1), (.int jj2), (.int jj3), (.int ((p2 >>> ((0 : Int32) &&& 31)).toInt8.toInt32)), (.int (0 : Int32))] (.int (0 : Int32)) := by rw [nar_b] at V24; exact V24
 have K26 : Keep h0 h23 [a0] := (Keep.refl h0 [a0]).wr W23 (Or.inl (by simp))
 have N27 := Fr.snoc X23 N0 zz6
 refine w_aloadN X23 hx (d14_44 hby) rfl rfl (pc' := 45) rfl ?_
 refine w_iloadN X23 hx (d14_45 hby) rfl (pc' := 46) rfl ?_
 refine w_iloadN X23 hx (d14_46 hby) rfl (pc' := 47) rfl ?_
 have f28 : Old Z n0 h23 := (O0.wr W23 zz6)
 refine w_getS X23 hx "" hZ hown (Or.inl (wd_70 hw)) Via.refl e23 (zz7.ext f28.2) (d14_47 hby) (pc' := 50) rfl ?_
 intro T29 X29 e29
 refine w_ishr X29 hx (d14_50 hby) (pc' := 51) rfl ?_
 refine w_i2b X29 hx (d14_51 hby) (pc' := 52) rfl ?_
 obtain ⟨clu30, Aru30, qu30, Su30, Nu30, Hu30, Gu30⟩ := id V25
 have hinu30 := inb_of (j := (5 : Int32)) Su30 ⟨by decide, by decide⟩
 refine w_stB X29 hx hZ e29 Aru30 hinu30 (d14_52 hby) (pc' := 53) rfl ?_
 intro T31 h31 X31 e31 W31
 have V32 : Arv Z h31 a0 k_a0 .byte (6 : Int32) [(.int jj0), (.int jj1), (.int jj2), (.int jj3), (.int ((p2 >>> ((0 : Int32) &&& 31)).toInt8.toInt32)), (.int (nar .byte ((p2 >>> ((8 : Int32) &&& 31)).toInt8.toInt32)))] (.int (0 : Int32)) := Arv.set Aru30 qu30 Su30 Nu30 Hu30 Gu30 (fits_nar_byte _) W31 5 rfl (Nat.le_of_ble_eq_true rfl)
 have V33 : Arv Z h31 a0 k_a0 .byte (6 : Int32) [(.int jj0), (.int jj1), (.int jj2), (.int jj3), (.int ((p2 >>> ((0 : Int32) &&& 31)).toInt8.toInt32)), (.int ((p2 >>> ((8 : Int32) &&& 31)).toInt8.toInt32))] (.int (0 : Int32)) := by rw [nar_b] at V32; exact V32
 have K34 : Keep h0 h31 [a0] := K26.wr W31 (Or.inl (by simp))
 have N35 := Fr.snoc X31 N27 zz6
 exact w_done X31 hlk (v := none) e31 (fun _ => rfl) (fun fs hr => X31.returnOut hx hret (d14_53 hby) hr) (by decide) (by decide) (⟨rfl, N35, K34, V33⟩)
theorem ef_m11_57 (m : MethodId) (a0 : Addr)  : entryFrame m #[(.ref a0), (.int (0 : Int32)), (.int (3 : Int32))] 5 = mkF m 0 #[.val (.ref a0), .val (.int (0 : Int32)), .val (.int (3 : Int32)), .unset, .unset] [] := by first | (simp [entryFrame, mkF, argsToLocals, Value.category]; done) | rfl
def Q_m11_57 (Z : State) (a0 : Addr) (k_a0 : ClassId) (jj0 : Int32) (jj1 : Int32) (jj2 : Int32) (h0 : Heap) (n0 : Nat) (v : Option Value) (h : Heap) (L : List Loc) : Prop := ∃ (r0 : Addr) (c0 : ClassId), v = some (.ref r0) ∧ Fr n0 L ∧ Keep h0 h [] ∧ h0.size ≤ r0 ∧ Arv Z h r0 c0 .byte (6 : Int32) [(.int ((jj0 >>> ((0 : Int32) &&& 31)).toInt8.toInt32)), (.int ((jj0 >>> ((8 : Int32) &&& 31)).toInt8.toInt32)), (.int ((jj1 >>> ((0 : Int32) &&& 31)).toInt8.toInt32)), (.int ((jj1 >>> ((8 : Int32) &&& 31)).toInt8.toInt32)), (.int ((jj2 >>> ((0 : Int32) &&& 31)).toInt8.toInt32)), (.int ((jj2 >>> ((8 : Int32) &&& 31)).toInt8.toInt32))] (.int (0 : Int32))
theorem rm_m11_57 (l : Launch) (Z : State) (aZ : Array Value) (hw : ∀ d ∈ tables_1, d.before aZ Z = true) (ws : List Jvm.Cond) (a0 : Addr) (k_a0 : ClassId) (jj0 : Int32) (jj1 : Int32) (jj2 : Int32) (h0 : Heap) (n0 : Nat) (Z0 : n0 ≤ h0.size) (V_a0 : Arv Z h0 a0 k_a0 .char (3 : Int32) [(.int jj0), (.int jj1), (.int jj2)] (.int (0 : Int32))) (zz3 : Sta Z Z.heap kc1 "$assertionsDisabled" "Z" (.int (1 : Int32))) (O0 : Old Z n0 h0) (zz4 : Sta Z Z.heap kc1 "HI_BYTE_SHIFT" "I" (.int (0 : Int32))) (zz5 : Sta Z Z.heap kc1 "LO_BYTE_SHIFT" "I" (.int (8 : Int32))) :
    MetN l Z yn_11 jdk_52_method_14_code 5 (some (.array .byte)) ws ({ frames := 2, cells := 1, slots := 6, locals := 24 } : Room) #[(.ref a0), (.int (0 : Int32)), (.int (3 : Int32))] h0 (Q_m11_57 Z a0 k_a0 jj0 jj1 jj2 h0 n0) := by
 refine MetN.of (plainFor_of_name pn_4) ?_
 intro p e s m below meth c s₁ hret hx hby hml hown hnm hlk hZ X0 e0
 have N0 := Fr.nil n0
 rw [ef_m11_57 m a0]
 refine w_iloadN X0 hx (d11_0 hby) rfl (pc' := 1) rfl ?_
 refine w_static X0 hx (y := yn_12) hown (mvT hZ (wd_58 hw)) (mvT hZ (wd_59 hw)) (mvT hZ (wd_47 hw)) (mvT hZ (wd_60 hw)) (by decide) (backOf (W := 0) (rm_m12_58 l Z aZ hw []  h0 n0 Z0 ) hZ (wd_60 hw) (wd_47 hw) (by decide) (by decide)) (by rw [hml]; rfl) [(.int (3 : Int32))] (lenOf pd_8 rfl) rfl (Nat.le_of_eq rfl) (d11_1 hby) (fun _ _ => ⟨rfl, e0, (by decide : 0 + 1 ≤ _), (by decide : 0 + 6 ≤ _)⟩) (pc' := 4) rfl ?_
 rintro _ _ ⟨T20, L20, k20, n20⟩ X20 ⟨Lc20, hQ20, l20, y20, z20⟩
 dsimp only [Pt.U, Pt.locs, Pt.cells, Pt.slots] at X20 l20 y20 z20 hQ20 ⊢
 subst l20 y20 z20
 obtain ⟨r0_20, c0_20, rfl, N20q, K20, g20_0, g20_1⟩ := hQ20
 have N21 := Fr.app N0 N20q
 have K22 : Keep h0 T20.heap [] := (Keep.refl h0 []).trans K20 (all0 (P := fun x => x ∈ [] ∨ h0.size ≤ x))
 have ge23 : n0 ≤ r0_20 := Nat.le_trans Z0 g20_0
 have sz24 : h0.size ≤ r0_20 := Nat.le_trans (Nat.le_refl _) g20_0
 show Runs _ _ _ _ (T20.setTop (mkF m 4 #[.val (.ref a0), .val (.int (0 : Int32)), .val (.int (3 : Int32)), .unset, .unset] [(.ref r0_20)]))
 refine w_astoreN X20 hx (d11_4 hby) rfl (L' := #[.val (.ref a0), .val (.int (0 : Int32)), .val (.int (3 : Int32)), .val (.ref r0_20), .unset]) rfl (pc' := 5) rfl ?_
 refine w_iconst X20 hx (d11_5 hby) (v := (0 : Int32)) rfl (pc' := 6) rfl ?_
 refine w_istore X20 hx (d11_6 hby) (L' := #[.val (.ref a0), .val (.int (0 : Int32)), .val (.int (3 : Int32)), .val (.ref r0_20), .val (.int (0 : Int32))]) rfl (pc' := 8) rfl ?_
 refine w_iload X20 hx (d11_8 hby) rfl (pc' := 10) rfl ?_
 refine w_iloadN X20 hx (d11_10 hby) rfl (pc' := 11) rfl ?_
 refine w_icN X20 hx (d11_11 hby) (tlt (by decide : (0 : Int32) < (3 : Int32))).2.1 (pc' := 14) rfl ?_
 refine w_aloadN X20 hx (d11_14 hby) rfl rfl (pc' := 15) rfl ?_
 refine w_iload X20 hx (d11_15 hby) rfl (pc' := 17) rfl ?_
 refine w_aloadN X20 hx (d11_17 hby) rfl rfl (pc' := 18) rfl ?_
 refine w_iloadN X20 hx (d11_18 hby) rfl (pc' := 19) rfl ?_
 have f25 : Arv Z T20.heap a0 k_a0 .char (3 : Int32) [(.int jj0), (.int jj1), (.int jj2)] (.int (0 : Int32)) := (V_a0.keep K20 nin0)
 obtain ⟨clu26, Aru26, qu26, Su26, Nu26, Hu26, Gu26⟩ := id f25
 have hinu26 := inb_of (j := (0 : Int32)) Su26 ⟨by decide, by decide⟩
 refine w_caload X20 hx hZ rfl Aru26 hinu26 (Hu26.at hinu26 rfl) (d11_19 hby) (pc' := 20) rfl ?_
 have f29 : Old Z n0 T20.heap := (O0.keep K20 all0)
 refine w_static X20 hx (y := yn_14) hown (mvT hZ (wd_65 hw)) (mvT hZ (wd_66 hw)) (mvT hZ (wd_47 hw)) (mvT hZ (wd_67 hw)) (by decide) (backOf (W := 0) (rm_m14_60 l Z aZ hw [] r0_20 jj0 c0_20 T20.heap n0 (Nat.le_trans Z0 K20.1) zz3 f29 zz4 g20_1 ge23 zz5) hZ (wd_67 hw) (wd_47 hw) (by decide) (by decide)) (by rw [hml]; rfl) [(.ref r0_20), (.int (0 : Int32)), (.int jj0)] (lenOf pd_9 rfl) rfl (Nat.le_of_eq rfl) (d11_20 hby) (fun _ _ => ⟨rfl, rfl, (by decide : 1 + 0 ≤ _), (by decide : 6 + 0 ≤ _)⟩) (pc' := 23) rfl ?_
 rintro _ _ ⟨T30, L30, k30, n30⟩ X30 ⟨Lc30, hQ30, l30, y30, z30⟩
 dsimp only [Pt.U, Pt.locs, Pt.cells, Pt.slots] at X30 l30 y30 z30 hQ30 ⊢
 subst l30 y30 z30
 obtain ⟨rfl, N30q, K30, g30_0⟩ := hQ30
 have N31 := Fr.app N21 N30q
 have K32 : Keep h0 T30.heap [] := K22.trans K30 (allS (Or.inr sz24) (all0 (P := fun x => x ∈ [] ∨ h0.size ≤ x)))
 show Runs _ _ _ _ (T30.setTop (mkF m 23 #[.val (.ref a0), .val (.int (0 : Int32)), .val (.int (3 : Int32)), .val (.ref r0_20), .val (.int (0 : Int32))] []))
 refine w_iinc X30 hx (d11_23 hby) (v := (1 : Int32)) rfl rfl (L' := #[.val (.ref a0), .val (.int ((0 : Int32) + (1 : Int32))), .val (.int (3 : Int32)), .val (.ref r0_20), .val (.int (0 : Int32))]) rfl (pc' := 26) rfl ?_
 rw [show ((0 : Int32) + (1 : Int32)) = (1 : Int32) from by decide]
 refine w_iinc X30 hx (d11_26 hby) (v := (1 : Int32)) rfl rfl (L' := #[.val (.ref a0), .val (.int (1 : Int32)), .val (.int (3 : Int32)), .val (.ref r0_20), .val (.int ((0 : Int32) + (1 : Int32)))]) rfl (pc' := 29) rfl ?_
 rw [show ((0 : Int32) + (1 : Int32)) = (1 : Int32) from by decide]
 refine w_goto X30 hx (d11_29 hby) (pc' := 8) (by decide) (by decide) ?_
 refine w_iload X30 hx (d11_8 hby) rfl (pc' := 10) rfl ?_
 refine w_iloadN X30 hx (d11_10 hby) rfl (pc' := 11) rfl ?_
 refine w_icN X30 hx (d11_11 hby) (tlt (by decide : (1 : Int32) < (3 : Int32))).2.1 (pc' := 14) rfl ?_
 refine w_aloadN X30 hx (d11_14 hby) rfl rfl (pc' := 15) rfl ?_
 refine w_iload X30 hx (d11_15 hby) rfl (pc' := 17) rfl ?_
 refine w_aloadN X30 hx (d11_17 hby) rfl rfl (pc' := 18) rfl ?_
 refine w_iloadN X30 hx (d11_18 hby) rfl (pc' := 19) rfl ?_
 have ne33 : a0 ≠ r0_20 := (Nat.ne_of_lt (Nat.lt_of_lt_of_le V_a0.lt (Nat.le_trans (Nat.le_refl _) g20_0)))
 have f34 : Arv Z T30.heap a0 k_a0 .char (3 : Int32) [(.int jj0), (.int jj1), (.int jj2)] (.int (0 : Int32)) := (f25.keep K30 (ninS ne33 nin0))
 obtain ⟨clu35, Aru35, qu35, Su35, Nu35, Hu35, Gu35⟩ := id f34
 have hinu35 := inb_of (j := (1 : Int32)) Su35 ⟨by decide, by decide⟩
 refine w_caload X30 hx hZ rfl Aru35 hinu35 (Hu35.at hinu35 rfl) (d11_19 hby) (pc' := 20) rfl ?_
 have f37 : Old Z n0 T30.heap := (f29.keep K30 (allS ge23 all0))
 have le38 : h0.size ≤ T30.heap.size := (Nat.le_trans K20.1 K30.1)
 refine w_static X30 hx (y := yn_14) hown (mvT hZ (wd_65 hw)) (mvT hZ (wd_66 hw)) (mvT hZ (wd_47 hw)) (mvT hZ (wd_67 hw)) (by decide) (backOf (W := 0) (rm_m14_61 l Z aZ hw [] r0_20 jj1 c0_20 ((jj0 >>> ((0 : Int32) &&& 31)).toInt8.toInt32) ((jj0 >>> ((8 : Int32) &&& 31)).toInt8.toInt32) T30.heap n0 (Nat.le_trans Z0 le38) zz3 f37 zz4 g30_0 ge23 zz5) hZ (wd_67 hw) (wd_47 hw) (by decide) (by decide)) (by rw [hml]; rfl) [(.ref r0_20), (.int (1 : Int32)), (.int jj1)] (lenOf pd_9 rfl) rfl (Nat.le_of_eq rfl) (d11_20 hby) (fun _ _ => ⟨rfl, rfl, (by decide : 1 + 0 ≤ _), (by decide : 6 + 0 ≤ _)⟩) (pc' := 23) rfl ?_
 rintro _ _ ⟨T39, L39, k39, n39⟩ X39 ⟨Lc39, hQ39, l39, y39, z39⟩
 dsimp only [Pt.U, Pt.locs, Pt.cells, Pt.slots] at X39 l39 y39 z39 hQ39 ⊢
 subst l39 y39 z39
 obtain ⟨rfl, N39q, K39, g39_0⟩ := hQ39
 have N40 := Fr.app N31 N39q
 have K41 : Keep h0 T39.heap [] := K32.trans K39 (allS (Or.inr sz24) (all0 (P := fun x => x ∈ [] ∨ h0.size ≤ x)))
 show Runs _ _ _ _ (T39.setTop (mkF m 23 #[.val (.ref a0), .val (.int (1 : Int32)), .val (.int (3 : Int32)), .val (.ref r0_20), .val (.int (1 : Int32))] []))
 refine w_iinc X39 hx (d11_23 hby) (v := (1 : Int32)) rfl rfl (L' := #[.val (.ref a0), .val (.int ((1 : Int32) + (1 : Int32))), .val (.int (3 : Int32)), .val (.ref r0_20), .val (.int (1 : Int32))]) rfl (pc' := 26) rfl ?_
 rw [show ((1 : Int32) + (1 : Int32)) = (2 : Int32) from by decide]
 refine w_iinc X39 hx (d11_26 hby) (v := (1 : Int32)) rfl rfl (L' := #[.val (.ref a0), .val (.int (2 : Int32)), .val (.int (3 : Int32)), .val (.ref r0_20), .val (.int ((1 : Int32) + (1 : Int32)))]) rfl (pc' := 29) rfl ?_
 rw [show ((1 : Int32) + (1 : Int32)) = (2 : Int32) from by decide]
 refine w_goto X39 hx (d11_29 hby) (pc' := 8) (by decide) (by decide) ?_
 refine w_iload X39 hx (d11_8 hby) rfl (pc' := 10) rfl ?_
 refine w_iloadN X39 hx (d11_10 hby) rfl (pc' := 11) rfl ?_
 refine w_icN X39 hx (d11_11 hby) (tlt (by decide : (2 : Int32) < (3 : Int32))).2.1 (pc' := 14) rfl ?_
 refine w_aloadN X39 hx (d11_14 hby) rfl rfl (pc' := 15) rfl ?_
 refine w_iload X39 hx (d11_15 hby) rfl (pc' := 17) rfl ?_
 refine w_aloadN X39 hx (d11_17 hby) rfl rfl (pc' := 18) rfl ?_
 refine w_iloadN X39 hx (d11_18 hby) rfl (pc' := 19) rfl ?_
 have f42 : Arv Z T39.heap a0 k_a0 .char (3 : Int32) [(.int jj0), (.int jj1), (.int jj2)] (.int (0 : Int32)) := (f34.keep K39 (ninS ne33 nin0))
 obtain ⟨clu43, Aru43, qu43, Su43, Nu43, Hu43, Gu43⟩ := id f42
 have hinu43 := inb_of (j := (2 : Int32)) Su43 ⟨by decide, by decide⟩
 refine w_caload X39 hx hZ rfl Aru43 hinu43 (Hu43.at hinu43 rfl) (d11_19 hby) (pc' := 20) rfl ?_
 have f44 : Old Z n0 T39.heap := (f37.keep K39 (allS ge23 all0))
 have le45 : h0.size ≤ T39.heap.size := (Nat.le_trans le38 K39.1)
 refine w_static X39 hx (y := yn_14) hown (mvT hZ (wd_65 hw)) (mvT hZ (wd_66 hw)) (mvT hZ (wd_47 hw)) (mvT hZ (wd_67 hw)) (by decide) (backOf (W := 0) (rm_m14_62 l Z aZ hw [] r0_20 jj2 c0_20 ((jj0 >>> ((0 : Int32) &&& 31)).toInt8.toInt32) ((jj0 >>> ((8 : Int32) &&& 31)).toInt8.toInt32) ((jj1 >>> ((0 : Int32) &&& 31)).toInt8.toInt32) ((jj1 >>> ((8 : Int32) &&& 31)).toInt8.toInt32) T39.heap n0 (Nat.le_trans Z0 le45) zz3 f44 zz4 g39_0 ge23 zz5) hZ (wd_67 hw) (wd_47 hw) (by decide) (by decide)) (by rw [hml]; rfl) [(.ref r0_20), (.int (2 : Int32)), (.int jj2)] (lenOf pd_9 rfl) rfl (Nat.le_of_eq rfl) (d11_20 hby) (fun _ _ => ⟨rfl, rfl, (by decide : 1 + 0 ≤ _), (by decide : 6 + 0 ≤ _)⟩) (pc' := 23) rfl ?_
 rintro _ _ ⟨T46, L46, k46, n46⟩ X46 ⟨Lc46, hQ46, l46, y46, z46⟩
 dsimp only [Pt.U, Pt.locs, Pt.cells, Pt.slots] at X46 l46 y46 z46 hQ46 ⊢
 subst l46 y46 z46
 obtain ⟨rfl, N46q, K46, g46_0⟩ := hQ46
 have N47 := Fr.app N40 N46q
 have K48 : Keep h0 T46.heap [] := K41.trans K46 (allS (Or.inr sz24) (all0 (P := fun x => x ∈ [] ∨ h0.size ≤ x)))
 show Runs _ _ _ _ (T46.setTop (mkF m 23 #[.val (.ref a0), .val (.int (2 : Int32)), .val (.int (3 : Int32)), .val (.ref r0_20), .val (.int (2 : Int32))] []))
 refine w_iinc X46 hx (d11_23 hby) (v := (1 : Int32)) rfl rfl (L' := #[.val (.ref a0), .val (.int ((2 : Int32) + (1 : Int32))), .val (.int (3 : Int32)), .val (.ref r0_20), .val (.int (2 : Int32))]) rfl (pc' := 26) rfl ?_
 rw [show ((2 : Int32) + (1 : Int32)) = (3 : Int32) from by decide]
 refine w_iinc X46 hx (d11_26 hby) (v := (1 : Int32)) rfl rfl (L' := #[.val (.ref a0), .val (.int (3 : Int32)), .val (.int (3 : Int32)), .val (.ref r0_20), .val (.int ((2 : Int32) + (1 : Int32)))]) rfl (pc' := 29) rfl ?_
 rw [show ((2 : Int32) + (1 : Int32)) = (3 : Int32) from by decide]
 refine w_goto X46 hx (d11_29 hby) (pc' := 8) (by decide) (by decide) ?_
 refine w_iload X46 hx (d11_8 hby) rfl (pc' := 10) rfl ?_
 refine w_iloadN X46 hx (d11_10 hby) rfl (pc' := 11) rfl ?_
 refine w_icY X46 hx (d11_11 hby) (flt (by decide : ¬ ((3 : Int32) < (3 : Int32)))).2.1 (pc' := 32) (by decide) (by decide) ?_
 refine w_aloadN X46 hx (d11_32 hby) rfl rfl (pc' := 33) rfl ?_
 exact w_done X46 hlk (v := some (.ref r0_20)) rfl (fun h => by rw [hret] at h; cases h) (fun fs hr => retOut X46 hx hret rfl (Or.inr (Or.inr (Or.inr (Or.inr ⟨rfl, rfl, rfl⟩)))) (d11_33 hby) hr) (by decide) (by decide) (⟨r0_20, c0_20, rfl, N47, K48, sz24, g46_0⟩)
theorem ef_m15_63 (m : MethodId) (a0 : Addr) (p1 : Int32)  : entryFrame m #[(.ref a0), (.int p1)] 2 = mkF m 0 #[.val (.ref a0), .val (.int p1)] [] := by first | (simp [entryFrame, mkF, argsToLocals, Value.category]; done) | rfl
def Q_m15_63 (Z : State) (a0 : Addr) (p1 : Int32) (k_a0 : ClassId) (jj0 : Int32) (jj1 : Int32) (jj2 : Int32) (jj3 : Int32) (jj4 : Int32) (jj5 : Int32) (h0 : Heap) (n0 : Nat) (v : Option Value) (h : Heap) (L : List Loc) : Prop := v = some (.int (((((gI [jj0, jj1, jj2, jj3, jj4, jj5] (p1 <<< ((1 : Int32) &&& 31))) &&& (255 : Int32)) <<< ((0 : Int32) &&& 31)) ||| (((gI [jj0, jj1, jj2, jj3, jj4, jj5] ((p1 <<< ((1 : Int32) &&& 31)) + (1 : Int32))) &&& (255 : Int32)) <<< ((8 : Int32) &&& 31))).toUInt32.toUInt16.toUInt32.toInt32)) ∧ Fr n0 L ∧ h = h0
theorem rm_m15_63 (l : Launch) (Z : State) (aZ : Array Value) (hw : ∀ d ∈ tables_1, d.before aZ Z = true) (ws : List Jvm.Cond) (a0 : Addr) (p1 : Int32) (k_a0 : ClassId) (jj0 : Int32) (jj1 : Int32) (jj2 : Int32) (jj3 : Int32) (jj4 : Int32) (jj5 : Int32) (h0 : Heap) (n0 : Nat) (Z0 : n0 ≤ h0.size) (zz6 : Sta Z Z.heap kc1 "$assertionsDisabled" "Z" (.int (1 : Int32))) (O0 : Old Z n0 h0) (V_a0 : Arv Z h0 a0 k_a0 .byte (6 : Int32) [(.int jj0), (.int jj1), (.int jj2), (.int jj3), (.int jj4), (.int jj5)] (.int (0 : Int32))) (hP_3 : ¬ (p1 < (0 : Int32))) (hP_4 : p1 < (3 : Int32)) (zz7 : Sta Z Z.heap kc1 "HI_BYTE_SHIFT" "I" (.int (0 : Int32))) (zz8 : Sta Z Z.heap kc1 "LO_BYTE_SHIFT" "I" (.int (8 : Int32))) :
    MetN l Z yn_15 jdk_52_method_5_code 2 (some .char) ws ({ frames := 0, cells := 0, slots := 0, locals := 0 } : Room) #[(.ref a0), (.int p1)] h0 (Q_m15_63 Z a0 p1 k_a0 jj0 jj1 jj2 jj3 jj4 jj5 h0 n0) := by
 refine MetN.of (plainFor_of_name pn_4) ?_
 intro p e s m below meth c s₁ hret hx hby hml hown hnm hlk hZ X0 e0
 have N0 := Fr.nil n0
 rw [ef_m15_63 m a0 p1]
 refine w_getS X0 hx "" hZ hown (Or.inl (wd_68 hw)) Via.refl e0 (zz6.ext O0.2) (d15_0 hby) (pc' := 3) rfl ?_
 intro T20 X20 e20
 refine w_ifY X20 hx (d15_3 hby) (feq (by decide : ¬ ((1 : Int32) = (0 : Int32)))).2 (pc' := 28) (by decide) (by decide) ?_
 refine w_iloadN X20 hx (d15_28 hby) rfl (pc' := 29) rfl ?_
 refine w_iconst X20 hx (d15_29 hby) (v := (1 : Int32)) rfl (pc' := 30) rfl ?_
 refine w_ishl X20 hx (d15_30 hby) (pc' := 31) rfl ?_
 refine w_istoreN X20 hx (d15_31 hby) (L' := #[.val (.ref a0), .val (.int (p1 <<< ((1 : Int32) &&& 31)))]) rfl (pc' := 32) rfl ?_
 refine w_aloadN X20 hx (d15_32 hby) rfl rfl (pc' := 33) rfl ?_
 refine w_iloadN X20 hx (d15_33 hby) rfl (pc' := 34) rfl ?_
 refine w_iinc X20 hx (d15_34 hby) (v := (1 : Int32)) rfl rfl (L' := #[.val (.ref a0), .val (.int ((p1 <<< ((1 : Int32) &&& 31)) + (1 : Int32)))]) rfl (pc' := 37) rfl ?_
 obtain ⟨clu21, Aru21, qu21, Su21, Nu21, Hu21, Gu21⟩ := id V_a0
 have hinu21 := inb_of (j := (p1 <<< ((1 : Int32) &&& 31))) Su21 ⟨(own_shl_in (n := 3) (by decide) (by decide) hP_3 hP_4).1.1, (Eq.mp (congrArg (fun z => (p1 <<< ((1 : Int32) &&& 31)) < z) (by decide : (3 : Int32) <<< ((1 : Int32) &&& 31) = 6)) (own_shl_in (n := 3) (by decide) (by decide) hP_3 hP_4).1.2)⟩
 refine w_baload X20 hx hZ e20 Aru21 hinu21 (Hu21.at hinu21 (own_gI [jj0, jj1, jj2, jj3, jj4, jj5] (p1 <<< ((1 : Int32) &&& 31)))) (d15_37 hby) (pc' := 38) rfl ?_
 refine w_sipush X20 hx (d15_38 hby) (v := (255 : Int32)) rfl (pc' := 41) rfl ?_
 refine w_iand X20 hx (d15_41 hby) (pc' := 42) rfl ?_
 refine w_getS X20 hx "" hZ hown (Or.inl (wd_69 hw)) Via.refl e20 (zz7.ext O0.2) (d15_42 hby) (pc' := 45) rfl ?_
 intro T22 X22 e22
 refine w_ishl X22 hx (d15_45 hby) (pc' := 46) rfl ?_
 refine w_aloadN X22 hx (d15_46 hby) rfl rfl (pc' := 47) rfl ?_
 refine w_iloadN X22 hx (d15_47 hby) rfl (pc' := 48) rfl ?_
 obtain ⟨clu23, Aru23, qu23, Su23, Nu23, Hu23, Gu23⟩ := id V_a0
 have hinu23 := inb_of (j := ((p1 <<< ((1 : Int32) &&& 31)) + (1 : Int32))) Su23 ⟨(own_shl_in (n := 3) (by decide) (by decide) hP_3 hP_4).2.1, (Eq.mp (congrArg (fun z => ((p1 <<< ((1 : Int32) &&& 31)) + (1 : Int32)) < z) (by decide : (3 : Int32) <<< ((1 : Int32) &&& 31) = 6)) (own_shl_in (n := 3) (by decide) (by decide) hP_3 hP_4).2.2)⟩
 refine w_baload X22 hx hZ e22 Aru23 hinu23 (Hu23.at hinu23 (own_gI [jj0, jj1, jj2, jj3, jj4, jj5] ((p1 <<< ((1 : Int32) &&& 31)) + (1 : Int32)))) (d15_48 hby) (pc' := 49) rfl ?_
 refine w_sipush X22 hx (d15_49 hby) (v := (255 : Int32)) rfl (pc' := 52) rfl ?_
 refine w_iand X22 hx (d15_52 hby) (pc' := 53) rfl ?_
 refine w_getS X22 hx "" hZ hown (Or.inl (wd_70 hw)) Via.refl e22 (zz8.ext O0.2) (d15_53 hby) (pc' := 56) rfl ?_
 intro T24 X24 e24
 refine w_ishl X24 hx (d15_56 hby) (pc' := 57) rfl ?_
 refine w_ior X24 hx (d15_57 hby) (pc' := 58) rfl ?_
 refine w_i2c X24 hx (d15_58 hby) (pc' := 59) rfl ?_
 exact w_done X24 hlk (v := some (.int (((((gI [jj0, jj1, jj2, jj3, jj4, jj5] (p1 <<< ((1 : Int32) &&& 31))) &&& (255 : Int32)) <<< ((0 : Int32) &&& 31)) ||| (((gI [jj0, jj1, jj2, jj3, jj4, jj5] ((p1 <<< ((1 : Int32) &&& 31)) + (1 : Int32))) &&& (255 : Int32)) <<< ((8 : Int32) &&& 31))).toUInt32.toUInt16.toUInt32.toInt32))) e24 (fun h => by rw [hret] at h; cases h) (fun fs hr => retOut X24 hx hret (t := .char) (XT.narrow_c _) (Or.inl ⟨rfl, by simp, _, rfl⟩) (d15_59 hby) hr) (by decide) (by decide) (⟨rfl, N0, rfl⟩)
theorem ef_m8_55 (m : MethodId) (a0 : Addr)  : entryFrame m #[(.ref a0), (.int (0 : Int32)), (.int (3 : Int32))] 6 = mkF m 0 #[.val (.ref a0), .val (.int (0 : Int32)), .val (.int (3 : Int32)), .unset, .unset, .unset] [] := by first | (simp [entryFrame, mkF, argsToLocals, Value.category]; done) | rfl
def Q_m8_55 (Z : State) (a0 : Addr) (k_a0 : ClassId) (jj0 : Int32) (jj1 : Int32) (jj2 : Int32) (h0 : Heap) (n0 : Nat) (v : Option Value) (h : Heap) (L : List Loc) : Prop := (∃ (t : Addr) (kb : ClassId), v = some (.ref t) ∧ Fr n0 L ∧ Keep h0 h [] ∧ h0.size ≤ t ∧ Arv Z h t kb .byte (3 : Int32) [(.int (jj0.toInt8.toInt32)), (.int (jj1.toInt8.toInt32)), (.int (jj2.toInt8.toInt32))] (.int (0 : Int32)) ∧ ¬ ((255 : Int32) < jj0) ∧ ¬ ((255 : Int32) < jj1) ∧ ¬ ((255 : Int32) < jj2)) ∨ (∃ (t : Addr) (kb : ClassId), v = some (.ref t) ∧ Fr n0 L ∧ Keep h0 h [] ∧ h0.size ≤ t ∧ Arv Z h t kb .byte (6 : Int32) [(.int ((jj0 >>> ((0 : Int32) &&& 31)).toInt8.toInt32)), (.int ((jj0 >>> ((8 : Int32) &&& 31)).toInt8.toInt32)), (.int ((jj1 >>> ((0 : Int32) &&& 31)).toInt8.toInt32)), (.int ((jj1 >>> ((8 : Int32) &&& 31)).toInt8.toInt32)), (.int ((jj2 >>> ((0 : Int32) &&& 31)).toInt8.toInt32)), (.int ((jj2 >>> ((8 : Int32) &&& 31)).toInt8.toInt32))] (.int (0 : Int32)) ∧ ((255 : Int32) < jj0 ∨ (255 : Int32) < jj1 ∨ (255 : Int32) < jj2))
theorem rm_m8_55 (l : Launch) (Z : State) (aZ : Array Value) (hw : ∀ d ∈ tables_1, d.before aZ Z = true) (ws : List Jvm.Cond) (a0 : Addr) (k_a0 : ClassId) (jj0 : Int32) (jj1 : Int32) (jj2 : Int32) (h0 : Heap) (n0 : Nat) (Z0 : n0 ≤ h0.size) (V_a0 : Arv Z h0 a0 k_a0 .char (3 : Int32) [(.int jj0), (.int jj1), (.int jj2)] (.int (0 : Int32))) (zz3 : Sta Z Z.heap kc1 "$assertionsDisabled" "Z" (.int (1 : Int32))) (O0 : Old Z n0 h0) (zz4 : Sta Z Z.heap kc1 "HI_BYTE_SHIFT" "I" (.int (0 : Int32))) (zz5 : Sta Z Z.heap kc1 "LO_BYTE_SHIFT" "I" (.int (8 : Int32))) (zz6 : nar .char jj0 = jj0) (zz7 : nar .char jj1 = jj1) (zz8 : nar .char jj2 = jj2) :
    MetN l Z yn_8 jdk_52_method_16_code 6 (some (.array .byte)) ws ({ frames := 3, cells := 2, slots := 9, locals := 40 } : Room) #[(.ref a0), (.int (0 : Int32)), (.int (3 : Int32))] h0 (Q_m8_55 Z a0 k_a0 jj0 jj1 jj2 h0 n0) := by
 refine MetN.of (plainFor_of_name pn_4) ?_
 intro p e s m below meth c s₁ hret hx hby hml hown hnm hlk hZ X0 e0
 have N0 := Fr.nil n0
 rw [ef_m8_55 m a0]
 refine w_iloadN X0 hx (d8_0 hby) rfl (pc' := 1) rfl ?_
 refine w_newP X0 hx .byte .byte 3 rfl hZ (wd_21 hw) e0 (d8_1 hby) (by decide) (by decide) (by decide) (by decide) (by decide) (pc' := 3) rfl ?_
 intro T20 h20 k20 b20 X20 e20 E20 g20 A20
 have ge21 : n0 ≤ b20 := Nat.le_trans Z0 (Nat.le_of_eq g20.symm)
 have sz22 : h0.size ≤ b20 := Nat.le_trans (Nat.le_refl _) (Nat.le_of_eq g20.symm)
 have K23 : Keep h0 h20 [] := (Keep.refl h0 []).ext E20
 have V24 : Arv Z h20 b20 k20 .byte (3 : Int32) [(.int (0 : Int32)), (.int (0 : Int32)), (.int (0 : Int32))] (.int (0 : Int32)) := (Arv.new A20 (by decide)).pad (pad_rep [] (.int (0 : Int32)) 3)
 refine w_astoreN X20 hx (d8_3 hby) rfl (L' := #[.val (.ref a0), .val (.int (0 : Int32)), .val (.int (3 : Int32)), .val (.ref b20), .unset, .unset]) rfl (pc' := 4) rfl ?_
 refine w_aloadN X20 hx (d8_4 hby) rfl rfl (pc' := 5) rfl ?_
 refine w_iloadN X20 hx (d8_5 hby) rfl (pc' := 6) rfl ?_
 refine w_aloadN X20 hx (d8_6 hby) rfl rfl (pc' := 7) rfl ?_
 refine w_iconst X20 hx (d8_7 hby) (v := (0 : Int32)) rfl (pc' := 8) rfl ?_
 refine w_iloadN X20 hx (d8_8 hby) rfl (pc' := 9) rfl ?_
 have f25 : Arv Z h20 a0 k_a0 .char (3 : Int32) [(.int jj0), (.int jj1), (.int jj2)] (.int (0 : Int32)) := (V_a0.ext E20)
 have ne26 : a0 ≠ b20 := (Nat.ne_of_lt (Nat.lt_of_lt_of_le V_a0.lt (Nat.le_trans (Nat.le_refl _) (Nat.le_of_eq g20.symm))))
 refine w_static X20 hx (y := yn_9) hown (mvT hZ (wd_49 hw)) (mvT hZ (wd_50 hw)) (mvT hZ (wd_47 hw)) (mvT hZ (wd_51 hw)) (by decide) (backOf (W := 0) (rm_m9_56 l Z aZ hw [] a0 b20 k_a0 jj0 jj1 jj2 k20 h20 n0 (Nat.le_trans Z0 E20.1) f25 V24 ge21 ne26) hZ (wd_51 hw) (wd_47 hw) (by decide) (by decide)) (by rw [hml]; rfl) [(.ref a0), (.int (0 : Int32)), (.ref b20), (.int (0 : Int32)), (.int (3 : Int32))] (lenOf pd_6 rfl) rfl (Nat.le_of_eq rfl) (d8_9 hby) (fun _ _ => ⟨rfl, e20, (by decide : 1 + 0 ≤ _), (by decide : 3 + 0 ≤ _)⟩) (pc' := 12) rfl ?_
 rintro _ _ ⟨T27, L27, k27, n27⟩ X27 ⟨Lc27, hQ27, l27, y27, z27⟩
 dsimp only [Pt.U, Pt.locs, Pt.cells, Pt.slots] at X27 l27 y27 z27 hQ27 ⊢
 subst l27 y27 z27
 rcases hQ27 with ⟨rfl, N27q, K27, g27_0, g27_1, g27_2, g27_3⟩ | ⟨j_27, rfl, N27q, K27, g27_0, g27_1, g27_2⟩
 · have N28 := Fr.app N0 N27q
   have K29 : Keep h0 T27.heap [] := K23.trans K27 (allS (Or.inr sz22) (all0 (P := fun x => x ∈ [] ∨ h0.size ≤ x)))
   show Runs _ _ _ _ (T27.setTop (mkF m 12 #[.val (.ref a0), .val (.int (0 : Int32)), .val (.int (3 : Int32)), .val (.ref b20), .unset, .unset] [(.int (3 : Int32))]))
   refine w_istore X27 hx (d8_12 hby) (L' := #[.val (.ref a0), .val (.int (0 : Int32)), .val (.int (3 : Int32)), .val (.ref b20), .val (.int (3 : Int32)), .unset]) rfl (pc' := 14) rfl ?_
   refine w_iload X27 hx (d8_14 hby) rfl (pc' := 16) rfl ?_
   refine w_iloadN X27 hx (d8_16 hby) rfl (pc' := 17) rfl ?_
   refine w_icY X27 hx (d8_17 hby) (teq (by decide : (3 : Int32) = (3 : Int32))).1 (pc' := 57) (by decide) (by decide) ?_
   refine w_aloadN X27 hx (d8_57 hby) rfl rfl (pc' := 58) rfl ?_
   exact w_done X27 hlk (v := some (.ref b20)) rfl (fun h => by rw [hret] at h; cases h) (fun fs hr => retOut X27 hx hret rfl (Or.inr (Or.inr (Or.inr (Or.inr ⟨rfl, rfl, rfl⟩)))) (d8_58 hby) hr) (by decide) (by decide) (Or.inl ⟨b20, k20, rfl, N28, K29, sz22, g27_0, g27_1, g27_2, g27_3⟩)
 · have N30 := Fr.app N0 N27q
   have K31 : Keep h0 T27.heap [] := K23.trans K27 (allS (Or.inr sz22) (all0 (P := fun x => x ∈ [] ∨ h0.size ≤ x)))
   show Runs _ _ _ _ (T27.setTop (mkF m 12 #[.val (.ref a0), .val (.int (0 : Int32)), .val (.int (3 : Int32)), .val (.ref b20), .unset, .unset] [(.int j_27)]))
   refine w_istore X27 hx (d8_12 hby) (L' := #[.val (.ref a0), .val (.int (0 : Int32)), .val (.int (3 : Int32)), .val (.ref b20), .val (.int j_27), .unset]) rfl (pc' := 14) rfl ?_
   refine w_iload X27 hx (d8_14 hby) rfl (pc' := 16) rfl ?_
   refine w_iloadN X27 hx (d8_16 hby) rfl (pc' := 17) rfl ?_
   refine w_icN X27 hx (d8_17 hby) (feq (fun q => by have h9 := g27_1; rw [q] at h9; exact absurd h9 (by decide))).1 (pc' := 20) rfl ?_
   refine w_aloadN X27 hx (d8_20 hby) rfl rfl (pc' := 21) rfl ?_
   refine w_iloadN X27 hx (d8_21 hby) rfl (pc' := 22) rfl ?_
   refine w_iloadN X27 hx (d8_22 hby) rfl (pc' := 23) rfl ?_
   have f32 : Arv Z T27.heap a0 k_a0 .char (3 : Int32) [(.int jj0), (.int jj1), (.int jj2)] (.int (0 : Int32)) := (f25.keep K27 (ninS ne26 nin0))
   have f33 : Old Z n0 T27.heap := ((O0.ext E20).keep K27 (allS ge21 all0))
   have le34 : h0.size ≤ T27.heap.size := (Nat.le_trans E20.1 K27.1)
   refine w_static X27 hx (y := yn_11) hown (mvT hZ (wd_55 hw)) (mvT hZ (wd_56 hw)) (mvT hZ (wd_47 hw)) (mvT hZ (wd_57 hw)) (by decide) (backOf (W := 0) (rm_m11_57 l Z aZ hw [] a0 k_a0 jj0 jj1 jj2 T27.heap n0 (Nat.le_trans Z0 le34) f32 zz3 f33 zz4 zz5) hZ (wd_57 hw) (wd_47 hw) (by decide) (by decide)) (by rw [hml]; rfl) [(.ref a0), (.int (0 : Int32)), (.int (3 : Int32))] (lenOf pd_10 rfl) rfl (Nat.le_of_eq rfl) (d8_23 hby) (fun _ _ => ⟨rfl, rfl, (by decide : 1 + 1 ≤ _), (by decide : 3 + 6 ≤ _)⟩) (pc' := 26) rfl ?_
   rintro _ _ ⟨T35, L35, k35, n35⟩ X35 ⟨Lc35, hQ35, l35, y35, z35⟩
   dsimp only [Pt.U, Pt.locs, Pt.cells, Pt.slots] at X35 l35 y35 z35 hQ35 ⊢
   subst l35 y35 z35
   obtain ⟨r0_35, c0_35, rfl, N35q, K35, g35_0, g35_1⟩ := hQ35
   have N36 := Fr.app N30 N35q
   have K37 : Keep h0 T35.heap [] := K31.trans K35 (all0 (P := fun x => x ∈ [] ∨ h0.size ≤ x))
   have ge38 : n0 ≤ r0_35 := Nat.le_trans (Nat.le_trans Z0 le34) g35_0
   have sz39 : h0.size ≤ r0_35 := Nat.le_trans le34 g35_0
   show Runs _ _ _ _ (T35.setTop (mkF m 26 #[.val (.ref a0), .val (.int (0 : Int32)), .val (.int (3 : Int32)), .val (.ref b20), .val (.int j_27), .unset] [(.ref r0_35)]))
   refine w_astore X35 hx (d8_26 hby) rfl (L' := #[.val (.ref a0), .val (.int (0 : Int32)), .val (.int (3 : Int32)), .val (.ref b20), .val (.int j_27), .val (.ref r0_35)]) rfl (pc' := 28) rfl ?_
   refine w_aload X35 hx (d8_28 hby) rfl rfl (pc' := 30) rfl ?_
   refine w_iload X35 hx (d8_30 hby) rfl (pc' := 32) rfl ?_
   have f42 : Old Z n0 T35.heap := (f33.keep K35 all0)
   have le43 : h0.size ≤ T35.heap.size := (Nat.le_trans le34 K35.1)
   refine w_static X35 hx (y := yn_15) hown (mvT hZ (wd_71 hw)) (mvT hZ (wd_72 hw)) (mvT hZ (wd_47 hw)) (mvT hZ (wd_73 hw)) (by decide) (backOf (W := 0) (rm_m15_63 l Z aZ hw [] r0_35 j_27 c0_35 ((jj0 >>> ((0 : Int32) &&& 31)).toInt8.toInt32) ((jj0 >>> ((8 : Int32) &&& 31)).toInt8.toInt32) ((jj1 >>> ((0 : Int32) &&& 31)).toInt8.toInt32) ((jj1 >>> ((8 : Int32) &&& 31)).toInt8.toInt32) ((jj2 >>> ((0 : Int32) &&& 31)).toInt8.toInt32) ((jj2 >>> ((8 : Int32) &&& 31)).toInt8.toInt32) T35.heap n0 (Nat.le_trans Z0 le43) zz3 f42 g35_1 g27_0 g27_1 zz4 zz5) hZ (wd_73 hw) (wd_47 hw) (by decide) (by decide)) (by rw [hml]; rfl) [(.ref r0_35), (.int j_27)] (lenOf pd_11 rfl) rfl (Nat.le_of_eq rfl) (d8_32 hby) (fun _ _ => ⟨rfl, rfl, (by decide : 2 + 0 ≤ _), (by decide : 9 + 0 ≤ _)⟩) (pc' := 35) rfl ?_
   rintro _ _ ⟨T44, L44, k44, n44⟩ X44 ⟨Lc44, hQ44, l44, y44, z44⟩
   dsimp only [Pt.U, Pt.locs, Pt.cells, Pt.slots] at X44 l44 y44 z44 hQ44 ⊢
   subst l44 y44 z44
   obtain ⟨rfl, N44q, e44⟩ := hQ44
   have N45 := Fr.app N36 N44q
   show Runs _ _ _ _ (T44.setTop (mkF m 35 #[.val (.ref a0), .val (.int (0 : Int32)), .val (.int (3 : Int32)), .val (.ref b20), .val (.int j_27), .val (.ref r0_35)] [(.int (((((gI [((jj0 >>> ((0 : Int32) &&& 31)).toInt8.toInt32), ((jj0 >>> ((8 : Int32) &&& 31)).toInt8.toInt32), ((jj1 >>> ((0 : Int32) &&& 31)).toInt8.toInt32), ((jj1 >>> ((8 : Int32) &&& 31)).toInt8.toInt32), ((jj2 >>> ((0 : Int32) &&& 31)).toInt8.toInt32), ((jj2 >>> ((8 : Int32) &&& 31)).toInt8.toInt32)] (j_27 <<< ((1 : Int32) &&& 31))) &&& (255 : Int32)) <<< ((0 : Int32) &&& 31)) ||| (((gI [((jj0 >>> ((0 : Int32) &&& 31)).toInt8.toInt32), ((jj0 >>> ((8 : Int32) &&& 31)).toInt8.toInt32), ((jj1 >>> ((0 : Int32) &&& 31)).toInt8.toInt32), ((jj1 >>> ((8 : Int32) &&& 31)).toInt8.toInt32), ((jj2 >>> ((0 : Int32) &&& 31)).toInt8.toInt32), ((jj2 >>> ((8 : Int32) &&& 31)).toInt8.toInt32)] ((j_27 <<< ((1 : Int32) &&& 31)) + (1 : Int32))) &&& (255 : Int32)) <<< ((8 : Int32) &&& 31))).toUInt32.toUInt16.toUInt32.toInt32))]))
   refine w_sipush X44 hx (d8_35 hby) (v := (255 : Int32)) rfl (pc' := 38) rfl ?_
   refine w_icY X44 hx (d8_38 hby) (tlt (show (255 : Int32) < (((((gI [((jj0 >>> ((0 : Int32) &&& 31)).toInt8.toInt32), ((jj0 >>> ((8 : Int32) &&& 31)).toInt8.toInt32), ((jj1 >>> ((0 : Int32) &&& 31)).toInt8.toInt32), ((jj1 >>> ((8 : Int32) &&& 31)).toInt8.toInt32), ((jj2 >>> ((0 : Int32) &&& 31)).toInt8.toInt32), ((jj2 >>> ((8 : Int32) &&& 31)).toInt8.toInt32)] (j_27 <<< ((1 : Int32) &&& 31))) &&& (255 : Int32)) <<< ((0 : Int32) &&& 31)) ||| (((gI [((jj0 >>> ((0 : Int32) &&& 31)).toInt8.toInt32), ((jj0 >>> ((8 : Int32) &&& 31)).toInt8.toInt32), ((jj1 >>> ((0 : Int32) &&& 31)).toInt8.toInt32), ((jj1 >>> ((8 : Int32) &&& 31)).toInt8.toInt32), ((jj2 >>> ((0 : Int32) &&& 31)).toInt8.toInt32), ((jj2 >>> ((8 : Int32) &&& 31)).toInt8.toInt32)] ((j_27 <<< ((1 : Int32) &&& 31)) + (1 : Int32))) &&& (255 : Int32)) <<< ((8 : Int32) &&& 31))).toUInt32.toUInt16.toUInt32.toInt32) from by rw [own_uj3 g27_0 g27_1 zz6 zz7 zz8]; exact g27_2)).2.2.1 (pc' := 54) (by decide) (by decide) ?_
   refine w_aload X44 hx (d8_54 hby) rfl rfl (pc' := 56) rfl ?_
   exact w_done X44 hlk (v := some (.ref r0_35)) e44 (fun h => by rw [hret] at h; cases h) (fun fs hr => retOut X44 hx hret rfl (Or.inr (Or.inr (Or.inr (Or.inr ⟨rfl, rfl, rfl⟩)))) (d8_56 hby) hr) (by decide) (by decide) (Or.inr (⟨r0_35, c0_35, rfl, N45, K37, sz39, g35_1, (own_or3 g27_0 g27_1 g27_2)⟩))
theorem ef_m10_64 (m : MethodId) (a0 : Addr)  : entryFrame m #[(.ref a0), (.int (3 : Int32))] 2 = mkF m 0 #[.val (.ref a0), .val (.int (3 : Int32))] [] := by first | (simp [entryFrame, mkF, argsToLocals, Value.category]; done) | rfl
def Q_m10_64 (Z : State) (a0 : Addr) (k_a0 : ClassId) (jj0 : Int32) (jj1 : Int32) (jj2 : Int32) (h0 : Heap) (n0 : Nat) (v : Option Value) (h : Heap) (L : List Loc) : Prop := v = some (.int (0 : Int32)) ∧ Fr n0 L ∧ h = h0
theorem rm_m10_64 (l : Launch) (Z : State) (aZ : Array Value) (hw : ∀ d ∈ tables_1, d.before aZ Z = true) (ws : List Jvm.Cond) (a0 : Addr) (k_a0 : ClassId) (jj0 : Int32) (jj1 : Int32) (jj2 : Int32) (h0 : Heap) (n0 : Nat) (Z0 : n0 ≤ h0.size) (V_a0 : Arv Z h0 a0 k_a0 .byte (3 : Int32) [(.int jj0), (.int jj1), (.int jj2)] (.int (0 : Int32))) :
    MetN l Z yn_10 jdk_52_method_15_code 2 (some .byte) ws ({ frames := 0, cells := 0, slots := 0, locals := 0 } : Room) #[(.ref a0), (.int (3 : Int32))] h0 (Q_m10_64 Z a0 k_a0 jj0 jj1 jj2 h0 n0) := by
 refine MetN.of (plainFor_of_name pn_4) ?_
 intro p e s m below meth c s₁ hret hx hby hml hown hnm hlk hZ X0 e0
 have N0 := Fr.nil n0
 rw [ef_m10_64 m a0]
 refine w_iloadN X0 hx (d10_0 hby) rfl (pc' := 1) rfl ?_
 refine w_aloadN X0 hx (d10_1 hby) rfl rfl (pc' := 2) rfl ?_
 refine w_alen X0 hx hZ e0 V_a0 (d10_2 hby) (pc' := 3) rfl ?_
 refine w_isub X0 hx (d10_3 hby) (pc' := 4) rfl ?_
 rw [show ((3 : Int32) - (3 : Int32)) = (0 : Int32) from by decide]
 refine w_bipush X0 hx (d10_4 hby) (v := (31 : Int32)) rfl (pc' := 6) rfl ?_
 refine w_iushr X0 hx (d10_6 hby) (pc' := 7) rfl ?_
 rw [show (((0 : Int32).toUInt32 >>> ((31 : Int32) &&& 31).toUInt32).toInt32) = (0 : Int32) from by decide]
 refine w_i2b X0 hx (d10_7 hby) (pc' := 8) rfl ?_
 rw [show ((0 : Int32).toInt8.toInt32) = (0 : Int32) from by decide]
 exact w_done X0 hlk (v := some (.int (0 : Int32))) e0 (fun h => by rw [hret] at h; cases h) (fun fs hr => retN X0 hx (t := .byte) hret (by simp) (d10_8 hby) hr) (by decide) (by decide) (⟨rfl, N0, rfl⟩)
theorem ef_m10_65 (m : MethodId) (a0 : Addr)  : entryFrame m #[(.ref a0), (.int (3 : Int32))] 2 = mkF m 0 #[.val (.ref a0), .val (.int (3 : Int32))] [] := by first | (simp [entryFrame, mkF, argsToLocals, Value.category]; done) | rfl
def Q_m10_65 (Z : State) (a0 : Addr) (k_a0 : ClassId) (jj0 : Int32) (jj1 : Int32) (jj2 : Int32) (jj3 : Int32) (jj4 : Int32) (jj5 : Int32) (h0 : Heap) (n0 : Nat) (v : Option Value) (h : Heap) (L : List Loc) : Prop := v = some (.int (1 : Int32)) ∧ Fr n0 L ∧ h = h0
theorem rm_m10_65 (l : Launch) (Z : State) (aZ : Array Value) (hw : ∀ d ∈ tables_1, d.before aZ Z = true) (ws : List Jvm.Cond) (a0 : Addr) (k_a0 : ClassId) (jj0 : Int32) (jj1 : Int32) (jj2 : Int32) (jj3 : Int32) (jj4 : Int32) (jj5 : Int32) (h0 : Heap) (n0 : Nat) (Z0 : n0 ≤ h0.size) (V_a0 : Arv Z h0 a0 k_a0 .byte (6 : Int32) [(.int jj0), (.int jj1), (.int jj2), (.int jj3), (.int jj4), (.int jj5)] (.int (0 : Int32))) :
    MetN l Z yn_10 jdk_52_method_15_code 2 (some .byte) ws ({ frames := 0, cells := 0, slots := 0, locals := 0 } : Room) #[(.ref a0), (.int (3 : Int32))] h0 (Q_m10_65 Z a0 k_a0 jj0 jj1 jj2 jj3 jj4 jj5 h0 n0) := by
 refine MetN.of (plainFor_of_name pn_4) ?_
 intro p e s m below meth c s₁ hret hx hby hml hown hnm hlk hZ X0 e0
 have N0 := Fr.nil n0
 rw [ef_m10_65 m a0]
 refine w_iloadN X0 hx (d10_0 hby) rfl (pc' := 1) rfl ?_
 refine w_aloadN X0 hx (d10_1 hby) rfl rfl (pc' := 2) rfl ?_
 refine w_alen X0 hx hZ e0 V_a0 (d10_2 hby) (pc' := 3) rfl ?_
 refine w_isub X0 hx (d10_3 hby) (pc' := 4) rfl ?_
 rw [show ((3 : Int32) - (6 : Int32)) = (-3 : Int32) from by decide]
 refine w_bipush X0 hx (d10_4 hby) (v := (31 : Int32)) rfl (pc' := 6) rfl ?_
 refine w_iushr X0 hx (d10_6 hby) (pc' := 7) rfl ?_
 rw [show (((-3 : Int32).toUInt32 >>> ((31 : Int32) &&& 31).toUInt32).toInt32) = (1 : Int32) from by decide]
 refine w_i2b X0 hx (d10_7 hby) (pc' := 8) rfl ?_
 rw [show ((1 : Int32).toInt8.toInt32) = (1 : Int32) from by decide]
 exact w_done X0 hlk (v := some (.int (1 : Int32))) e0 (fun h => by rw [hret] at h; cases h) (fun fs hr => retN X0 hx (t := .byte) hret (by simp) (d10_8 hby) hr) (by decide) (by decide) (⟨rfl, N0, rfl⟩)
theorem ef_m3_54 (m : MethodId) (a0 : Addr) (a1 : Addr)  : entryFrame m #[(.ref a0), (.ref a1), (.int (0 : Int32)), (.int (3 : Int32)), .null] 6 = mkF m 0 #[.val (.ref a0), .val (.ref a1), .val (.int (0 : Int32)), .val (.int (3 : Int32)), .val .null, .unset] [] := by first | (simp [entryFrame, mkF, argsToLocals, Value.category]; done) | rfl
def Q_m3_54 (Z : State) (a0 : Addr) (a1 : Addr) (jj0 : Int32) (k_a1 : ClassId) (jj1 : Int32) (jj2 : Int32) (jj3 : Int32) (h0 : Heap) (n0 : Nat) (v : Option Value) (h : Heap) (L : List Loc) : Prop := (∃ (t : Addr) (kb : ClassId), v = none ∧ Fr n0 L ∧ Keep h0 h [a0] ∧ Exa Z h a0 kc0 ∧ Fld Z h a0 kc0 "coder" "B" (.int (0 : Int32)) ∧ Fld Z h a0 kc0 "value" "[B" (.ref t) ∧ h0.size ≤ t ∧ Arv Z h t kb .byte (3 : Int32) [(.int (jj1.toInt8.toInt32)), (.int (jj2.toInt8.toInt32)), (.int (jj3.toInt8.toInt32))] (.int (0 : Int32)) ∧ ¬ ((255 : Int32) < jj1) ∧ ¬ ((255 : Int32) < jj2) ∧ ¬ ((255 : Int32) < jj3)) ∨ (∃ (t : Addr) (kb : ClassId), v = none ∧ Fr n0 L ∧ Keep h0 h [a0] ∧ Exa Z h a0 kc0 ∧ Fld Z h a0 kc0 "coder" "B" (.int (1 : Int32)) ∧ Fld Z h a0 kc0 "value" "[B" (.ref t) ∧ h0.size ≤ t ∧ Arv Z h t kb .byte (6 : Int32) [(.int ((jj1 >>> ((0 : Int32) &&& 31)).toInt8.toInt32)), (.int ((jj1 >>> ((8 : Int32) &&& 31)).toInt8.toInt32)), (.int ((jj2 >>> ((0 : Int32) &&& 31)).toInt8.toInt32)), (.int ((jj2 >>> ((8 : Int32) &&& 31)).toInt8.toInt32)), (.int ((jj3 >>> ((0 : Int32) &&& 31)).toInt8.toInt32)), (.int ((jj3 >>> ((8 : Int32) &&& 31)).toInt8.toInt32))] (.int (0 : Int32)) ∧ ((255 : Int32) < jj1 ∨ (255 : Int32) < jj2 ∨ (255 : Int32) < jj3))
theorem rm_m3_54 (l : Launch) (Z : State) (aZ : Array Value) (hw : ∀ d ∈ tables_1, d.before aZ Z = true) (ws : List Jvm.Cond) (a0 : Addr) (a1 : Addr) (jj0 : Int32) (k_a1 : ClassId) (jj1 : Int32) (jj2 : Int32) (jj3 : Int32) (h0 : Heap) (n0 : Nat) (Z0 : n0 ≤ h0.size) (zz4 : Sta Z Z.heap kc0 "COMPACT_STRINGS" "Z" (.int jj0)) (O0 : Old Z n0 h0) (hP_2 : ¬ (jj0 = (0 : Int32))) (V_a1 : Arv Z h0 a1 k_a1 .char (3 : Int32) [(.int jj1), (.int jj2), (.int jj3)] (.int (0 : Int32))) (zz5 : nar .char jj1 = jj1) (zz6 : nar .char jj2 = jj2) (zz7 : nar .char jj3 = jj3) (zz8 : Sta Z Z.heap kc1 "$assertionsDisabled" "Z" (.int (1 : Int32))) (zz9 : Sta Z Z.heap kc1 "HI_BYTE_SHIFT" "I" (.int (0 : Int32))) (zz10 : Sta Z Z.heap kc1 "LO_BYTE_SHIFT" "I" (.int (8 : Int32))) (E_a0 : Exa Z h0 a0 kc0) (zz11 : Fld Z h0 a0 kc0 "coder" "B" (.int (0 : Int32))) (zz12 : n0 ≤ a0) (zz13 : Fld Z h0 a0 kc0 "value" "[B" .null) :
    MetN l Z yn_3 jdk_42_method_149_code 6 none ws ({ frames := 4, cells := 2, slots := 9, locals := 57 } : Room) #[(.ref a0), (.ref a1), (.int (0 : Int32)), (.int (3 : Int32)), .null] h0 (Q_m3_54 Z a0 a1 jj0 k_a1 jj1 jj2 jj3 h0 n0) := by
 refine MetN.of (plainFor_of_name pn_1) ?_
 intro p e s m below meth c s₁ hret hx hby hml hown hnm hlk hZ X0 e0
 have N0 := Fr.nil n0
 rw [ef_m3_54 m a0 a1]
 refine w_aloadN X0 hx (d3_0 hby) rfl rfl (pc' := 1) rfl ?_
 refine w_initO X0 hx 0 hZ hown (wd_17 hw) (wd_18 hw) (wd_19 hw) e0 (by rw [hml]; rfl) (d3_1 hby) (by decide) (Nat.le_of_eq rfl) (by decide) (pc' := 4) rfl ?_
 intro T20 X20 e20
 refine w_iloadN X20 hx (d3_4 hby) rfl (pc' := 5) rfl ?_
 refine w_ifY X20 hx (d3_5 hby) (feq (by decide : ¬ ((3 : Int32) = (0 : Int32)))).2 (pc' := 27) (by decide) (by decide) ?_
 refine w_getS X20 hx "" hZ hown (Or.inl (wd_39 hw)) Via.refl e20 (zz4.ext O0.2) (d3_27 hby) (pc' := 30) rfl ?_
 intro T21 X21 e21
 refine w_ifN X21 hx (d3_30 hby) (feq hP_2).1 (pc' := 33) rfl ?_
 refine w_aloadN X21 hx (d3_33 hby) rfl rfl (pc' := 34) rfl ?_
 refine w_iloadN X21 hx (d3_34 hby) rfl (pc' := 35) rfl ?_
 refine w_iloadN X21 hx (d3_35 hby) rfl (pc' := 36) rfl ?_
 refine w_static X21 hx (y := yn_8) hown (mvT hZ (wd_45 hw)) (mvT hZ (wd_46 hw)) (mvT hZ (wd_47 hw)) (mvT hZ (wd_48 hw)) (by decide) (backOf (W := 0) (rm_m8_55 l Z aZ hw [] a1 k_a1 jj1 jj2 jj3 h0 n0 Z0 V_a1 zz8 O0 zz9 zz10 zz5 zz6 zz7) hZ (wd_48 hw) (wd_47 hw) (by decide) (by decide)) (by rw [hml]; rfl) [(.ref a1), (.int (0 : Int32)), (.int (3 : Int32))] (lenOf pd_10 rfl) rfl (Nat.le_of_eq rfl) (d3_36 hby) (fun _ _ => ⟨rfl, e21, (by decide : 0 + 2 ≤ _), (by decide : 0 + 9 ≤ _)⟩) (pc' := 39) rfl ?_
 rintro _ _ ⟨T22, L22, k22, n22⟩ X22 ⟨Lc22, hQ22, l22, y22, z22⟩
 dsimp only [Pt.U, Pt.locs, Pt.cells, Pt.slots] at X22 l22 y22 z22 hQ22 ⊢
 subst l22 y22 z22
 rcases hQ22 with ⟨t_22, kb_22, rfl, N22q, K22, g22_0, g22_1, g22_2, g22_3, g22_4⟩ | ⟨t_22, kb_22, rfl, N22q, K22, g22_0, g22_1, g22_2⟩
 · have N23 := Fr.app N0 N22q
   have K24 : Keep h0 T22.heap [a0] := (Keep.refl h0 [a0]).trans K22 (all0 (P := fun x => x ∈ [a0] ∨ h0.size ≤ x))
   have ge25 : n0 ≤ t_22 := Nat.le_trans Z0 g22_0
   have sz26 : h0.size ≤ t_22 := Nat.le_trans (Nat.le_refl _) g22_0
   show Runs _ _ _ _ (T22.setTop (mkF m 39 #[.val (.ref a0), .val (.ref a1), .val (.int (0 : Int32)), .val (.int (3 : Int32)), .val .null, .unset] [(.ref t_22)]))
   refine w_astore X22 hx (d3_39 hby) rfl (L' := #[.val (.ref a0), .val (.ref a1), .val (.int (0 : Int32)), .val (.int (3 : Int32)), .val .null, .val (.ref t_22)]) rfl (pc' := 41) rfl ?_
   refine w_aloadN X22 hx (d3_41 hby) rfl rfl (pc' := 42) rfl ?_
   refine w_aload X22 hx (d3_42 hby) rfl rfl (pc' := 44) rfl ?_
   refine w_iloadN X22 hx (d3_44 hby) rfl (pc' := 45) rfl ?_
   refine w_static X22 hx (y := yn_10) hown (mvT hZ (wd_52 hw)) (mvT hZ (wd_53 hw)) (mvT hZ (wd_47 hw)) (mvT hZ (wd_54 hw)) (by decide) (backOf (W := 1) (rm_m10_64 l Z aZ hw [] t_22 kb_22 (jj1.toInt8.toInt32) (jj2.toInt8.toInt32) (jj3.toInt8.toInt32) T22.heap n0 (Nat.le_trans Z0 K22.1) g22_1) hZ (wd_54 hw) (wd_47 hw) (by decide) (by decide)) (by rw [hml]; rfl) [(.ref t_22), (.int (3 : Int32))] (lenOf pd_12 rfl) rfl (Nat.le_of_eq rfl) (d3_45 hby) (fun _ _ => ⟨rfl, rfl, (by decide : 2 + 0 ≤ _), (by decide : 9 + 0 ≤ _)⟩) (pc' := 48) rfl ?_
   rintro _ _ ⟨T27, L27, k27, n27⟩ X27 ⟨Lc27, hQ27, l27, y27, z27⟩
   dsimp only [Pt.U, Pt.locs, Pt.cells, Pt.slots] at X27 l27 y27 z27 hQ27 ⊢
   subst l27 y27 z27
   obtain ⟨rfl, N27q, e27⟩ := hQ27
   have N28 := Fr.app N23 N27q
   show Runs _ _ _ _ (T27.setTop (mkF m 48 #[.val (.ref a0), .val (.ref a1), .val (.int (0 : Int32)), .val (.int (3 : Int32)), .val .null, .val (.ref t_22)] [(.int (0 : Int32)), (.ref a0)]))
   have f29 : Exa Z T22.heap a0 kc0 := (E_a0.keep K22)
   have f30 : Fld Z T22.heap a0 kc0 "coder" "B" (.int (0 : Int32)) := (zz11.keep K22 nin0)
   refine w_putF X27 hx "" hZ hown (Or.inl (wd_27 hw)) Via.refl e27 f30 f29 (Or.inr ⟨(wd_23 hw), rfl, hnm⟩) (wd_8 hw) (ty := .byte) (by decide) rfl rfl (d3_48 hby) (pc' := 51) rfl ?_
   intro T31 h31 X31 e31 W31
   have f32 : Fld Z h31 a0 kc0 "coder" "B" (.int (0 : Int32)) := f30.same W31
   have K33 : Keep h0 h31 [a0] := K24.wr W31 (Or.inl (by simp))
   have N34 := Fr.snoc X31 N28 zz12
   refine w_aloadN X31 hx (d3_51 hby) rfl rfl (pc' := 52) rfl ?_
   refine w_aload X31 hx (d3_52 hby) rfl rfl (pc' := 54) rfl ?_
   have f35 : Exa Z h31 a0 kc0 := (f29.wr W31)
   have f36 : Fld Z h31 a0 kc0 "value" "[B" .null := ((zz13.keep K22 nin0).other W31 (Or.inr (slot_ne (Or.inr (wd_22 hw)) (Or.inr (wd_23 hw)) (by decide) (t := (.array .byte)) (t' := .byte) (by decide) (by decide))))
   refine w_putF X31 hx "" hZ hown (Or.inl (wd_26 hw)) Via.refl e31 f36 f35 (Or.inr ⟨(wd_22 hw), rfl, hnm⟩) (wd_8 hw) (ty := (.array .byte)) (by decide) rfl rfl (d3_54 hby) (pc' := 57) rfl ?_
   intro T37 h37 X37 e37 W37
   have f38 : Fld Z h37 a0 kc0 "value" "[B" (.ref t_22) := f36.same W37
   have K39 : Keep h0 h37 [a0] := K33.wr W37 (Or.inl (by simp))
   have N40 := Fr.snoc X37 N34 zz12
   have f41 : Exa Z h37 a0 kc0 := (f35.wr W37)
   have f42 : Fld Z h37 a0 kc0 "coder" "B" (.int (0 : Int32)) := (f32.other W37 (Or.inr (slot_ne (Or.inr (wd_23 hw)) (Or.inr (wd_22 hw)) (by decide) (t := .byte) (t' := (.array .byte)) (by decide) (by decide))))
   have ne43 : a0 ≠ t_22 := (Nat.ne_of_lt (Nat.lt_of_lt_of_le E_a0.lt (Nat.le_trans (Nat.le_refl _) g22_0)))
   have f44 : Arv Z h37 t_22 kb_22 .byte (3 : Int32) [(.int (jj1.toInt8.toInt32)), (.int (jj2.toInt8.toInt32)), (.int (jj3.toInt8.toInt32))] (.int (0 : Int32)) := ((g22_1.other W31 (Ne.symm ne43)).other W37 (Ne.symm ne43))
   exact w_done X37 hlk (v := none) e37 (fun _ => rfl) (fun fs hr => X37.returnOut hx hret (d3_57 hby) hr) (by decide) (by decide) (Or.inl ⟨t_22, kb_22, rfl, N40, K39, f41, f42, f38, sz26, f44, g22_2, g22_3, g22_4⟩)
 · have N45 := Fr.app N0 N22q
   have K46 : Keep h0 T22.heap [a0] := (Keep.refl h0 [a0]).trans K22 (all0 (P := fun x => x ∈ [a0] ∨ h0.size ≤ x))
   have ge47 : n0 ≤ t_22 := Nat.le_trans Z0 g22_0
   have sz48 : h0.size ≤ t_22 := Nat.le_trans (Nat.le_refl _) g22_0
   show Runs _ _ _ _ (T22.setTop (mkF m 39 #[.val (.ref a0), .val (.ref a1), .val (.int (0 : Int32)), .val (.int (3 : Int32)), .val .null, .unset] [(.ref t_22)]))
   refine w_astore X22 hx (d3_39 hby) rfl (L' := #[.val (.ref a0), .val (.ref a1), .val (.int (0 : Int32)), .val (.int (3 : Int32)), .val .null, .val (.ref t_22)]) rfl (pc' := 41) rfl ?_
   refine w_aloadN X22 hx (d3_41 hby) rfl rfl (pc' := 42) rfl ?_
   refine w_aload X22 hx (d3_42 hby) rfl rfl (pc' := 44) rfl ?_
   refine w_iloadN X22 hx (d3_44 hby) rfl (pc' := 45) rfl ?_
   refine w_static X22 hx (y := yn_10) hown (mvT hZ (wd_52 hw)) (mvT hZ (wd_53 hw)) (mvT hZ (wd_47 hw)) (mvT hZ (wd_54 hw)) (by decide) (backOf (W := 1) (rm_m10_65 l Z aZ hw [] t_22 kb_22 ((jj1 >>> ((0 : Int32) &&& 31)).toInt8.toInt32) ((jj1 >>> ((8 : Int32) &&& 31)).toInt8.toInt32) ((jj2 >>> ((0 : Int32) &&& 31)).toInt8.toInt32) ((jj2 >>> ((8 : Int32) &&& 31)).toInt8.toInt32) ((jj3 >>> ((0 : Int32) &&& 31)).toInt8.toInt32) ((jj3 >>> ((8 : Int32) &&& 31)).toInt8.toInt32) T22.heap n0 (Nat.le_trans Z0 K22.1) g22_1) hZ (wd_54 hw) (wd_47 hw) (by decide) (by decide)) (by rw [hml]; rfl) [(.ref t_22), (.int (3 : Int32))] (lenOf pd_12 rfl) rfl (Nat.le_of_eq rfl) (d3_45 hby) (fun _ _ => ⟨rfl, rfl, (by decide : 2 + 0 ≤ _), (by decide : 9 + 0 ≤ _)⟩) (pc' := 48) rfl ?_
   rintro _ _ ⟨T49, L49, k49, n49⟩ X49 ⟨Lc49, hQ49, l49, y49, z49⟩
   dsimp only [Pt.U, Pt.locs, Pt.cells, Pt.slots] at X49 l49 y49 z49 hQ49 ⊢
   subst l49 y49 z49
   obtain ⟨rfl, N49q, e49⟩ := hQ49
   have N50 := Fr.app N45 N49q
   show Runs _ _ _ _ (T49.setTop (mkF m 48 #[.val (.ref a0), .val (.ref a1), .val (.int (0 : Int32)), .val (.int (3 : Int32)), .val .null, .val (.ref t_22)] [(.int (1 : Int32)), (.ref a0)]))
   have f51 : Exa Z T22.heap a0 kc0 := (E_a0.keep K22)
   have f52 : Fld Z T22.heap a0 kc0 "coder" "B" (.int (0 : Int32)) := (zz11.keep K22 nin0)
   refine w_putF X49 hx "" hZ hown (Or.inl (wd_27 hw)) Via.refl e49 f52 f51 (Or.inr ⟨(wd_23 hw), rfl, hnm⟩) (wd_8 hw) (ty := .byte) (by decide) rfl rfl (d3_48 hby) (pc' := 51) rfl ?_
   intro T53 h53 X53 e53 W53
   have f54 : Fld Z h53 a0 kc0 "coder" "B" (.int (1 : Int32)) := f52.same W53
   have K55 : Keep h0 h53 [a0] := K46.wr W53 (Or.inl (by simp))
   have N56 := Fr.snoc X53 N50 zz12
   refine w_aloadN X53 hx (d3_51 hby) rfl rfl (pc' := 52) rfl ?_
   refine w_aload X53 hx (d3_52 hby) rfl rfl (pc' := 54) rfl ?_
   have f57 : Exa Z h53 a0 kc0 := (f51.wr W53)
   have f58 : Fld Z h53 a0 kc0 "value" "[B" .null := ((zz13.keep K22 nin0).other W53 (Or.inr (slot_ne (Or.inr (wd_22 hw)) (Or.inr (wd_23 hw)) (by decide) (t := (.array .byte)) (t' := .byte) (by decide) (by decide))))
   refine w_putF X53 hx "" hZ hown (Or.inl (wd_26 hw)) Via.refl e53 f58 f57 (Or.inr ⟨(wd_22 hw), rfl, hnm⟩) (wd_8 hw) (ty := (.array .byte)) (by decide) rfl rfl (d3_54 hby) (pc' := 57) rfl ?_
   intro T59 h59 X59 e59 W59
   have f60 : Fld Z h59 a0 kc0 "value" "[B" (.ref t_22) := f58.same W59
   have K61 : Keep h0 h59 [a0] := K55.wr W59 (Or.inl (by simp))
   have N62 := Fr.snoc X59 N56 zz12
   have f64 : Exa Z h59 a0 kc0 := (f57.wr W59)
   have f65 : Fld Z h59 a0 kc0 "coder" "B" (.int (1 : Int32)) := (f54.other W59 (Or.inr (slot_ne (Or.inr (wd_23 hw)) (Or.inr (wd_22 hw)) (by decide) (t := .byte) (t' := (.array .byte)) (by decide) (by decide))))
   have ne66 : a0 ≠ t_22 := (Nat.ne_of_lt (Nat.lt_of_lt_of_le E_a0.lt (Nat.le_trans (Nat.le_refl _) g22_0)))
   have f67 : Arv Z h59 t_22 kb_22 .byte (6 : Int32) [(.int ((jj1 >>> ((0 : Int32) &&& 31)).toInt8.toInt32)), (.int ((jj1 >>> ((8 : Int32) &&& 31)).toInt8.toInt32)), (.int ((jj2 >>> ((0 : Int32) &&& 31)).toInt8.toInt32)), (.int ((jj2 >>> ((8 : Int32) &&& 31)).toInt8.toInt32)), (.int ((jj3 >>> ((0 : Int32) &&& 31)).toInt8.toInt32)), (.int ((jj3 >>> ((8 : Int32) &&& 31)).toInt8.toInt32))] (.int (0 : Int32)) := ((g22_1.other W53 (Ne.symm ne66)).other W59 (Ne.symm ne66))
   exact w_done X59 hlk (v := none) e59 (fun _ => rfl) (fun fs hr => X59.returnOut hx hret (d3_57 hby) hr) (by decide) (by decide) (Or.inr (⟨t_22, kb_22, rfl, N62, K61, f64, f65, f60, sz48, f67, g22_2⟩))
theorem ef_m2_53 (m : MethodId) (a0 : Addr) (a1 : Addr)  : entryFrame m #[(.ref a0), (.ref a1)] 2 = mkF m 0 #[.val (.ref a0), .val (.ref a1)] [] := by first | (simp [entryFrame, mkF, argsToLocals, Value.category]; done) | rfl
def Q_m2_53 (Z : State) (a0 : Addr) (a1 : Addr) (k_a1 : ClassId) (jj0 : Int32) (jj1 : Int32) (jj2 : Int32) (jj3 : Int32) (h0 : Heap) (n0 : Nat) (v : Option Value) (h : Heap) (L : List Loc) : Prop := (∃ (t : Addr) (kb : ClassId), v = none ∧ Fr n0 L ∧ Keep h0 h [a0] ∧ Exa Z h a0 kc0 ∧ Fld Z h a0 kc0 "coder" "B" (.int (0 : Int32)) ∧ Fld Z h a0 kc0 "value" "[B" (.ref t) ∧ h0.size ≤ t ∧ Arv Z h t kb .byte (3 : Int32) [(.int (jj0.toInt8.toInt32)), (.int (jj1.toInt8.toInt32)), (.int (jj2.toInt8.toInt32))] (.int (0 : Int32)) ∧ ¬ ((255 : Int32) < jj0) ∧ ¬ ((255 : Int32) < jj1) ∧ ¬ ((255 : Int32) < jj2)) ∨ (∃ (t : Addr) (kb : ClassId), v = none ∧ Fr n0 L ∧ Keep h0 h [a0] ∧ Exa Z h a0 kc0 ∧ Fld Z h a0 kc0 "coder" "B" (.int (1 : Int32)) ∧ Fld Z h a0 kc0 "value" "[B" (.ref t) ∧ h0.size ≤ t ∧ Arv Z h t kb .byte (6 : Int32) [(.int ((jj0 >>> ((0 : Int32) &&& 31)).toInt8.toInt32)), (.int ((jj0 >>> ((8 : Int32) &&& 31)).toInt8.toInt32)), (.int ((jj1 >>> ((0 : Int32) &&& 31)).toInt8.toInt32)), (.int ((jj1 >>> ((8 : Int32) &&& 31)).toInt8.toInt32)), (.int ((jj2 >>> ((0 : Int32) &&& 31)).toInt8.toInt32)), (.int ((jj2 >>> ((8 : Int32) &&& 31)).toInt8.toInt32))] (.int (0 : Int32)) ∧ ((255 : Int32) < jj0 ∨ (255 : Int32) < jj1 ∨ (255 : Int32) < jj2))
theorem rm_m2_53 (l : Launch) (Z : State) (aZ : Array Value) (hw : ∀ d ∈ tables_1, d.before aZ Z = true) (ws : List Jvm.Cond) (a0 : Addr) (a1 : Addr) (k_a1 : ClassId) (jj0 : Int32) (jj1 : Int32) (jj2 : Int32) (jj3 : Int32) (h0 : Heap) (n0 : Nat) (Z0 : n0 ≤ h0.size) (V_a1 : Arv Z h0 a1 k_a1 .char (3 : Int32) [(.int jj0), (.int jj1), (.int jj2)] (.int (0 : Int32))) (hP_1 : ¬ (jj3 = (0 : Int32))) (zz4 : nar .char jj0 = jj0) (zz5 : nar .char jj1 = jj1) (zz6 : nar .char jj2 = jj2) (E_a0 : Exa Z h0 a0 kc0) (zz7 : Fld Z h0 a0 kc0 "coder" "B" (.int (0 : Int32))) (zz8 : Fld Z h0 a0 kc0 "value" "[B" .null) (zz9 : Sta Z Z.heap kc0 "COMPACT_STRINGS" "Z" (.int jj3)) (O0 : Old Z n0 h0) (zz10 : Sta Z Z.heap kc1 "$assertionsDisabled" "Z" (.int (1 : Int32))) (zz11 : Sta Z Z.heap kc1 "HI_BYTE_SHIFT" "I" (.int (0 : Int32))) (zz12 : Sta Z Z.heap kc1 "LO_BYTE_SHIFT" "I" (.int (8 : Int32))) (zz13 : n0 ≤ a0) :
    MetN l Z yn_2 jdk_42_method_3_code 2 none ws ({ frames := 5, cells := 2, slots := 9, locals := 74 } : Room) #[(.ref a0), (.ref a1)] h0 (Q_m2_53 Z a0 a1 k_a1 jj0 jj1 jj2 jj3 h0 n0) := by
 refine MetN.of (plainFor_of_name pn_1) ?_
 intro p e s m below meth c s₁ hret hx hby hml hown hnm hlk hZ X0 e0
 have N0 := Fr.nil n0
 rw [ef_m2_53 m a0 a1]
 refine w_aloadN X0 hx (d2_0 hby) rfl rfl (pc' := 1) rfl ?_
 refine w_aloadN X0 hx (d2_1 hby) rfl rfl (pc' := 2) rfl ?_
 refine w_iconst X0 hx (d2_2 hby) (v := (0 : Int32)) rfl (pc' := 3) rfl ?_
 refine w_aloadN X0 hx (d2_3 hby) rfl rfl (pc' := 4) rfl ?_
 refine w_alen X0 hx hZ e0 V_a1 (d2_4 hby) (pc' := 5) rfl ?_
 refine w_null X0 hx (d2_5 hby) (pc' := 6) rfl ?_
 refine w_special X0 hx (y := yn_3) rfl hown (mvT hZ (wd_13 hw)) (mvT hZ (wd_14 hw)) (mvT hZ (wd_16 hw)) (by decide) (backOf (W := 0) (rm_m3_54 l Z aZ hw [] a0 a1 jj3 k_a1 jj0 jj1 jj2 h0 n0 Z0 zz9 O0 hP_1 V_a1 zz4 zz5 zz6 zz10 zz11 zz12 E_a0 zz7 zz13 zz8) hZ (wd_16 hw) (wd_9 hw) (by decide) (by decide)) (by rw [hml]; rfl) [(.ref a1), (.int (0 : Int32)), (.int (3 : Int32)), .null] (lenOf pd_1 rfl) rfl (Nat.le_of_eq rfl) (d2_6 hby) (fun _ _ => ⟨rfl, e0, (by decide : 0 + 2 ≤ _), (by decide : 0 + 9 ≤ _)⟩) (pc' := 9) rfl ?_
 rintro _ _ ⟨T20, L20, k20, n20⟩ X20 ⟨Lc20, hQ20, l20, y20, z20⟩
 dsimp only [Pt.U, Pt.locs, Pt.cells, Pt.slots] at X20 l20 y20 z20 hQ20 ⊢
 subst l20 y20 z20
 rcases hQ20 with ⟨t_20, kb_20, rfl, N20q, K20, g20_0, g20_1, g20_2, g20_3, g20_4, g20_5, g20_6, g20_7⟩ | ⟨t_20, kb_20, rfl, N20q, K20, g20_0, g20_1, g20_2, g20_3, g20_4, g20_5⟩
 · have N21 := Fr.app N0 N20q
   have K22 : Keep h0 T20.heap [a0] := (Keep.refl h0 [a0]).trans K20 (allS (Or.inl (by simp)) (all0 (P := fun x => x ∈ [a0] ∨ h0.size ≤ x)))
   have ge23 : n0 ≤ t_20 := Nat.le_trans Z0 g20_3
   have sz24 : h0.size ≤ t_20 := Nat.le_trans (Nat.le_refl _) g20_3
   show Runs _ _ _ _ (T20.setTop (mkF m 9 #[.val (.ref a0), .val (.ref a1)] []))
   exact w_done X20 hlk (v := none) rfl (fun _ => rfl) (fun fs hr => X20.returnOut hx hret (d2_9 hby) hr) (by decide) (by decide) (Or.inl ⟨t_20, kb_20, rfl, N21, K22, g20_0, g20_1, g20_2, sz24, g20_4, g20_5, g20_6, g20_7⟩)
 · have N25 := Fr.app N0 N20q
   have K26 : Keep h0 T20.heap [a0] := (Keep.refl h0 [a0]).trans K20 (allS (Or.inl (by simp)) (all0 (P := fun x => x ∈ [a0] ∨ h0.size ≤ x)))
   have ge27 : n0 ≤ t_20 := Nat.le_trans Z0 g20_3
   have sz28 : h0.size ≤ t_20 := Nat.le_trans (Nat.le_refl _) g20_3
   show Runs _ _ _ _ (T20.setTop (mkF m 9 #[.val (.ref a0), .val (.ref a1)] []))
   exact w_done X20 hlk (v := none) rfl (fun _ => rfl) (fun fs hr => X20.returnOut hx hret (d2_9 hby) hr) (by decide) (by decide) (Or.inr (⟨t_20, kb_20, rfl, N25, K26, g20_0, g20_1, g20_2, sz28, g20_4, g20_5⟩))
theorem ef_m7_68 (m : MethodId) (a0 : Addr) (a1 : Addr)  : entryFrame m #[(.ref a0), (.ref a1)] 3 = mkF m 0 #[.val (.ref a0), .val (.ref a1), .unset] [] := by first | (simp [entryFrame, mkF, argsToLocals, Value.category]; done) | rfl
def Q_m7_68 (Z : State) (a0 : Addr) (a1 : Addr) (k_a0 : ClassId) (jj0 : Int32) (jj1 : Int32) (jj2 : Int32) (k_a1 : ClassId) (h0 : Heap) (n0 : Nat) (v : Option Value) (h : Heap) (L : List Loc) : Prop := v = some (.int (0 : Int32)) ∧ Fr n0 L ∧ h = h0
theorem rm_m7_68 (l : Launch) (Z : State) (aZ : Array Value) (hw : ∀ d ∈ tables_1, d.before aZ Z = true) (ws : List Jvm.Cond) (a0 : Addr) (a1 : Addr) (k_a0 : ClassId) (jj0 : Int32) (jj1 : Int32) (jj2 : Int32) (k_a1 : ClassId) (h0 : Heap) (n0 : Nat) (Z0 : n0 ≤ h0.size) (V_a0 : Arv Z h0 a0 k_a0 .byte (3 : Int32) [(.int jj0), (.int jj1), (.int jj2)] (.int (0 : Int32))) (V_a1 : Arv Z h0 a1 k_a1 .byte (1 : Int32) [(.int (46 : Int32))] (.int (0 : Int32))) :
    MetN l Z yn_7 jdk_43_method_13_code 3 (some .boolean) ws ({ frames := 0, cells := 0, slots := 0, locals := 0 } : Room) #[(.ref a0), (.ref a1)] h0 (Q_m7_68 Z a0 a1 k_a0 jj0 jj1 jj2 k_a1 h0 n0) := by
 refine MetN.of (plainFor_of_name pn_2) ?_
 intro p e s m below meth c s₁ hret hx hby hml hown hnm hlk hZ X0 e0
 have N0 := Fr.nil n0
 rw [ef_m7_68 m a0 a1]
 refine w_aloadN X0 hx (d7_0 hby) rfl rfl (pc' := 1) rfl ?_
 refine w_alen X0 hx hZ e0 V_a0 (d7_1 hby) (pc' := 2) rfl ?_
 refine w_aloadN X0 hx (d7_2 hby) rfl rfl (pc' := 3) rfl ?_
 refine w_alen X0 hx hZ e0 V_a1 (d7_3 hby) (pc' := 4) rfl ?_
 refine w_icY X0 hx (d7_4 hby) (feq (by decide : ¬ ((3 : Int32) = (1 : Int32)))).2 (pc' := 34) (by decide) (by decide) ?_
 refine w_iconst X0 hx (d7_34 hby) (v := (0 : Int32)) rfl (pc' := 35) rfl ?_
 exact w_done X0 hlk (v := some (.int (0 : Int32))) e0 (fun h => by rw [hret] at h; cases h) (fun fs hr => retN X0 hx (t := .boolean) hret (by simp) (d7_35 hby) hr) (by decide) (by decide) (⟨rfl, N0, rfl⟩)
theorem ef_m6_67 (m : MethodId) (a0 : Addr) (a1 : Addr)  : entryFrame m #[(.ref a0), (.ref a1)] 3 = mkF m 0 #[.val (.ref a0), .val (.ref a1), .unset] [] := by first | (simp [entryFrame, mkF, argsToLocals, Value.category]; done) | rfl
def Q_m6_67 (Z : State) (a0 : Addr) (a1 : Addr) (jj0 : Int32) (jj1 : Addr) (jj2 : Addr) (jj3 : ClassId) (jj4 : Int32) (jj5 : Int32) (jj6 : Int32) (jj7 : ClassId) (h0 : Heap) (n0 : Nat) (v : Option Value) (h : Heap) (L : List Loc) : Prop := v = some (.int (0 : Int32)) ∧ Fr n0 L ∧ h = h0
theorem rm_m6_67 (l : Launch) (Z : State) (aZ : Array Value) (hw : ∀ d ∈ tables_1, d.before aZ Z = true) (ws : List Jvm.Cond) (a0 : Addr) (a1 : Addr) (jj0 : Int32) (jj1 : Addr) (jj2 : Addr) (jj3 : ClassId) (jj4 : Int32) (jj5 : Int32) (jj6 : Int32) (jj7 : ClassId) (h0 : Heap) (n0 : Nat) (Z0 : n0 ≤ h0.size) (zz8 : a0 ≠ a1) (E_a1 : Exa Z h0 a1 kc0) (zz9 : Sta Z Z.heap kc0 "COMPACT_STRINGS" "Z" (.int jj0)) (O0 : Old Z n0 h0) (hP_4 : ¬ (jj0 = (0 : Int32))) (zz10 : Fld Z h0 a0 kc0 "coder" "B" (.int (0 : Int32))) (zz11 : Fld Z h0 a1 kc0 "coder" "B" (.int (0 : Int32))) (zz12 : Fld Z h0 a0 kc0 "value" "[B" (.ref jj1)) (zz13 : Fld Z h0 a1 kc0 "value" "[B" (.ref jj2)) (zz14 : Arv Z h0 jj1 jj3 .byte (3 : Int32) [(.int jj4), (.int jj5), (.int jj6)] (.int (0 : Int32))) (zz15 : Arv Z h0 jj2 jj7 .byte (1 : Int32) [(.int (46 : Int32))] (.int (0 : Int32))) :
    MetN l Z yn_6 jdk_42_method_66_code 3 (some .boolean) ws ({ frames := 1, cells := 0, slots := 0, locals := 14 } : Room) #[(.ref a0), (.ref a1)] h0 (Q_m6_67 Z a0 a1 jj0 jj1 jj2 jj3 jj4 jj5 jj6 jj7 h0 n0) := by
 refine MetN.of (plainFor_of_name pn_1) ?_
 intro p e s m below meth c s₁ hret hx hby hml hown hnm hlk hZ X0 e0
 have N0 := Fr.nil n0
 rw [ef_m6_67 m a0 a1]
 refine w_aloadN X0 hx (d6_0 hby) rfl rfl (pc' := 1) rfl ?_
 refine w_aloadN X0 hx (d6_1 hby) rfl rfl (pc' := 2) rfl ?_
 refine w_acmp X0 hx (d6_2 hby) (same := false) rfl rfl (decide_eq_false fun q => zz8 (Value.ref.inj q)) (pc' := 7) (by decide) (by decide) ?_
 refine w_aloadN X0 hx (d6_7 hby) rfl rfl (pc' := 8) rfl ?_
 refine w_instY X0 hx hZ hown (wd_38 hw) e0 (Ins.self E_a1) (d6_8 hby) (pc' := 11) rfl ?_
 intro T20 X20 e20
 refine w_ifN X20 hx (d6_11 hby) (feq (by decide : ¬ ((1 : Int32) = (0 : Int32)))).1 (pc' := 14) rfl ?_
 refine w_aloadN X20 hx (d6_14 hby) rfl rfl (pc' := 15) rfl ?_
 refine w_castY X20 hx hZ hown (wd_38 hw) e20 (Ins.self E_a1) (d6_15 hby) (pc' := 18) rfl ?_
 intro T21 X21 e21
 refine w_astoreN X21 hx (d6_18 hby) rfl (L' := #[.val (.ref a0), .val (.ref a1), .val (.ref a1)]) rfl (pc' := 19) rfl ?_
 refine w_getS X21 hx "" hZ hown (Or.inl (wd_39 hw)) Via.refl e21 (zz9.ext O0.2) (d6_19 hby) (pc' := 22) rfl ?_
 intro T22 X22 e22
 refine w_ifN X22 hx (d6_22 hby) (feq hP_4).1 (pc' := 25) rfl ?_
 refine w_aloadN X22 hx (d6_25 hby) rfl rfl (pc' := 26) rfl ?_
 refine w_getF X22 hx "" hZ hown (Or.inl (wd_27 hw)) Via.refl e22 zz10 (d6_26 hby) (pc' := 29) rfl ?_
 intro T23 X23 e23
 refine w_aloadN X23 hx (d6_29 hby) rfl rfl (pc' := 30) rfl ?_
 refine w_getF X23 hx "" hZ hown (Or.inl (wd_27 hw)) Via.refl e23 zz11 (d6_30 hby) (pc' := 33) rfl ?_
 intro T24 X24 e24
 refine w_icN X24 hx (d6_33 hby) (teq (by decide : (0 : Int32) = (0 : Int32))).2 (pc' := 36) rfl ?_
 refine w_aloadN X24 hx (d6_36 hby) rfl rfl (pc' := 37) rfl ?_
 refine w_getF X24 hx "" hZ hown (Or.inl (wd_26 hw)) Via.refl e24 zz12 (d6_37 hby) (pc' := 40) rfl ?_
 intro T25 X25 e25
 refine w_aloadN X25 hx (d6_40 hby) rfl rfl (pc' := 41) rfl ?_
 refine w_getF X25 hx "" hZ hown (Or.inl (wd_26 hw)) Via.refl e25 zz13 (d6_41 hby) (pc' := 44) rfl ?_
 intro T26 X26 e26
 refine w_static X26 hx (y := yn_7) hown (mvT hZ (wd_40 hw)) (mvT hZ (wd_41 hw)) (mvT hZ (wd_42 hw)) (mvT hZ (wd_43 hw)) (by decide) (backOf (W := 0) (rm_m7_68 l Z aZ hw [] jj1 jj2 jj3 jj4 jj5 jj6 jj7 h0 n0 Z0 zz14 zz15) hZ (wd_43 hw) (wd_42 hw) (by decide) (by decide)) (by rw [hml]; rfl) [(.ref jj1), (.ref jj2)] (lenOf pd_3 rfl) rfl (Nat.le_of_eq rfl) (d6_44 hby) (fun _ _ => ⟨rfl, e26, (by decide : 0 + 0 ≤ _), (by decide : 0 + 0 ≤ _)⟩) (pc' := 47) rfl ?_
 rintro _ _ ⟨T27, L27, k27, n27⟩ X27 ⟨Lc27, hQ27, l27, y27, z27⟩
 dsimp only [Pt.U, Pt.locs, Pt.cells, Pt.slots] at X27 l27 y27 z27 hQ27 ⊢
 subst l27 y27 z27
 obtain ⟨rfl, N27q, e27⟩ := hQ27
 have N28 := Fr.app N0 N27q
 show Runs _ _ _ _ (T27.setTop (mkF m 47 #[.val (.ref a0), .val (.ref a1), .val (.ref a1)] [(.int (0 : Int32))]))
 refine w_ifY X27 hx (d6_47 hby) (teq (by decide : (0 : Int32) = (0 : Int32))).1 (pc' := 54) (by decide) (by decide) ?_
 refine w_iconst X27 hx (d6_54 hby) (v := (0 : Int32)) rfl (pc' := 55) rfl ?_
 exact w_done X27 hlk (v := some (.int (0 : Int32))) e27 (fun h => by rw [hret] at h; cases h) (fun fs hr => retN X27 hx (t := .boolean) hret (by simp) (d6_55 hby) hr) (by decide) (by decide) (⟨rfl, N28, rfl⟩)
theorem ef_m7_70 (m : MethodId) (a0 : Addr) (a1 : Addr)  : entryFrame m #[(.ref a0), (.ref a1)] 3 = mkF m 0 #[.val (.ref a0), .val (.ref a1), .unset] [] := by first | (simp [entryFrame, mkF, argsToLocals, Value.category]; done) | rfl
def Q_m7_70 (Z : State) (a0 : Addr) (a1 : Addr) (k_a0 : ClassId) (jj0 : Int32) (jj1 : Int32) (jj2 : Int32) (k_a1 : ClassId) (h0 : Heap) (n0 : Nat) (v : Option Value) (h : Heap) (L : List Loc) : Prop := v = some (.int (0 : Int32)) ∧ Fr n0 L ∧ h = h0
theorem rm_m7_70 (l : Launch) (Z : State) (aZ : Array Value) (hw : ∀ d ∈ tables_1, d.before aZ Z = true) (ws : List Jvm.Cond) (a0 : Addr) (a1 : Addr) (k_a0 : ClassId) (jj0 : Int32) (jj1 : Int32) (jj2 : Int32) (k_a1 : ClassId) (h0 : Heap) (n0 : Nat) (Z0 : n0 ≤ h0.size) (V_a0 : Arv Z h0 a0 k_a0 .byte (3 : Int32) [(.int jj0), (.int jj1), (.int jj2)] (.int (0 : Int32))) (V_a1 : Arv Z h0 a1 k_a1 .byte (2 : Int32) [(.int (46 : Int32)), (.int (46 : Int32))] (.int (0 : Int32))) :
    MetN l Z yn_7 jdk_43_method_13_code 3 (some .boolean) ws ({ frames := 0, cells := 0, slots := 0, locals := 0 } : Room) #[(.ref a0), (.ref a1)] h0 (Q_m7_70 Z a0 a1 k_a0 jj0 jj1 jj2 k_a1 h0 n0) := by
 refine MetN.of (plainFor_of_name pn_2) ?_
 intro p e s m below meth c s₁ hret hx hby hml hown hnm hlk hZ X0 e0
 have N0 := Fr.nil n0
 rw [ef_m7_70 m a0 a1]
 refine w_aloadN X0 hx (d7_0 hby) rfl rfl (pc' := 1) rfl ?_
 refine w_alen X0 hx hZ e0 V_a0 (d7_1 hby) (pc' := 2) rfl ?_
 refine w_aloadN X0 hx (d7_2 hby) rfl rfl (pc' := 3) rfl ?_
 refine w_alen X0 hx hZ e0 V_a1 (d7_3 hby) (pc' := 4) rfl ?_
 refine w_icY X0 hx (d7_4 hby) (feq (by decide : ¬ ((3 : Int32) = (2 : Int32)))).2 (pc' := 34) (by decide) (by decide) ?_
 refine w_iconst X0 hx (d7_34 hby) (v := (0 : Int32)) rfl (pc' := 35) rfl ?_
 exact w_done X0 hlk (v := some (.int (0 : Int32))) e0 (fun h => by rw [hret] at h; cases h) (fun fs hr => retN X0 hx (t := .boolean) hret (by simp) (d7_35 hby) hr) (by decide) (by decide) (⟨rfl, N0, rfl⟩)
theorem ef_m6_69 (m : MethodId) (a0 : Addr) (a1 : Addr)  : entryFrame m #[(.ref a0), (.ref a1)] 3 = mkF m 0 #[.val (.ref a0), .val (.ref a1), .unset] [] := by first | (simp [entryFrame, mkF, argsToLocals, Value.category]; done) | rfl
def Q_m6_69 (Z : State) (a0 : Addr) (a1 : Addr) (jj0 : Int32) (jj1 : Addr) (jj2 : Addr) (jj3 : ClassId) (jj4 : Int32) (jj5 : Int32) (jj6 : Int32) (jj7 : ClassId) (h0 : Heap) (n0 : Nat) (v : Option Value) (h : Heap) (L : List Loc) : Prop := v = some (.int (0 : Int32)) ∧ Fr n0 L ∧ h = h0
theorem rm_m6_69 (l : Launch) (Z : State) (aZ : Array Value) (hw : ∀ d ∈ tables_1, d.before aZ Z = true) (ws : List Jvm.Cond) (a0 : Addr) (a1 : Addr) (jj0 : Int32) (jj1 : Addr) (jj2 : Addr) (jj3 : ClassId) (jj4 : Int32) (jj5 : Int32) (jj6 : Int32) (jj7 : ClassId) (h0 : Heap) (n0 : Nat) (Z0 : n0 ≤ h0.size) (zz8 : a0 ≠ a1) (E_a1 : Exa Z h0 a1 kc0) (zz9 : Sta Z Z.heap kc0 "COMPACT_STRINGS" "Z" (.int jj0)) (O0 : Old Z n0 h0) (hP_4 : ¬ (jj0 = (0 : Int32))) (zz10 : Fld Z h0 a0 kc0 "coder" "B" (.int (0 : Int32))) (zz11 : Fld Z h0 a1 kc0 "coder" "B" (.int (0 : Int32))) (zz12 : Fld Z h0 a0 kc0 "value" "[B" (.ref jj1)) (zz13 : Fld Z h0 a1 kc0 "value" "[B" (.ref jj2)) (zz14 : Arv Z h0 jj1 jj3 .byte (3 : Int32) [(.int jj4), (.int jj5), (.int jj6)] (.int (0 : Int32))) (zz15 : Arv Z h0 jj2 jj7 .byte (2 : Int32) [(.int (46 : Int32)), (.int (46 : Int32))] (.int (0 : Int32))) :
    MetN l Z yn_6 jdk_42_method_66_code 3 (some .boolean) ws ({ frames := 1, cells := 0, slots := 0, locals := 14 } : Room) #[(.ref a0), (.ref a1)] h0 (Q_m6_69 Z a0 a1 jj0 jj1 jj2 jj3 jj4 jj5 jj6 jj7 h0 n0) := by
 refine MetN.of (plainFor_of_name pn_1) ?_
 intro p e s m below meth c s₁ hret hx hby hml hown hnm hlk hZ X0 e0
 have N0 := Fr.nil n0
 rw [ef_m6_69 m a0 a1]
 refine w_aloadN X0 hx (d6_0 hby) rfl rfl (pc' := 1) rfl ?_
 refine w_aloadN X0 hx (d6_1 hby) rfl rfl (pc' := 2) rfl ?_
 refine w_acmp X0 hx (d6_2 hby) (same := false) rfl rfl (decide_eq_false fun q => zz8 (Value.ref.inj q)) (pc' := 7) (by decide) (by decide) ?_
 refine w_aloadN X0 hx (d6_7 hby) rfl rfl (pc' := 8) rfl ?_
 refine w_instY X0 hx hZ hown (wd_38 hw) e0 (Ins.self E_a1) (d6_8 hby) (pc' := 11) rfl ?_
 intro T20 X20 e20
 refine w_ifN X20 hx (d6_11 hby) (feq (by decide : ¬ ((1 : Int32) = (0 : Int32)))).1 (pc' := 14) rfl ?_
 refine w_aloadN X20 hx (d6_14 hby) rfl rfl (pc' := 15) rfl ?_
 refine w_castY X20 hx hZ hown (wd_38 hw) e20 (Ins.self E_a1) (d6_15 hby) (pc' := 18) rfl ?_
 intro T21 X21 e21
 refine w_astoreN X21 hx (d6_18 hby) rfl (L' := #[.val (.ref a0), .val (.ref a1), .val (.ref a1)]) rfl (pc' := 19) rfl ?_
 refine w_getS X21 hx "" hZ hown (Or.inl (wd_39 hw)) Via.refl e21 (zz9.ext O0.2) (d6_19 hby) (pc' := 22) rfl ?_
 intro T22 X22 e22
 refine w_ifN X22 hx (d6_22 hby) (feq hP_4).1 (pc' := 25) rfl ?_
 refine w_aloadN X22 hx (d6_25 hby) rfl rfl (pc' := 26) rfl ?_
 refine w_getF X22 hx "" hZ hown (Or.inl (wd_27 hw)) Via.refl e22 zz10 (d6_26 hby) (pc' := 29) rfl ?_
 intro T23 X23 e23
 refine w_aloadN X23 hx (d6_29 hby) rfl rfl (pc' := 30) rfl ?_
 refine w_getF X23 hx "" hZ hown (Or.inl (wd_27 hw)) Via.refl e23 zz11 (d6_30 hby) (pc' := 33) rfl ?_
 intro T24 X24 e24
 refine w_icN X24 hx (d6_33 hby) (teq (by decide : (0 : Int32) = (0 : Int32))).2 (pc' := 36) rfl ?_
 refine w_aloadN X24 hx (d6_36 hby) rfl rfl (pc' := 37) rfl ?_
 refine w_getF X24 hx "" hZ hown (Or.inl (wd_26 hw)) Via.refl e24 zz12 (d6_37 hby) (pc' := 40) rfl ?_
 intro T25 X25 e25
 refine w_aloadN X25 hx (d6_40 hby) rfl rfl (pc' := 41) rfl ?_
 refine w_getF X25 hx "" hZ hown (Or.inl (wd_26 hw)) Via.refl e25 zz13 (d6_41 hby) (pc' := 44) rfl ?_
 intro T26 X26 e26
 refine w_static X26 hx (y := yn_7) hown (mvT hZ (wd_40 hw)) (mvT hZ (wd_41 hw)) (mvT hZ (wd_42 hw)) (mvT hZ (wd_43 hw)) (by decide) (backOf (W := 0) (rm_m7_70 l Z aZ hw [] jj1 jj2 jj3 jj4 jj5 jj6 jj7 h0 n0 Z0 zz14 zz15) hZ (wd_43 hw) (wd_42 hw) (by decide) (by decide)) (by rw [hml]; rfl) [(.ref jj1), (.ref jj2)] (lenOf pd_3 rfl) rfl (Nat.le_of_eq rfl) (d6_44 hby) (fun _ _ => ⟨rfl, e26, (by decide : 0 + 0 ≤ _), (by decide : 0 + 0 ≤ _)⟩) (pc' := 47) rfl ?_
 rintro _ _ ⟨T27, L27, k27, n27⟩ X27 ⟨Lc27, hQ27, l27, y27, z27⟩
 dsimp only [Pt.U, Pt.locs, Pt.cells, Pt.slots] at X27 l27 y27 z27 hQ27 ⊢
 subst l27 y27 z27
 obtain ⟨rfl, N27q, e27⟩ := hQ27
 have N28 := Fr.app N0 N27q
 show Runs _ _ _ _ (T27.setTop (mkF m 47 #[.val (.ref a0), .val (.ref a1), .val (.ref a1)] [(.int (0 : Int32))]))
 refine w_ifY X27 hx (d6_47 hby) (teq (by decide : (0 : Int32) = (0 : Int32))).1 (pc' := 54) (by decide) (by decide) ?_
 refine w_iconst X27 hx (d6_54 hby) (v := (0 : Int32)) rfl (pc' := 55) rfl ?_
 exact w_done X27 hlk (v := some (.int (0 : Int32))) e27 (fun h => by rw [hret] at h; cases h) (fun fs hr => retN X27 hx (t := .boolean) hret (by simp) (d6_55 hby) hr) (by decide) (by decide) (⟨rfl, N28, rfl⟩)
theorem ef_m5_66 (m : MethodId) (a0 : Addr)  : entryFrame m #[(.ref a0)] 1 = mkF m 0 #[.val (.ref a0)] [] := by first | (simp [entryFrame, mkF, argsToLocals, Value.category]; done) | rfl
def Q_m5_66 (Z : State) (a0 : Addr) (jj0 : Addr) (jj1 : ClassId) (jj2 : Int32) (jj3 : Int32) (jj4 : Int32) (jj5 : Int32) (h0 : Heap) (n0 : Nat) (v : Option Value) (h : Heap) (L : List Loc) (S : Addr → Prop) : Prop := v = some (.int (0 : Int32)) ∧ Fr n0 L ∧ Keep h0 h []
theorem rm_m5_66 (l : Launch) (Z : State) (aZ : Array Value) (hw : ∀ d ∈ tables_1, d.before aZ Z = true) (ws : List Jvm.Cond) (a0 : Addr) (jj0 : Addr) (jj1 : ClassId) (jj2 : Int32) (jj3 : Int32) (jj4 : Int32) (jj5 : Int32) (h0 : Heap) (n0 : Nat) (Z0 : n0 ≤ h0.size) (E_a0 : Exa Z h0 a0 kc0) (hP_1 : ¬ (jj5 = (0 : Int32))) (zz6 : Fld Z h0 a0 kc0 "coder" "B" (.int (0 : Int32))) (zz7 : Fld Z h0 a0 kc0 "value" "[B" (.ref jj0)) (zz8 : Arv Z h0 jj0 jj1 .byte (3 : Int32) [(.int jj2), (.int jj3), (.int jj4)] (.int (0 : Int32))) (zz9 : Sta Z Z.heap kc0 "COMPACT_STRINGS" "Z" (.int jj5)) (O0 : Old Z n0 h0) :
    MetH l Z EL yn_5 prog_59_method_10_code 1 (some .boolean) ws ({ frames := 2, cells := 4, slots := 20, locals := 28 } : Room) #[(.ref a0)] h0 (Q_m5_66 Z a0 jj0 jj1 jj2 jj3 jj4 jj5 h0 n0) [a0] := by
 refine MetH.of (plainFor_of_name pn_3) ?_
 intro p e s m below meth c s₁ hret hx hby hml hown hnm hlk hZ X0 e0 hh hH hsf hS0 C0
 have N0 := Fr.nil n0
 rw [ef_m5_66 m a0]
 refine w_aloadN X0 hx (d5_0 hby) rfl rfl (pc' := 1) rfl ?_
 obtain ⟨a20, T20, h20, k20, b20, c20, X20, e20, E20, hS20, hk20, hZ20, hown20, gE20, gC20, gV20, gA20, lt20, ltb20, A20, -, ns20, st20⟩ := ldcCH X0 hx hZ hown (wd_32 hw) (own_wS hw) e0 hS0 (Nat.le_refl _) (own_EW hw) (by simp [EL]) C0.1 (vs := [(.int (46 : Int32))]) (z := (1 : Int32)) (by decide +kernel) (by decide) (by decide) (g := (mkF m 1 #[.val (.ref a0)] [(.ref a0)])) rfl (d5_1 hby) (n := 4) (by decide +kernel) (by decide) (by decide) (by decide)
 refine Runs.by ?_ st20
 have C21 : CHr Z EL s.vm h0 T20.vm h20 := C0.trans A20
 have K22 : Keep h0 h20 [] := (Keep.refl h0 []).ext E20
 show Runs _ _ _ _ (T20.setTop (mkF m 3 #[.val (.ref a0)] [(.ref a20), (.ref a0)]))
 have f51 : Old Z n0 h20 := (O0.ext E20)
 have f52 : Fld Z h20 a0 kc0 "coder" "B" (.int (0 : Int32)) := (zz6.ext E20)
 have f53 : Fld Z h20 a0 kc0 "value" "[B" (.ref jj0) := (zz7.ext E20)
 have f54 : Arv Z h20 jj0 jj1 .byte (3 : Int32) [(.int jj2), (.int jj3), (.int jj4)] (.int (0 : Int32)) := (zz8.ext E20)
 have ne55 : a0 ≠ a20 := (ns20 a0 (CHr.safe A20 (Nat.lt_of_lt_of_le zz6.lt (Nat.le_refl _)) (hsf a0 (by simp)))).1
 have f57 : Exa Z h20 a0 kc0 := (E_a0.ext E20)
 obtain ⟨cq56, kq56, q56a, q56b, q56c⟩ := isOf hZ20 e20 f57
 refine w_virtual X20 hx (y := yn_6) (z := yn_6) hown20 (mvT hZ20 (wd_33 hw)) (mvT hZ20 (wd_34 hw)) (notFace_of_selects (args := #[]) (mvT hZ20 (wd_36 hw))) (mvT hZ20 (wd_36 hw)) (mvT hZ20 (wd_35 hw)) (by decide) (backOf (W := 0) (rm_m6_67 l Z aZ hw [] a0 a20 jj5 jj0 b20 jj1 jj2 jj3 jj4 c20 h20 n0 (Nat.le_trans Z0 E20.1) ne55 gE20 zz9 f51 hP_1 f52 gC20 f53 gV20 f54 gA20) hZ20 (wd_37 hw) (wd_9 hw) (by decide) (by decide)) q56a q56c (by rw [hml]; rfl) [(.ref a20)] (lenOf pd_4 rfl) rfl (Nat.le_of_eq rfl) (d5_3 hby) (fun _ _ => ⟨rfl, e20, (by decide : 2 + 0 ≤ _), (by decide : 8 + 0 ≤ _)⟩) (pc' := 6) rfl ?_
 rintro _ _ ⟨T56, L56, k56, n56⟩ X56 ⟨Lc56, hQ56, l56, y56, z56⟩
 dsimp only [Pt.U, Pt.locs, Pt.cells, Pt.slots] at X56 l56 y56 z56 hQ56 ⊢
 subst l56 y56 z56
 obtain ⟨rfl, N56q, e56⟩ := hQ56
 have N58 := Fr.app N0 N56q
 show Runs _ _ _ _ (T56.setTop (mkF m 6 #[.val (.ref a0)] [(.int (0 : Int32))]))
 refine w_ifN X56 hx (d5_6 hby) (teq (by decide : (0 : Int32) = (0 : Int32))).2 (pc' := 9) rfl ?_
 refine w_aloadN X56 hx (d5_9 hby) rfl rfl (pc' := 10) rfl ?_
 obtain ⟨a59, T59, h59, k59, b59, c59, X59, e59, E59, hS59, hk59, hZ59, hown59, gE59, gC59, gV59, gA59, lt59, ltb59, A59, -, ns59, st59⟩ := ldcCH X56 hx hZ20 hown20 (wd_44 hw) (own_wS hw) e56 hS20 hk20 (own_EW hw) (by simp [EL]) C21.1 (vs := [(.int (46 : Int32)), (.int (46 : Int32))]) (z := (2 : Int32)) (by decide +kernel) (by decide) (by decide) (g := (mkF m 10 #[.val (.ref a0)] [(.ref a0)])) rfl (d5_10 hby) (n := 8) (by decide +kernel) (by decide) (by decide) (by decide)
 refine Runs.by ?_ st59
 have C60 : CHr Z EL s.vm h0 T59.vm h59 := C21.trans A59
 have K61 : Keep h0 h59 [] := K22.ext E59
 show Runs _ _ _ _ (T59.setTop (mkF m 12 #[.val (.ref a0)] [(.ref a59), (.ref a0)]))
 have f94 : Old Z n0 h59 := (f51.ext E59)
 have f95 : Fld Z h59 a0 kc0 "coder" "B" (.int (0 : Int32)) := (f52.ext E59)
 have f96 : Fld Z h59 a0 kc0 "value" "[B" (.ref jj0) := (f53.ext E59)
 have f97 : Arv Z h59 jj0 jj1 .byte (3 : Int32) [(.int jj2), (.int jj3), (.int jj4)] (.int (0 : Int32)) := (f54.ext E59)
 have ne98 : a0 ≠ a59 := (ns59 a0 (CHr.safe A59 (Nat.lt_of_lt_of_le zz6.lt E20.1) (CHr.safe A20 (Nat.lt_of_lt_of_le zz6.lt (Nat.le_refl _)) (hsf a0 (by simp))))).1
 have le99 : h0.size ≤ h59.size := (Nat.le_trans E20.1 E59.1)
 have f101 : Exa Z h59 a0 kc0 := (f57.ext E59)
 obtain ⟨cq100, kq100, q100a, q100b, q100c⟩ := isOf hZ59 e59 f101
 refine w_virtual X59 hx (y := yn_6) (z := yn_6) hown59 (mvT hZ59 (wd_33 hw)) (mvT hZ59 (wd_34 hw)) (notFace_of_selects (args := #[]) (mvT hZ59 (wd_36 hw))) (mvT hZ59 (wd_36 hw)) (mvT hZ59 (wd_35 hw)) (by decide) (backOf (W := 0) (rm_m6_69 l Z aZ hw [] a0 a59 jj5 jj0 b59 jj1 jj2 jj3 jj4 c59 h59 n0 (Nat.le_trans Z0 le99) ne98 gE59 zz9 f94 hP_1 f95 gC59 f96 gV59 f97 gA59) hZ59 (wd_37 hw) (wd_9 hw) (by decide) (by decide)) q100a q100c (by rw [hml]; rfl) [(.ref a59)] (lenOf pd_4 rfl) rfl (Nat.le_of_eq rfl) (d5_12 hby) (fun _ _ => ⟨rfl, e59, (by decide : 4 + 0 ≤ _), (by decide : 20 + 0 ≤ _)⟩) (pc' := 15) rfl ?_
 rintro _ _ ⟨T100, L100, k100, n100⟩ X100 ⟨Lc100, hQ100, l100, y100, z100⟩
 dsimp only [Pt.U, Pt.locs, Pt.cells, Pt.slots] at X100 l100 y100 z100 hQ100 ⊢
 subst l100 y100 z100
 obtain ⟨rfl, N100q, e100⟩ := hQ100
 have N102 := Fr.app N58 N100q
 show Runs _ _ _ _ (T100.setTop (mkF m 15 #[.val (.ref a0)] [(.int (0 : Int32))]))
 refine w_ifY X100 hx (d5_15 hby) (teq (by decide : (0 : Int32) = (0 : Int32))).1 (pc' := 22) (by decide) (by decide) ?_
 refine w_iconst X100 hx (d5_22 hby) (v := (0 : Int32)) rfl (pc' := 23) rfl ?_
 exact w_doneH X100 hlk (v := some (.int (0 : Int32))) e100 hh hZ59 (own_EW hw) hS59 hk59 C60 (fun h => by rw [hret] at h; cases h) (fun fs hr => retN X100 hx (t := .boolean) hret (by simp) (d5_23 hby) hr) (by decide) (by decide) (fun hsy => ⟨rfl, N102, K61⟩)
theorem ef_m9_74 (m : MethodId) (a0 : Addr) (a2 : Addr)  : entryFrame m #[(.ref a0), (.int (0 : Int32)), (.ref a2), (.int (0 : Int32)), (.int (4 : Int32))] 7 = mkF m 0 #[.val (.ref a0), .val (.int (0 : Int32)), .val (.ref a2), .val (.int (0 : Int32)), .val (.int (4 : Int32)), .unset, .unset] [] := by first | (simp [entryFrame, mkF, argsToLocals, Value.category]; done) | rfl
def Q_m9_74 (Z : State) (a0 : Addr) (a2 : Addr) (k_a0 : ClassId) (jj0 : Int32) (jj1 : Int32) (jj2 : Int32) (jj3 : Int32) (k_a2 : ClassId) (h0 : Heap) (n0 : Nat) (v : Option Value) (h : Heap) (L : List Loc) : Prop := (v = some (.int (4 : Int32)) ∧ Fr n0 L ∧ Keep h0 h [a2] ∧ Arv Z h a2 k_a2 .byte (4 : Int32) [(.int (jj0.toInt8.toInt32)), (.int (jj1.toInt8.toInt32)), (.int (jj2.toInt8.toInt32)), (.int (jj3.toInt8.toInt32))] (.int (0 : Int32)) ∧ ¬ ((255 : Int32) < jj0) ∧ ¬ ((255 : Int32) < jj1) ∧ ¬ ((255 : Int32) < jj2) ∧ ¬ ((255 : Int32) < jj3)) ∨ (∃ (j : Int32), v = some (.int j) ∧ Fr n0 L ∧ Keep h0 h [a2] ∧ ¬ (j < (0 : Int32)) ∧ j < (4 : Int32) ∧ (255 : Int32) < (gI [jj0, jj1, jj2, jj3] j))
theorem rm_m9_74 (l : Launch) (Z : State) (aZ : Array Value) (hw : ∀ d ∈ tables_1, d.before aZ Z = true) (ws : List Jvm.Cond) (a0 : Addr) (a2 : Addr) (k_a0 : ClassId) (jj0 : Int32) (jj1 : Int32) (jj2 : Int32) (jj3 : Int32) (k_a2 : ClassId) (h0 : Heap) (n0 : Nat) (Z0 : n0 ≤ h0.size) (V_a0 : Arv Z h0 a0 k_a0 .char (4 : Int32) [(.int jj0), (.int jj1), (.int jj2), (.int jj3)] (.int (0 : Int32))) (V_a2 : Arv Z h0 a2 k_a2 .byte (4 : Int32) [(.int (0 : Int32)), (.int (0 : Int32)), (.int (0 : Int32)), (.int (0 : Int32))] (.int (0 : Int32))) (zz4 : n0 ≤ a2) (zz5 : a0 ≠ a2) :
    MetN l Z yn_9 jdk_52_method_21_code 7 (some .int) ws ({ frames := 0, cells := 0, slots := 0, locals := 0 } : Room) #[(.ref a0), (.int (0 : Int32)), (.ref a2), (.int (0 : Int32)), (.int (4 : Int32))] h0 (Q_m9_74 Z a0 a2 k_a0 jj0 jj1 jj2 jj3 k_a2 h0 n0) := by
 refine MetN.of (plainFor_of_name pn_4) ?_
 intro p e s m below meth c s₁ hret hx hby hml hown hnm hlk hZ X0 e0
 have N0 := Fr.nil n0
 rw [ef_m9_74 m a0 a2]
 refine w_iconst X0 hx (d9_0 hby) (v := (0 : Int32)) rfl (pc' := 1) rfl ?_
 refine w_istore X0 hx (d9_1 hby) (L' := #[.val (.ref a0), .val (.int (0 : Int32)), .val (.ref a2), .val (.int (0 : Int32)), .val (.int (4 : Int32)), .val (.int (0 : Int32)), .unset]) rfl (pc' := 3) rfl ?_
 refine w_iload X0 hx (d9_3 hby) rfl (pc' := 5) rfl ?_
 refine w_iload X0 hx (d9_5 hby) rfl (pc' := 7) rfl ?_
 refine w_icN X0 hx (d9_7 hby) (tlt (by decide : (0 : Int32) < (4 : Int32))).2.1 (pc' := 10) rfl ?_
 refine w_aloadN X0 hx (d9_10 hby) rfl rfl (pc' := 11) rfl ?_
 refine w_iloadN X0 hx (d9_11 hby) rfl (pc' := 12) rfl ?_
 obtain ⟨clu20, Aru20, qu20, Su20, Nu20, Hu20, Gu20⟩ := id V_a0
 have hinu20 := inb_of (j := (0 : Int32)) Su20 ⟨by decide, by decide⟩
 refine w_caload X0 hx hZ e0 Aru20 hinu20 (Hu20.at hinu20 rfl) (d9_12 hby) (pc' := 13) rfl ?_
 refine w_istore X0 hx (d9_13 hby) (L' := #[.val (.ref a0), .val (.int (0 : Int32)), .val (.ref a2), .val (.int (0 : Int32)), .val (.int (4 : Int32)), .val (.int (0 : Int32)), .val (.int jj0)]) rfl (pc' := 15) rfl ?_
 refine w_iload X0 hx (d9_15 hby) rfl (pc' := 17) rfl ?_
 refine w_sipush X0 hx (d9_17 hby) (v := (255 : Int32)) rfl (pc' := 20) rfl ?_
 by_cases hc21 : (255 : Int32) < jj0
 · refine w_icN X0 hx (d9_20 hby) (tlt hc21).2.2.2 (pc' := 23) rfl ?_
   refine w_iload X0 hx (d9_23 hby) rfl (pc' := 25) rfl ?_
   exact w_done X0 hlk (v := some (.int (0 : Int32))) e0 (fun h => by rw [hret] at h; cases h) (fun fs hr => retI X0 hx hret (d9_25 hby) hr) (by decide) (by decide) (Or.inr (⟨(0 : Int32), rfl, N0, (Keep.refl h0 [a2]), (by decide : ¬ ((0 : Int32) < (0 : Int32))), (by decide : (0 : Int32) < (4 : Int32)), (show (255 : Int32) < (gI [jj0, jj1, jj2, jj3] (0 : Int32)) from hc21)⟩))
 · refine w_icY X0 hx (d9_20 hby) (flt hc21).2.2.2 (pc' := 26) (by decide) (by decide) ?_
   refine w_aloadN X0 hx (d9_26 hby) rfl rfl (pc' := 27) rfl ?_
   refine w_iloadN X0 hx (d9_27 hby) rfl (pc' := 28) rfl ?_
   refine w_iload X0 hx (d9_28 hby) rfl (pc' := 30) rfl ?_
   refine w_i2b X0 hx (d9_30 hby) (pc' := 31) rfl ?_
   obtain ⟨clu22, Aru22, qu22, Su22, Nu22, Hu22, Gu22⟩ := id V_a2
   have hinu22 := inb_of (j := (0 : Int32)) Su22 ⟨by decide, by decide⟩
   refine w_stB X0 hx hZ e0 Aru22 hinu22 (d9_31 hby) (pc' := 32) rfl ?_
   intro T23 h23 X23 e23 W23
   have V24 : Arv Z h23 a2 k_a2 .byte (4 : Int32) [(.int (nar .byte (jj0.toInt8.toInt32))), (.int (0 : Int32)), (.int (0 : Int32)), (.int (0 : Int32))] (.int (0 : Int32)) := Arv.set Aru22 qu22 Su22 Nu22 Hu22 Gu22 (fits_nar_byte _) W23 0 rfl (Nat.le_of_ble_eq_true rfl)
   have V25 : Arv Z h23 a2 k_a2 .byte (4 : Int32) [(.int (jj0.toInt8.toInt32)), (.int (0 : Int32)), (.int (0 : Int32)), (.int (0 : Int32))] (.int (0 : Int32)) := by rw [nar_b] at V24; exact V24
   have K26 : Keep h0 h23 [a2] := (Keep.refl h0 [a2]).wr W23 (Or.inl (by simp))
   have N27 := Fr.snoc X23 N0 zz4
   refine w_iinc X23 hx (d9_32 hby) (v := (1 : Int32)) rfl rfl (L' := #[.val (.ref a0), .val (.int ((0 : Int32) + (1 : Int32))), .val (.ref a2), .val (.int (0 : Int32)), .val (.int (4 : Int32)), .val (.int (0 : Int32)), .val (.int jj0)]) rfl (pc' := 35) rfl ?_
   rw [show ((0 : Int32) + (1 : Int32)) = (1 : Int32) from by decide]
   refine w_iinc X23 hx (d9_35 hby) (v := (1 : Int32)) rfl rfl (L' := #[.val (.ref a0), .val (.int (1 : Int32)), .val (.ref a2), .val (.int ((0 : Int32) + (1 : Int32))), .val (.int (4 : Int32)), .val (.int (0 : Int32)), .val (.int jj0)]) rfl (pc' := 38) rfl ?_
   rw [show ((0 : Int32) + (1 : Int32)) = (1 : Int32) from by decide]
   refine w_iinc X23 hx (d9_38 hby) (v := (1 : Int32)) rfl rfl (L' := #[.val (.ref a0), .val (.int (1 : Int32)), .val (.ref a2), .val (.int (1 : Int32)), .val (.int (4 : Int32)), .val (.int ((0 : Int32) + (1 : Int32))), .val (.int jj0)]) rfl (pc' := 41) rfl ?_
   rw [show ((0 : Int32) + (1 : Int32)) = (1 : Int32) from by decide]
   refine w_goto X23 hx (d9_41 hby) (pc' := 3) (by decide) (by decide) ?_
   refine w_iload X23 hx (d9_3 hby) rfl (pc' := 5) rfl ?_
   refine w_iload X23 hx (d9_5 hby) rfl (pc' := 7) rfl ?_
   refine w_icN X23 hx (d9_7 hby) (tlt (by decide : (1 : Int32) < (4 : Int32))).2.1 (pc' := 10) rfl ?_
   refine w_aloadN X23 hx (d9_10 hby) rfl rfl (pc' := 11) rfl ?_
   refine w_iloadN X23 hx (d9_11 hby) rfl (pc' := 12) rfl ?_
   have f28 : Arv Z h23 a0 k_a0 .char (4 : Int32) [(.int jj0), (.int jj1), (.int jj2), (.int jj3)] (.int (0 : Int32)) := (V_a0.other W23 zz5)
   obtain ⟨clu29, Aru29, qu29, Su29, Nu29, Hu29, Gu29⟩ := id f28
   have hinu29 := inb_of (j := (1 : Int32)) Su29 ⟨by decide, by decide⟩
   refine w_caload X23 hx hZ e23 Aru29 hinu29 (Hu29.at hinu29 rfl) (d9_12 hby) (pc' := 13) rfl ?_
   refine w_istore X23 hx (d9_13 hby) (L' := #[.val (.ref a0), .val (.int (1 : Int32)), .val (.ref a2), .val (.int (1 : Int32)), .val (.int (4 : Int32)), .val (.int (1 : Int32)), .val (.int jj1)]) rfl (pc' := 15) rfl ?_
   refine w_iload X23 hx (d9_15 hby) rfl (pc' := 17) rfl ?_
   refine w_sipush X23 hx (d9_17 hby) (v := (255 : Int32)) rfl (pc' := 20) rfl ?_
   by_cases hc30 : (255 : Int32) < jj1
   · refine w_icN X23 hx (d9_20 hby) (tlt hc30).2.2.2 (pc' := 23) rfl ?_
     refine w_iload X23 hx (d9_23 hby) rfl (pc' := 25) rfl ?_
     exact w_done X23 hlk (v := some (.int (1 : Int32))) e23 (fun h => by rw [hret] at h; cases h) (fun fs hr => retI X23 hx hret (d9_25 hby) hr) (by decide) (by decide) (Or.inr (⟨(1 : Int32), rfl, N27, K26, (by decide : ¬ ((1 : Int32) < (0 : Int32))), (by decide : (1 : Int32) < (4 : Int32)), (show (255 : Int32) < (gI [jj0, jj1, jj2, jj3] (1 : Int32)) from hc30)⟩))
   · refine w_icY X23 hx (d9_20 hby) (flt hc30).2.2.2 (pc' := 26) (by decide) (by decide) ?_
     refine w_aloadN X23 hx (d9_26 hby) rfl rfl (pc' := 27) rfl ?_
     refine w_iloadN X23 hx (d9_27 hby) rfl (pc' := 28) rfl ?_
     refine w_iload X23 hx (d9_28 hby) rfl (pc' := 30) rfl ?_
     refine w_i2b X23 hx (d9_30 hby) (pc' := 31) rfl ?_
     obtain ⟨clu31, Aru31, qu31, Su31, Nu31, Hu31, Gu31⟩ := id V25
     have hinu31 := inb_of (j := (1 : Int32)) Su31 ⟨by decide, by decide⟩
     refine w_stB X23 hx hZ e23 Aru31 hinu31 (d9_31 hby) (pc' := 32) rfl ?_
     intro T32 h32 X32 e32 W32
     have V33 : Arv Z h32 a2 k_a2 .byte (4 : Int32) [(.int (jj0.toInt8.toInt32)), (.int (nar .byte (jj1.toInt8.toInt32))), (.int (0 : Int32)), (.int (0 : Int32))] (.int (0 : Int32)) := Arv.set Aru31 qu31 Su31 Nu31 Hu31 Gu31 (fits_nar_byte _) W32 1 rfl (Nat.le_of_ble_eq_true rfl)
     have V34 : Arv Z h32 a2 k_a2 .byte (4 : Int32) [(.int (jj0.toInt8.toInt32)), (.int (jj1.toInt8.toInt32)), (.int (0 : Int32)), (.int (0 : Int32))] (.int (0 : Int32)) := by rw [nar_b] at V33; exact V33
     have K35 : Keep h0 h32 [a2] := K26.wr W32 (Or.inl (by simp))
     have N36 := Fr.snoc X32 N27 zz4
     refine w_iinc X32 hx (d9_32 hby) (v := (1 : Int32)) rfl rfl (L' := #[.val (.ref a0), .val (.int ((1 : Int32) + (1 : Int32))), .val (.ref a2), .val (.int (1 : Int32)), .val (.int (4 : Int32)), .val (.int (1 : Int32)), .val (.int jj1)]) rfl (pc' := 35) rfl ?_
     rw [show ((1 : Int32) + (1 : Int32)) = (2 : Int32) from by decide]
     refine w_iinc X32 hx (d9_35 hby) (v := (1 : Int32)) rfl rfl (L' := #[.val (.ref a0), .val (.int (2 : Int32)), .val (.ref a2), .val (.int ((1 : Int32) + (1 : Int32))), .val (.int (4 : Int32)), .val (.int (1 : Int32)), .val (.int jj1)]) rfl (pc' := 38) rfl ?_
     rw [show ((1 : Int32) + (1 : Int32)) = (2 : Int32) from by decide]
     refine w_iinc X32 hx (d9_38 hby) (v := (1 : Int32)) rfl rfl (L' := #[.val (.ref a0), .val (.int (2 : Int32)), .val (.ref a2), .val (.int (2 : Int32)), .val (.int (4 : Int32)), .val (.int ((1 : Int32) + (1 : Int32))), .val (.int jj1)]) rfl (pc' := 41) rfl ?_
     rw [show ((1 : Int32) + (1 : Int32)) = (2 : Int32) from by decide]
     refine w_goto X32 hx (d9_41 hby) (pc' := 3) (by decide) (by decide) ?_
     refine w_iload X32 hx (d9_3 hby) rfl (pc' := 5) rfl ?_
     refine w_iload X32 hx (d9_5 hby) rfl (pc' := 7) rfl ?_
     refine w_icN X32 hx (d9_7 hby) (tlt (by decide : (2 : Int32) < (4 : Int32))).2.1 (pc' := 10) rfl ?_
     refine w_aloadN X32 hx (d9_10 hby) rfl rfl (pc' := 11) rfl ?_
     refine w_iloadN X32 hx (d9_11 hby) rfl (pc' := 12) rfl ?_
     have f37 : Arv Z h32 a0 k_a0 .char (4 : Int32) [(.int jj0), (.int jj1), (.int jj2), (.int jj3)] (.int (0 : Int32)) := (f28.other W32 zz5)
     obtain ⟨clu38, Aru38, qu38, Su38, Nu38, Hu38, Gu38⟩ := id f37
     have hinu38 := inb_of (j := (2 : Int32)) Su38 ⟨by decide, by decide⟩
     refine w_caload X32 hx hZ e32 Aru38 hinu38 (Hu38.at hinu38 rfl) (d9_12 hby) (pc' := 13) rfl ?_
     refine w_istore X32 hx (d9_13 hby) (L' := #[.val (.ref a0), .val (.int (2 : Int32)), .val (.ref a2), .val (.int (2 : Int32)), .val (.int (4 : Int32)), .val (.int (2 : Int32)), .val (.int jj2)]) rfl (pc' := 15) rfl ?_
     refine w_iload X32 hx (d9_15 hby) rfl (pc' := 17) rfl ?_
     refine w_sipush X32 hx (d9_17 hby) (v := (255 : Int32)) rfl (pc' := 20) rfl ?_
     by_cases hc39 : (255 : Int32) < jj2
     · refine w_icN X32 hx (d9_20 hby) (tlt hc39).2.2.2 (pc' := 23) rfl ?_
       refine w_iload X32 hx (d9_23 hby) rfl (pc' := 25) rfl ?_
       exact w_done X32 hlk (v := some (.int (2 : Int32))) e32 (fun h => by rw [hret] at h; cases h) (fun fs hr => retI X32 hx hret (d9_25 hby) hr) (by decide) (by decide) (Or.inr (⟨(2 : Int32), rfl, N36, K35, (by decide : ¬ ((2 : Int32) < (0 : Int32))), (by decide : (2 : Int32) < (4 : Int32)), (show (255 : Int32) < (gI [jj0, jj1, jj2, jj3] (2 : Int32)) from hc39)⟩))
     · refine w_icY X32 hx (d9_20 hby) (flt hc39).2.2.2 (pc' := 26) (by decide) (by decide) ?_
       refine w_aloadN X32 hx (d9_26 hby) rfl rfl (pc' := 27) rfl ?_
       refine w_iloadN X32 hx (d9_27 hby) rfl (pc' := 28) rfl ?_
       refine w_iload X32 hx (d9_28 hby) rfl (pc' := 30) rfl ?_
       refine w_i2b X32 hx (d9_30 hby) (pc' := 31) rfl ?_
       obtain ⟨clu40, Aru40, qu40, Su40, Nu40, Hu40, Gu40⟩ := id V34
       have hinu40 := inb_of (j := (2 : Int32)) Su40 ⟨by decide, by decide⟩
       refine w_stB X32 hx hZ e32 Aru40 hinu40 (d9_31 hby) (pc' := 32) rfl ?_
       intro T41 h41 X41 e41 W41
       have V42 : Arv Z h41 a2 k_a2 .byte (4 : Int32) [(.int (jj0.toInt8.toInt32)), (.int (jj1.toInt8.toInt32)), (.int (nar .byte (jj2.toInt8.toInt32))), (.int (0 : Int32))] (.int (0 : Int32)) := Arv.set Aru40 qu40 Su40 Nu40 Hu40 Gu40 (fits_nar_byte _) W41 2 rfl (Nat.le_of_ble_eq_true rfl)
       have V43 : Arv Z h41 a2 k_a2 .byte (4 : Int32) [(.int (jj0.toInt8.toInt32)), (.int (jj1.toInt8.toInt32)), (.int (jj2.toInt8.toInt32)), (.int (0 : Int32))] (.int (0 : Int32)) := by rw [nar_b] at V42; exact V42
       have K44 : Keep h0 h41 [a2] := K35.wr W41 (Or.inl (by simp))
       have N45 := Fr.snoc X41 N36 zz4
       refine w_iinc X41 hx (d9_32 hby) (v := (1 : Int32)) rfl rfl (L' := #[.val (.ref a0), .val (.int ((2 : Int32) + (1 : Int32))), .val (.ref a2), .val (.int (2 : Int32)), .val (.int (4 : Int32)), .val (.int (2 : Int32)), .val (.int jj2)]) rfl (pc' := 35) rfl ?_
       rw [show ((2 : Int32) + (1 : Int32)) = (3 : Int32) from by decide]
       refine w_iinc X41 hx (d9_35 hby) (v := (1 : Int32)) rfl rfl (L' := #[.val (.ref a0), .val (.int (3 : Int32)), .val (.ref a2), .val (.int ((2 : Int32) + (1 : Int32))), .val (.int (4 : Int32)), .val (.int (2 : Int32)), .val (.int jj2)]) rfl (pc' := 38) rfl ?_
       rw [show ((2 : Int32) + (1 : Int32)) = (3 : Int32) from by decide]
       refine w_iinc X41 hx (d9_38 hby) (v := (1 : Int32)) rfl rfl (L' := #[.val (.ref a0), .val (.int (3 : Int32)), .val (.ref a2), .val (.int (3 : Int32)), .val (.int (4 : Int32)), .val (.int ((2 : Int32) + (1 : Int32))), .val (.int jj2)]) rfl (pc' := 41) rfl ?_
       rw [show ((2 : Int32) + (1 : Int32)) = (3 : Int32) from by decide]
       refine w_goto X41 hx (d9_41 hby) (pc' := 3) (by decide) (by decide) ?_
       refine w_iload X41 hx (d9_3 hby) rfl (pc' := 5) rfl ?_
       refine w_iload X41 hx (d9_5 hby) rfl (pc' := 7) rfl ?_
       refine w_icN X41 hx (d9_7 hby) (tlt (by decide : (3 : Int32) < (4 : Int32))).2.1 (pc' := 10) rfl ?_
       refine w_aloadN X41 hx (d9_10 hby) rfl rfl (pc' := 11) rfl ?_
       refine w_iloadN X41 hx (d9_11 hby) rfl (pc' := 12) rfl ?_
       have f46 : Arv Z h41 a0 k_a0 .char (4 : Int32) [(.int jj0), (.int jj1), (.int jj2), (.int jj3)] (.int (0 : Int32)) := (f37.other W41 zz5)
       obtain ⟨clu47, Aru47, qu47, Su47, Nu47, Hu47, Gu47⟩ := id f46
       have hinu47 := inb_of (j := (3 : Int32)) Su47 ⟨by decide, by decide⟩
       refine w_caload X41 hx hZ e41 Aru47 hinu47 (Hu47.at hinu47 rfl) (d9_12 hby) (pc' := 13) rfl ?_
       refine w_istore X41 hx (d9_13 hby) (L' := #[.val (.ref a0), .val (.int (3 : Int32)), .val (.ref a2), .val (.int (3 : Int32)), .val (.int (4 : Int32)), .val (.int (3 : Int32)), .val (.int jj3)]) rfl (pc' := 15) rfl ?_
       refine w_iload X41 hx (d9_15 hby) rfl (pc' := 17) rfl ?_
       refine w_sipush X41 hx (d9_17 hby) (v := (255 : Int32)) rfl (pc' := 20) rfl ?_
       by_cases hc48 : (255 : Int32) < jj3
       · refine w_icN X41 hx (d9_20 hby) (tlt hc48).2.2.2 (pc' := 23) rfl ?_
         refine w_iload X41 hx (d9_23 hby) rfl (pc' := 25) rfl ?_
         exact w_done X41 hlk (v := some (.int (3 : Int32))) e41 (fun h => by rw [hret] at h; cases h) (fun fs hr => retI X41 hx hret (d9_25 hby) hr) (by decide) (by decide) (Or.inr (⟨(3 : Int32), rfl, N45, K44, (by decide : ¬ ((3 : Int32) < (0 : Int32))), (by decide : (3 : Int32) < (4 : Int32)), (show (255 : Int32) < (gI [jj0, jj1, jj2, jj3] (3 : Int32)) from hc48)⟩))
       · refine w_icY X41 hx (d9_20 hby) (flt hc48).2.2.2 (pc' := 26) (by decide) (by decide) ?_
         refine w_aloadN X41 hx (d9_26 hby) rfl rfl (pc' := 27) rfl ?_
         refine w_iloadN X41 hx (d9_27 hby) rfl (pc' := 28) rfl ?_
         refine w_iload X41 hx (d9_28 hby) rfl (pc' := 30) rfl ?_
         refine w_i2b X41 hx (d9_30 hby) (pc' := 31) rfl ?_
         obtain ⟨clu49, Aru49, qu49, Su49, Nu49, Hu49, Gu49⟩ := id V43
         have hinu49 := inb_of (j := (3 : Int32)) Su49 ⟨by decide, by decide⟩
         refine w_stB X41 hx hZ e41 Aru49 hinu49 (d9_31 hby) (pc' := 32) rfl ?_
         intro T50 h50 X50 e50 W50
         have V51 : Arv Z h50 a2 k_a2 .byte (4 : Int32) [(.int (jj0.toInt8.toInt32)), (.int (jj1.toInt8.toInt32)), (.int (jj2.toInt8.toInt32)), (.int (nar .byte (jj3.toInt8.toInt32)))] (.int (0 : Int32)) := Arv.set Aru49 qu49 Su49 Nu49 Hu49 Gu49 (fits_nar_byte _) W50 3 rfl (Nat.le_of_ble_eq_true rfl)
         have V52 : Arv Z h50 a2 k_a2 .byte (4 : Int32) [(.int (jj0.toInt8.toInt32)), (.int (jj1.toInt8.toInt32)), (.int (jj2.toInt8.toInt32)), (.int (jj3.toInt8.toInt32))] (.int (0 : Int32)) := by rw [nar_b] at V51; exact V51
         have K53 : Keep h0 h50 [a2] := K44.wr W50 (Or.inl (by simp))
         have N54 := Fr.snoc X50 N45 zz4
         refine w_iinc X50 hx (d9_32 hby) (v := (1 : Int32)) rfl rfl (L' := #[.val (.ref a0), .val (.int ((3 : Int32) + (1 : Int32))), .val (.ref a2), .val (.int (3 : Int32)), .val (.int (4 : Int32)), .val (.int (3 : Int32)), .val (.int jj3)]) rfl (pc' := 35) rfl ?_
         rw [show ((3 : Int32) + (1 : Int32)) = (4 : Int32) from by decide]
         refine w_iinc X50 hx (d9_35 hby) (v := (1 : Int32)) rfl rfl (L' := #[.val (.ref a0), .val (.int (4 : Int32)), .val (.ref a2), .val (.int ((3 : Int32) + (1 : Int32))), .val (.int (4 : Int32)), .val (.int (3 : Int32)), .val (.int jj3)]) rfl (pc' := 38) rfl ?_
         rw [show ((3 : Int32) + (1 : Int32)) = (4 : Int32) from by decide]
         refine w_iinc X50 hx (d9_38 hby) (v := (1 : Int32)) rfl rfl (L' := #[.val (.ref a0), .val (.int (4 : Int32)), .val (.ref a2), .val (.int (4 : Int32)), .val (.int (4 : Int32)), .val (.int ((3 : Int32) + (1 : Int32))), .val (.int jj3)]) rfl (pc' := 41) rfl ?_
         rw [show ((3 : Int32) + (1 : Int32)) = (4 : Int32) from by decide]
         refine w_goto X50 hx (d9_41 hby) (pc' := 3) (by decide) (by decide) ?_
         refine w_iload X50 hx (d9_3 hby) rfl (pc' := 5) rfl ?_
         refine w_iload X50 hx (d9_5 hby) rfl (pc' := 7) rfl ?_
         refine w_icY X50 hx (d9_7 hby) (flt (by decide : ¬ ((4 : Int32) < (4 : Int32)))).2.1 (pc' := 44) (by decide) (by decide) ?_
         refine w_iload X50 hx (d9_44 hby) rfl (pc' := 46) rfl ?_
         exact w_done X50 hlk (v := some (.int (4 : Int32))) e50 (fun h => by rw [hret] at h; cases h) (fun fs hr => retI X50 hx hret (d9_46 hby) hr) (by decide) (by decide) (Or.inl ⟨rfl, N54, K53, V52, hc21, hc30, hc39, hc48⟩)
theorem ef_m13_77 (m : MethodId)   : entryFrame m #[(.int (4 : Int32))] 1 = mkF m 0 #[.val (.int (4 : Int32))] [] := by first | (simp [entryFrame, mkF, argsToLocals, Value.category]; done) | rfl
def Q_m13_77 (Z : State)  (h0 : Heap) (n0 : Nat) (v : Option Value) (h : Heap) (L : List Loc) : Prop := v = some (.int (8 : Int32)) ∧ Fr n0 L ∧ h = h0
theorem rm_m13_77 (l : Launch) (Z : State) (aZ : Array Value) (hw : ∀ d ∈ tables_1, d.before aZ Z = true) (ws : List Jvm.Cond)  (h0 : Heap) (n0 : Nat) (Z0 : n0 ≤ h0.size) :
    MetN l Z yn_13 jdk_52_method_3_code 1 (some .int) ws ({ frames := 0, cells := 0, slots := 0, locals := 0 } : Room) #[(.int (4 : Int32))] h0 (Q_m13_77 Z  h0 n0) := by
 refine MetN.of (plainFor_of_name pn_4) ?_
 intro p e s m below meth c s₁ hret hx hby hml hown hnm hlk hZ X0 e0
 have N0 := Fr.nil n0
 rw [ef_m13_77 m ]
 refine w_iloadN X0 hx (d13_0 hby) rfl (pc' := 1) rfl ?_
 refine w_ifY X0 hx (d13_1 hby) (flt (by decide : ¬ ((4 : Int32) < (0 : Int32)))).2.1 (pc' := 12) (by decide) (by decide) ?_
 refine w_iloadN X0 hx (d13_12 hby) rfl (pc' := 13) rfl ?_
 refine w_ldcI X0 hx hZ hown (wd_64 hw) (d13_13 hby) (pc' := 15) rfl ?_
 refine w_icY X0 hx (d13_15 hby) (tlt (by decide : (4 : Int32) < (1073741823 : Int32))).1 (pc' := 55) (by decide) (by decide) ?_
 refine w_iloadN X0 hx (d13_55 hby) rfl (pc' := 56) rfl ?_
 refine w_iconst X0 hx (d13_56 hby) (v := (1 : Int32)) rfl (pc' := 57) rfl ?_
 refine w_ishl X0 hx (d13_57 hby) (pc' := 58) rfl ?_
 rw [show ((4 : Int32) <<< ((1 : Int32) &&& 31)) = (8 : Int32) from by decide]
 exact w_done X0 hlk (v := some (.int (8 : Int32))) e0 (fun h => by rw [hret] at h; cases h) (fun fs hr => retI X0 hx hret (d13_58 hby) hr) (by decide) (by decide) (⟨rfl, N0, rfl⟩)
theorem ef_m12_76 (m : MethodId)   : entryFrame m #[(.int (4 : Int32))] 1 = mkF m 0 #[.val (.int (4 : Int32))] [] := by first | (simp [entryFrame, mkF, argsToLocals, Value.category]; done) | rfl
def Q_m12_76 (Z : State)  (h0 : Heap) (n0 : Nat) (v : Option Value) (h : Heap) (L : List Loc) : Prop := ∃ (r0 : Addr) (c0 : ClassId), v = some (.ref r0) ∧ Fr n0 L ∧ Keep h0 h [] ∧ h0.size ≤ r0 ∧ Arv Z h r0 c0 .byte (8 : Int32) [(.int (0 : Int32)), (.int (0 : Int32)), (.int (0 : Int32)), (.int (0 : Int32)), (.int (0 : Int32)), (.int (0 : Int32)), (.int (0 : Int32)), (.int (0 : Int32))] (.int (0 : Int32))
theorem rm_m12_76 (l : Launch) (Z : State) (aZ : Array Value) (hw : ∀ d ∈ tables_1, d.before aZ Z = true) (ws : List Jvm.Cond)  (h0 : Heap) (n0 : Nat) (Z0 : n0 ≤ h0.size) :
    MetN l Z yn_12 jdk_52_method_2_code 1 (some (.array .byte)) ws ({ frames := 1, cells := 1, slots := 8, locals := 12 } : Room) #[(.int (4 : Int32))] h0 (Q_m12_76 Z  h0 n0) := by
 refine MetN.of (plainFor_of_name pn_4) ?_
 intro p e s m below meth c s₁ hret hx hby hml hown hnm hlk hZ X0 e0
 have N0 := Fr.nil n0
 rw [ef_m12_76 m ]
 refine w_iloadN X0 hx (d12_0 hby) rfl (pc' := 1) rfl ?_
 refine w_static X0 hx (y := yn_13) hown (mvT hZ (wd_61 hw)) (mvT hZ (wd_62 hw)) (mvT hZ (wd_47 hw)) (mvT hZ (wd_63 hw)) (by decide) (backOf (W := 0) (rm_m13_77 l Z aZ hw []  h0 n0 Z0 ) hZ (wd_63 hw) (wd_47 hw) (by decide) (by decide)) (by rw [hml]; rfl) [(.int (4 : Int32))] (lenOf pd_7 rfl) rfl (Nat.le_of_eq rfl) (d12_1 hby) (fun _ _ => ⟨rfl, e0, (by decide : 0 + 0 ≤ _), (by decide : 0 + 0 ≤ _)⟩) (pc' := 4) rfl ?_
 rintro _ _ ⟨T20, L20, k20, n20⟩ X20 ⟨Lc20, hQ20, l20, y20, z20⟩
 dsimp only [Pt.U, Pt.locs, Pt.cells, Pt.slots] at X20 l20 y20 z20 hQ20 ⊢
 subst l20 y20 z20
 obtain ⟨rfl, N20q, e20⟩ := hQ20
 have N21 := Fr.app N0 N20q
 show Runs _ _ _ _ (T20.setTop (mkF m 4 #[.val (.int (4 : Int32))] [(.int (8 : Int32))]))
 refine w_newP X20 hx .byte .byte 8 rfl hZ (wd_21 hw) e20 (d12_4 hby) (by decide) (by decide) (by decide) (by decide) (by decide) (pc' := 6) rfl ?_
 intro T22 h22 k22 b22 X22 e22 E22 g22 A22
 have ge23 : n0 ≤ b22 := Nat.le_trans Z0 (Nat.le_of_eq g22.symm)
 have sz24 : h0.size ≤ b22 := Nat.le_trans (Nat.le_refl _) (Nat.le_of_eq g22.symm)
 have K25 : Keep h0 h22 [] := (Keep.refl h0 []).ext E22
 have V26 : Arv Z h22 b22 k22 .byte (8 : Int32) [(.int (0 : Int32)), (.int (0 : Int32)), (.int (0 : Int32)), (.int (0 : Int32)), (.int (0 : Int32)), (.int (0 : Int32)), (.int (0 : Int32)), (.int (0 : Int32))] (.int (0 : Int32)) := (Arv.new A22 (by decide)).pad (pad_rep [] (.int (0 : Int32)) 8)
 exact w_done X22 hlk (v := some (.ref b22)) e22 (fun h => by rw [hret] at h; cases h) (fun fs hr => retOut X22 hx hret rfl (Or.inr (Or.inr (Or.inr (Or.inr ⟨rfl, rfl, rfl⟩)))) (d12_6 hby) hr) (by decide) (by decide) (⟨b22, k22, rfl, N21, K25, sz24, V26⟩)
theorem ef_m14_78 (m : MethodId) (a0 : Addr) (p2 : Int32)  : entryFrame m #[(.ref a0), (.int (0 : Int32)), (.int p2)] 3 = mkF m 0 #[.val (.ref a0), .val (.int (0 : Int32)), .val (.int p2)] [] := by first | (simp [entryFrame, mkF, argsToLocals, Value.category]; done) | rfl
def Q_m14_78 (Z : State) (a0 : Addr) (p2 : Int32) (k_a0 : ClassId) (h0 : Heap) (n0 : Nat) (v : Option Value) (h : Heap) (L : List Loc) : Prop := v = none ∧ Fr n0 L ∧ Keep h0 h [a0] ∧ Arv Z h a0 k_a0 .byte (8 : Int32) [(.int ((p2 >>> ((0 : Int32) &&& 31)).toInt8.toInt32)), (.int ((p2 >>> ((8 : Int32) &&& 31)).toInt8.toInt32)), (.int (0 : Int32)), (.int (0 : Int32)), (.int (0 : Int32)), (.int (0 : Int32)), (.int (0 : Int32)), (.int (0 : Int32))] (.int (0 : Int32))
theorem rm_m14_78 (l : Launch) (Z : State) (aZ : Array Value) (hw : ∀ d ∈ tables_1, d.before aZ Z = true) (ws : List Jvm.Cond) (a0 : Addr) (p2 : Int32) (k_a0 : ClassId) (h0 : Heap) (n0 : Nat) (Z0 : n0 ≤ h0.size) (zz0 : Sta Z Z.heap kc1 "$assertionsDisabled" "Z" (.int (1 : Int32))) (O0 : Old Z n0 h0) (zz1 : Sta Z Z.heap kc1 "HI_BYTE_SHIFT" "I" (.int (0 : Int32))) (V_a0 : Arv Z h0 a0 k_a0 .byte (8 : Int32) [(.int (0 : Int32)), (.int (0 : Int32)), (.int (0 : Int32)), (.int (0 : Int32)), (.int (0 : Int32)), (.int (0 : Int32)), (.int (0 : Int32)), (.int (0 : Int32))] (.int (0 : Int32))) (zz2 : n0 ≤ a0) (zz3 : Sta Z Z.heap kc1 "LO_BYTE_SHIFT" "I" (.int (8 : Int32))) :
    MetN l Z yn_14 jdk_52_method_4_code 3 none ws ({ frames := 0, cells := 0, slots := 0, locals := 0 } : Room) #[(.ref a0), (.int (0 : Int32)), (.int p2)] h0 (Q_m14_78 Z a0 p2 k_a0 h0 n0) := by
 refine MetN.of (plainFor_of_name pn_4) ?_
 intro p e s m below meth c s₁ hret hx hby hml hown hnm hlk hZ X0 e0
 have N0 := Fr.nil n0
 rw [ef_m14_78 m a0 p2]
 refine w_getS X0 hx "" hZ hown (Or.inl (wd_68 hw)) Via.refl e0 (zz0.ext O0.2) (d14_0 hby) (pc' := 3) rfl ?_
 intro T20 X20 e20
 refine w_ifY X20 hx (d14_3 hby) (feq (by decide : ¬ ((1 : Int32) = (0 : Int32)))).2 (pc' := 28) (by decide) (by decide) ?_
 refine w_iloadN X20 hx (d14_28 hby) rfl (pc' := 29) rfl ?_
 refine w_iconst X20 hx (d14_29 hby) (v := (1 : Int32)) rfl (pc' := 30) rfl ?_
 refine w_ishl X20 hx (d14_30 hby) (pc' := 31) rfl ?_
 rw [show ((0 : Int32) <<< ((1 : Int32) &&& 31)) = (0 : Int32) from by decide]
 refine w_istoreN X20 hx (d14_31 hby) (L' := #[.val (.ref a0), .val (.int (0 : Int32)), .val (.int p2)]) rfl (pc' := 32) rfl ?_
 refine w_aloadN X20 hx (d14_32 hby) rfl rfl (pc' := 33) rfl ?_
 refine w_iloadN X20 hx (d14_33 hby) rfl (pc' := 34) rfl ?_
 refine w_iinc X20 hx (d14_34 hby) (v := (1 : Int32)) rfl rfl (L' := #[.val (.ref a0), .val (.int ((0 : Int32) + (1 : Int32))), .val (.int p2)]) rfl (pc' := 37) rfl ?_
 rw [show ((0 : Int32) + (1 : Int32)) = (1 : Int32) from by decide]
 refine w_iloadN X20 hx (d14_37 hby) rfl (pc' := 38) rfl ?_
 refine w_getS X20 hx "" hZ hown (Or.inl (wd_69 hw)) Via.refl e20 (zz1.ext O0.2) (d14_38 hby) (pc' := 41) rfl ?_
 intro T21 X21 e21
 refine w_ishr X21 hx (d14_41 hby) (pc' := 42) rfl ?_
 refine w_i2b X21 hx (d14_42 hby) (pc' := 43) rfl ?_
 obtain ⟨clu22, Aru22, qu22, Su22, Nu22, Hu22, Gu22⟩ := id V_a0
 have hinu22 := inb_of (j := (0 : Int32)) Su22 ⟨by decide, by decide⟩
 refine w_stB X21 hx hZ e21 Aru22 hinu22 (d14_43 hby) (pc' := 44) rfl ?_
 intro T23 h23 X23 e23 W23
 have V24 : Arv Z h23 a0 k_a0 .byte (8 : Int32) [(.int (nar .byte ((p2 >>> ((0 : Int32) &&& 31)).toInt8.toInt32))), (.int (0 : Int32)), (.int (0 : Int32)), (.int (0 : Int32)), (.int (0 : Int32)), (.int (0 : Int32)), (.int (0 : Int32)), (.int (0 : Int32))] (.int (0 : Int32)) := Arv.set Aru22 qu22 Su22 Nu22 Hu22 Gu22 (fits_nar_byte _) W23 0 rfl (Nat.le_of_ble_eq_true rfl)
 have V25 : Arv Z h23 a0 k_a0 .byte (8 : Int32) [(.int ((p2 >>> ((0 : Int32) &&& 31)).toInt8.toInt32)), (.int (0 : Int32)), (.int (0 : Int32)), (.int (0 : Int32)), (.int (0 : Int32)), (.int (0 : Int32)), (.int (0 : Int32)), (.int (0 : Int32))] (.int (0 : Int32)) := by rw [nar_b] at V24; exact V24
 have K26 : Keep h0 h23 [a0] := (Keep.refl h0 [a0]).wr W23 (Or.inl (by simp))
 have N27 := Fr.snoc X23 N0 zz2
 refine w_aloadN X23 hx (d14_44 hby) rfl rfl (pc' := 45) rfl ?_
 refine w_iloadN X23 hx (d14_45 hby) rfl (pc' := 46) rfl ?_
 refine w_iloadN X23 hx (d14_46 hby) rfl (pc' := 47) rfl ?_
 have f28 : Old Z n0 h23 := (O0.wr W23 zz2)
 refine w_getS X23 hx "" hZ hown (Or.inl (wd_70 hw)) Via.refl e23 (zz3.ext f28.2) (d14_47 hby) (pc' := 50) rfl ?_
 intro T29 X29 e29
 refine w_ishr X29 hx (d14_50 hby) (pc' := 51) rfl ?_
 refine w_i2b X29 hx (d14_51 hby) (pc' := 52) rfl ?_
 obtain ⟨clu30, Aru30, qu30, Su30, Nu30, Hu30, Gu30⟩ := id V25
 have hinu30 := inb_of (j := (1 : Int32)) Su30 ⟨by decide, by decide⟩
 refine w_stB X29 hx hZ e29 Aru30 hinu30 (d14_52 hby) (pc' := 53) rfl ?_
 intro T31 h31 X31 e31 W31
 have V32 : Arv Z h31 a0 k_a0 .byte (8 : Int32) [(.int ((p2 >>> ((0 : Int32) &&& 31)).toInt8.toInt32)), (.int (nar .byte ((p2 >>> ((8 : Int32) &&& 31)).toInt8.toInt32))), (.int (0 : Int32)), (.int (0 : Int32)), (.int (0 : Int32)), (.int (0 : Int32)), (.int (0 : Int32)), (.int (0 : Int32))] (.int (0 : Int32)) := Arv.set Aru30 qu30 Su30 Nu30 Hu30 Gu30 (fits_nar_byte _) W31 1 rfl (Nat.le_of_ble_eq_true rfl)
 have V33 : Arv Z h31 a0 k_a0 .byte (8 : Int32) [(.int ((p2 >>> ((0 : Int32) &&& 31)).toInt8.toInt32)), (.int ((p2 >>> ((8 : Int32) &&& 31)).toInt8.toInt32)), (.int (0 : Int32)), (.int (0 : Int32)), (.int (0 : Int32)), (.int (0 : Int32)), (.int (0 : Int32)), (.int (0 : Int32))] (.int (0 : Int32)) := by rw [nar_b] at V32; exact V32
 have K34 : Keep h0 h31 [a0] := K26.wr W31 (Or.inl (by simp))
 have N35 := Fr.snoc X31 N27 zz2
 exact w_done X31 hlk (v := none) e31 (fun _ => rfl) (fun fs hr => X31.returnOut hx hret (d14_53 hby) hr) (by decide) (by decide) (⟨rfl, N35, K34, V33⟩)
theorem ef_m14_79 (m : MethodId) (a0 : Addr) (p2 : Int32)  : entryFrame m #[(.ref a0), (.int (1 : Int32)), (.int p2)] 3 = mkF m 0 #[.val (.ref a0), .val (.int (1 : Int32)), .val (.int p2)] [] := by first | (simp [entryFrame, mkF, argsToLocals, Value.category]; done) | rfl
def Q_m14_79 (Z : State) (a0 : Addr) (p2 : Int32) (k_a0 : ClassId) (jj0 : Int32) (jj1 : Int32) (h0 : Heap) (n0 : Nat) (v : Option Value) (h : Heap) (L : List Loc) : Prop := v = none ∧ Fr n0 L ∧ Keep h0 h [a0] ∧ Arv Z h a0 k_a0 .byte (8 : Int32) [(.int jj0), (.int jj1), (.int ((p2 >>> ((0 : Int32) &&& 31)).toInt8.toInt32)), (.int ((p2 >>> ((8 : Int32) &&& 31)).toInt8.toInt32)), (.int (0 : Int32)), (.int (0 : Int32)), (.int (0 : Int32)), (.int (0 : Int32))] (.int (0 : Int32))
theorem rm_m14_79 (l : Launch) (Z : State) (aZ : Array Value) (hw : ∀ d ∈ tables_1, d.before aZ Z = true) (ws : List Jvm.Cond) (a0 : Addr) (p2 : Int32) (k_a0 : ClassId) (jj0 : Int32) (jj1 : Int32) (h0 : Heap) (n0 : Nat) (Z0 : n0 ≤ h0.size) (zz2 : Sta Z Z.heap kc1 "$assertionsDisabled" "Z" (.int (1 : Int32))) (O0 : Old Z n0 h0) (zz3 : Sta Z Z.heap kc1 "HI_BYTE_SHIFT" "I" (.int (0 : Int32))) (V_a0 : Arv Z h0 a0 k_a0 .byte (8 : Int32) [(.int jj0), (.int jj1), (.int (0 : Int32)), (.int (0 : Int32)), (.int (0 : Int32)), (.int (0 : Int32)), (.int (0 : Int32)), (.int (0 : Int32))] (.int (0 : Int32))) (zz4 : n0 ≤ a0) (zz5 : Sta Z Z.heap kc1 "LO_BYTE_SHIFT" "I" (.int (8 : Int32))) :
    MetN l Z yn_14 jdk_52_method_4_code 3 none ws ({ frames := 0, cells := 0, slots := 0, locals := 0 } : Room) #[(.ref a0), (.int (1 : Int32)), (.int p2)] h0 (Q_m14_79 Z a0 p2 k_a0 jj0 jj1 h0 n0) := by
 refine MetN.of (plainFor_of_name pn_4) ?_
 intro p e s m below meth c s₁ hret hx hby hml hown hnm hlk hZ X0 e0
 have N0 := Fr.nil n0
 rw [ef_m14_79 m a0 p2]
 refine w_getS X0 hx "" hZ hown (Or.inl (wd_68 hw)) Via.refl e0 (zz2.ext O0.2) (d14_0 hby) (pc' := 3) rfl ?_
 intro T20 X20 e20
 refine w_ifY X20 hx (d14_3 hby) (feq (by decide : ¬ ((1 : Int32) = (0 : Int32)))).2 (pc' := 28) (by decide) (by decide) ?_
 refine w_iloadN X20 hx (d14_28 hby) rfl (pc' := 29) rfl ?_
 refine w_iconst X20 hx (d14_29 hby) (v := (1 : Int32)) rfl (pc' := 30) rfl ?_
 refine w_ishl X20 hx (d14_30 hby) (pc' := 31) rfl ?_
 rw [show ((1 : Int32) <<< ((1 : Int32) &&& 31)) = (2 : Int32) from by decide]
 refine w_istoreN X20 hx (d14_31 hby) (L' := #[.val (.ref a0), .val (.int (2 : Int32)), .val (.int p2)]) rfl (pc' := 32) rfl ?_
 refine w_aloadN X20 hx (d14_32 hby) rfl rfl (pc' := 33) rfl ?_
 refine w_iloadN X20 hx (d14_33 hby) rfl (pc' := 34) rfl ?_
 refine w_iinc X20 hx (d14_34 hby) (v := (1 : Int32)) rfl rfl (L' := #[.val (.ref a0), .val (.int ((2 : Int32) + (1 : Int32))), .val (.int p2)]) rfl (pc' := 37) rfl ?_
 rw [show ((2 : Int32) + (1 : Int32)) = (3 : Int32) from by decide]
 refine w_iloadN X20 hx (d14_37 hby) rfl (pc' := 38) rfl ?_
 refine w_getS X20 hx "" hZ hown (Or.inl (wd_69 hw)) Via.refl e20 (zz3.ext O0.2) (d14_38 hby) (pc' := 41) rfl ?_
 intro T21 X21 e21
 refine w_ishr X21 hx (d14_41 hby) (pc' := 42) rfl ?_
 refine w_i2b X21 hx (d14_42 hby) (pc' := 43) rfl ?_
 obtain ⟨clu22, Aru22, qu22, Su22, Nu22, Hu22, Gu22⟩ := id V_a0
 have hinu22 := inb_of (j := (2 : Int32)) Su22 ⟨by decide, by decide⟩
 refine w_stB X21 hx hZ e21 Aru22 hinu22 (d14_43 hby) (pc' := 44) rfl ?_
 intro T23 h23 X23 e23 W23
 have V24 : Arv Z h23 a0 k_a0 .byte (8 : Int32) [(.int jj0), (.int jj1), (.int (nar .byte ((p2 >>> ((0 : Int32) &&& 31)).toInt8.toInt32))), (.int (0 : Int32)), (.int (0 : Int32)), (.int (0 : Int32)), (.int (0 : Int32)), (.int (0 : Int32))] (.int (0 : Int32)) := Arv.set Aru22 qu22 Su22 Nu22 Hu22 Gu22 (fits_nar_byte _) W23 2 rfl (Nat.le_of_ble_eq_true rfl)
 have V25 : Arv Z h23 a0 k_a0 .byte (8 : Int32) [(.int jj0), (.int jj1), (.int ((p2 >>> ((0 : Int32) &&& 31)).toInt8.toInt32)), (.int (0 : Int32)), (.int (0 : Int32)), (.int (0 : Int32)), (.int (0 : Int32)), (.int (0 : Int32))] (.int (0 : Int32)) := by rw [nar_b] at V24; exact V24
 have K26 : Keep h0 h23 [a0] := (Keep.refl h0 [a0]).wr W23 (Or.inl (by simp))
 have N27 := Fr.snoc X23 N0 zz4
 refine w_aloadN X23 hx (d14_44 hby) rfl rfl (pc' := 45) rfl ?_
 refine w_iloadN X23 hx (d14_45 hby) rfl (pc' := 46) rfl ?_
 refine w_iloadN X23 hx (d14_46 hby) rfl (pc' := 47) rfl ?_
 have f28 : Old Z n0 h23 := (O0.wr W23 zz4)
 refine w_getS X23 hx "" hZ hown (Or.inl (wd_70 hw)) Via.refl e23 (zz5.ext f28.2) (d14_47 hby) (pc' := 50) rfl ?_
 intro T29 X29 e29
 refine w_ishr X29 hx (d14_50 hby) (pc' := 51) rfl ?_
 refine w_i2b X29 hx (d14_51 hby) (pc' := 52) rfl ?_
 obtain ⟨clu30, Aru30, qu30, Su30, Nu30, Hu30, Gu30⟩ := id V25
 have hinu30 := inb_of (j := (3 : Int32)) Su30 ⟨by decide, by decide⟩
 refine w_stB X29 hx hZ e29 Aru30 hinu30 (d14_52 hby) (pc' := 53) rfl ?_
 intro T31 h31 X31 e31 W31
 have V32 : Arv Z h31 a0 k_a0 .byte (8 : Int32) [(.int jj0), (.int jj1), (.int ((p2 >>> ((0 : Int32) &&& 31)).toInt8.toInt32)), (.int (nar .byte ((p2 >>> ((8 : Int32) &&& 31)).toInt8.toInt32))), (.int (0 : Int32)), (.int (0 : Int32)), (.int (0 : Int32)), (.int (0 : Int32))] (.int (0 : Int32)) := Arv.set Aru30 qu30 Su30 Nu30 Hu30 Gu30 (fits_nar_byte _) W31 3 rfl (Nat.le_of_ble_eq_true rfl)
 have V33 : Arv Z h31 a0 k_a0 .byte (8 : Int32) [(.int jj0), (.int jj1), (.int ((p2 >>> ((0 : Int32) &&& 31)).toInt8.toInt32)), (.int ((p2 >>> ((8 : Int32) &&& 31)).toInt8.toInt32)), (.int (0 : Int32)), (.int (0 : Int32)), (.int (0 : Int32)), (.int (0 : Int32))] (.int (0 : Int32)) := by rw [nar_b] at V32; exact V32
 have K34 : Keep h0 h31 [a0] := K26.wr W31 (Or.inl (by simp))
 have N35 := Fr.snoc X31 N27 zz4
 exact w_done X31 hlk (v := none) e31 (fun _ => rfl) (fun fs hr => X31.returnOut hx hret (d14_53 hby) hr) (by decide) (by decide) (⟨rfl, N35, K34, V33⟩)
theorem ef_m14_80 (m : MethodId) (a0 : Addr) (p2 : Int32)  : entryFrame m #[(.ref a0), (.int (2 : Int32)), (.int p2)] 3 = mkF m 0 #[.val (.ref a0), .val (.int (2 : Int32)), .val (.int p2)] [] := by first | (simp [entryFrame, mkF, argsToLocals, Value.category]; done) | rfl
def Q_m14_80 (Z : State) (a0 : Addr) (p2 : Int32) (k_a0 : ClassId) (jj0 : Int32) (jj1 : Int32) (jj2 : Int32) (jj3 : Int32) (h0 : Heap) (n0 : Nat) (v : Option Value) (h : Heap) (L : List Loc) : Prop := v = none ∧ Fr n0 L ∧ Keep h0 h [a0] ∧ Arv Z h a0 k_a0 .byte (8 : Int32) [(.int jj0), (.int jj1), (.int jj2), (.int jj3), (.int ((p2 >>> ((0 : Int32) &&& 31)).toInt8.toInt32)), (.int ((p2 >>> ((8 : Int32) &&& 31)).toInt8.toInt32)), (.int (0 : Int32)), (.int (0 : Int32))] (.int (0 : Int32))
theorem rm_m14_80 (l : Launch) (Z : State) (aZ : Array Value) (hw : ∀ d ∈ tables_1, d.before aZ Z = true) (ws : List Jvm.Cond) (a0 : Addr) (p2 : Int32) (k_a0 : ClassId) (jj0 : Int32) (jj1 : Int32) (jj2 : Int32) (jj3 : Int32) (h0 : Heap) (n0 : Nat) (Z0 : n0 ≤ h0.size) (zz4 : Sta Z Z.heap kc1 "$assertionsDisabled" "Z" (.int (1 : Int32))) (O0 : Old Z n0 h0) (zz5 : Sta Z Z.heap kc1 "HI_BYTE_SHIFT" "I" (.int (0 : Int32))) (V_a0 : Arv Z h0 a0 k_a0 .byte (8 : Int32) [(.int jj0), (.int jj1), (.int jj2), (.int jj3), (.int (0 : Int32)), (.int (0 : Int32)), (.int (0 : Int32)), (.int (0 : Int32))] (.int (0 : Int32))) (zz6 : n0 ≤ a0) (zz7 : Sta Z Z.heap kc1 "LO_BYTE_SHIFT" "I" (.int (8 : Int32))) :
    MetN l Z yn_14 jdk_52_method_4_code 3 none ws ({ frames := 0, cells := 0, slots := 0, locals := 0 } : Room) #[(.ref a0), (.int (2 : Int32)), (.int p2)] h0 (Q_m14_80 Z a0 p2 k_a0 jj0 jj1 jj2 jj3 h0 n0) := by
 refine MetN.of (plainFor_of_name pn_4) ?_
 intro p e s m below meth c s₁ hret hx hby hml hown hnm hlk hZ X0 e0
 have N0 := Fr.nil n0
 rw [ef_m14_80 m a0 p2]
 refine w_getS X0 hx "" hZ hown (Or.inl (wd_68 hw)) Via.refl e0 (zz4.ext O0.2) (d14_0 hby) (pc' := 3) rfl ?_
 intro T20 X20 e20
 refine w_ifY X20 hx (d14_3 hby) (feq (by decide : ¬ ((1 : Int32) = (0 : Int32)))).2 (pc' := 28) (by decide) (by decide) ?_
 refine w_iloadN X20 hx (d14_28 hby) rfl (pc' := 29) rfl ?_
 refine w_iconst X20 hx (d14_29 hby) (v := (1 : Int32)) rfl (pc' := 30) rfl ?_
 refine w_ishl X20 hx (d14_30 hby) (pc' := 31) rfl ?_
 rw [show ((2 : Int32) <<< ((1 : Int32) &&& 31)) = (4 : Int32) from by decide]
 refine w_istoreN X20 hx (d14_31 hby) (L' := #[.val (.ref a0), .val (.int (4 : Int32)), .val (.int p2)]) rfl (pc' := 32) rfl ?_
 refine w_aloadN X20 hx (d14_32 hby) rfl rfl (pc' := 33) rfl ?_
 refine w_iloadN X20 hx (d14_33 hby) rfl (pc' := 34) rfl ?_
 refine w_iinc X20 hx (d14_34 hby) (v := (1 : Int32)) rfl rfl (L' := #[.val (.ref a0), .val (.int ((4 : Int32) + (1 : Int32))), .val (.int p2)]) rfl (pc' := 37) rfl ?_
 rw [show ((4 : Int32) + (1 : Int32)) = (5 : Int32) from by decide]
 refine w_iloadN X20 hx (d14_37 hby) rfl (pc' := 38) rfl ?_
 refine w_getS X20 hx "" hZ hown (Or.inl (wd_69 hw)) Via.refl e20 (zz5.ext O0.2) (d14_38 hby) (pc' := 41) rfl ?_
 intro T21 X21 e21
 refine w_ishr X21 hx (d14_41 hby) (pc' := 42) rfl ?_
 refine w_i2b X21 hx (d14_42 hby) (pc' := 43) rfl ?_
 obtain ⟨clu22, Aru22, qu22, Su22, Nu22, Hu22, Gu22⟩ := id V_a0
 have hinu22 := inb_of (j := (4 : Int32)) Su22 ⟨by decide, by decide⟩
 refine w_stB X21 hx hZ e21 Aru22 hinu22 (d14_43 hby) (pc' := 44) rfl ?_
 intro T23 h23 X23 e23 W23
 have V24 : Arv Z h23 a0 k_a0 .byte (8 : Int32) [(.int jj0), (.int jj1), (.int jj2), (.int jj3), (.int (nar .byte ((p2 >>> ((0 : Int32) &&& 31)).toInt8.toInt32))), (.int (0 : Int32)), (.int (0 : Int32)), (.int (0 : Int32))] (.int (0 : Int32)) := Arv.set Aru22 qu22 Su22 Nu22 Hu22 Gu22 (fits_nar_byte _) W23 4 rfl (Nat.le_of_ble_eq_true rfl)
 have V25 : Arv Z h23 a0 k_a0 .byte (8 : Int32) [(.int jj0), (.int jj1), (.int jj2), (.int jj3), (.int ((p2 >>> ((0 : Int32) &&& 31)).toInt8.toInt32)), (.int (0 : Int32)), (.int (0 : Int32)), (.int (0 : Int32))] (.int (0 : Int32)) := by rw [nar_b] at V24; exact V24
 have K26 : Keep h0 h23 [a0] := (Keep.refl h0 [a0]).wr W23 (Or.inl (by simp))
 have N27 := Fr.snoc X23 N0 zz6
 refine w_aloadN X23 hx (d14_44 hby) rfl rfl (pc' := 45) rfl ?_
 refine w_iloadN X23 hx (d14_45 hby) rfl (pc' := 46) rfl ?_
 refine w_iloadN X23 hx (d14_46 hby) rfl (pc' := 47) rfl ?_
 have f28 : Old Z n0 h23 := (O0.wr W23 zz6)
 refine w_getS X23 hx "" hZ hown (Or.inl (wd_70 hw)) Via.refl e23 (zz7.ext f28.2) (d14_47 hby) (pc' := 50) rfl ?_
 intro T29 X29 e29
 refine w_ishr X29 hx (d14_50 hby) (pc' := 51) rfl ?_
 refine w_i2b X29 hx (d14_51 hby) (pc' := 52) rfl ?_
 obtain ⟨clu30, Aru30, qu30, Su30, Nu30, Hu30, Gu30⟩ := id V25
 have hinu30 := inb_of (j := (5 : Int32)) Su30 ⟨by decide, by decide⟩
 refine w_stB X29 hx hZ e29 Aru30 hinu30 (d14_52 hby) (pc' := 53) rfl ?_
 intro T31 h31 X31 e31 W31
 have V32 : Arv Z h31 a0 k_a0 .byte (8 : Int32) [(.int jj0), (.int jj1), (.int jj2), (.int jj3), (.int ((p2 >>> ((0 : Int32) &&& 31)).toInt8.toInt32)), (.int (nar .byte ((p2 >>> ((8 : Int32) &&& 31)).toInt8.toInt32))), (.int (0 : Int32)), (.int (0 : Int32))] (.int (0 : Int32)) := Arv.set Aru30 qu30 Su30 Nu30 Hu30 Gu30 (fits_nar_byte _) W31 5 rfl (Nat.le_of_ble_eq_true rfl)
 have V33 : Arv Z h31 a0 k_a0 .byte (8 : Int32) [(.int jj0), (.int jj1), (.int jj2), (.int jj3), (.int ((p2 >>> ((0 : Int32) &&& 31)).toInt8.toInt32)), (.int ((p2 >>> ((8 : Int32) &&& 31)).toInt8.toInt32)), (.int (0 : Int32)), (.int (0 : Int32))] (.int (0 : Int32)) := by rw [nar_b] at V32; exact V32
 have K34 : Keep h0 h31 [a0] := K26.wr W31 (Or.inl (by simp))
 have N35 := Fr.snoc X31 N27 zz6
 exact w_done X31 hlk (v := none) e31 (fun _ => rfl) (fun fs hr => X31.returnOut hx hret (d14_53 hby) hr) (by decide) (by decide) (⟨rfl, N35, K34, V33⟩)
theorem ef_m14_81 (m : MethodId) (a0 : Addr) (p2 : Int32)  : entryFrame m #[(.ref a0), (.int (3 : Int32)), (.int p2)] 3 = mkF m 0 #[.val (.ref a0), .val (.int (3 : Int32)), .val (.int p2)] [] := by first | (simp [entryFrame, mkF, argsToLocals, Value.category]; done) | rfl
def Q_m14_81 (Z : State) (a0 : Addr) (p2 : Int32) (k_a0 : ClassId) (jj0 : Int32) (jj1 : Int32) (jj2 : Int32) (jj3 : Int32) (jj4 : Int32) (jj5 : Int32) (h0 : Heap) (n0 : Nat) (v : Option Value) (h : Heap) (L : List Loc) : Prop := v = none ∧ Fr n0 L ∧ Keep h0 h [a0] ∧ Arv Z h a0 k_a0 .byte (8 : Int32) [(.int jj0), (.int jj1), (.int jj2), (.int jj3), (.int jj4), (.int jj5), (.int ((p2 >>> ((0 : Int32) &&& 31)).toInt8.toInt32)), (.int ((p2 >>> ((8 : Int32) &&& 31)).toInt8.toInt32))] (.int (0 : Int32))
theorem rm_m14_81 (l : Launch) (Z : State) (aZ : Array Value) (hw : ∀ d ∈ tables_1, d.before aZ Z = true) (ws : List Jvm.Cond) (a0 : Addr) (p2 : Int32) (k_a0 : ClassId) (jj0 : Int32) (jj1 : Int32) (jj2 : Int32) (jj3 : Int32) (jj4 : Int32) (jj5 : Int32) (h0 : Heap) (n0 : Nat) (Z0 : n0 ≤ h0.size) (zz6 : Sta Z Z.heap kc1 "$assertionsDisabled" "Z" (.int (1 : Int32))) (O0 : Old Z n0 h0) (zz7 : Sta Z Z.heap kc1 "HI_BYTE_SHIFT" "I" (.int (0 : Int32))) (V_a0 : Arv Z h0 a0 k_a0 .byte (8 : Int32) [(.int jj0), (.int jj1), (.int jj2), (.int jj3), (.int jj4), (.int jj5), (.int (0 : Int32)), (.int (0 : Int32))] (.int (0 : Int32))) (zz8 : n0 ≤ a0) (zz9 : Sta Z Z.heap kc1 "LO_BYTE_SHIFT" "I" (.int (8 : Int32))) :
    MetN l Z yn_14 jdk_52_method_4_code 3 none ws ({ frames := 0, cells := 0, slots := 0, locals := 0 } : Room) #[(.ref a0), (.int (3 : Int32)), (.int p2)] h0 (Q_m14_81 Z a0 p2 k_a0 jj0 jj1 jj2 jj3 jj4 jj5 h0 n0) := by
 refine MetN.of (plainFor_of_name pn_4) ?_
 intro p e s m below meth c s₁ hret hx hby hml hown hnm hlk hZ X0 e0
 have N0 := Fr.nil n0
 rw [ef_m14_81 m a0 p2]
 refine w_getS X0 hx "" hZ hown (Or.inl (wd_68 hw)) Via.refl e0 (zz6.ext O0.2) (d14_0 hby) (pc' := 3) rfl ?_
 intro T20 X20 e20
 refine w_ifY X20 hx (d14_3 hby) (feq (by decide : ¬ ((1 : Int32) = (0 : Int32)))).2 (pc' := 28) (by decide) (by decide) ?_
 refine w_iloadN X20 hx (d14_28 hby) rfl (pc' := 29) rfl ?_
 refine w_iconst X20 hx (d14_29 hby) (v := (1 : Int32)) rfl (pc' := 30) rfl ?_
 refine w_ishl X20 hx (d14_30 hby) (pc' := 31) rfl ?_
 rw [show ((3 : Int32) <<< ((1 : Int32) &&& 31)) = (6 : Int32) from by decide]
 refine w_istoreN X20 hx (d14_31 hby) (L' := #[.val (.ref a0), .val (.int (6 : Int32)), .val (.int p2)]) rfl (pc' := 32) rfl ?_
 refine w_aloadN X20 hx (d14_32 hby) rfl rfl (pc' := 33) rfl ?_
 refine w_iloadN X20 hx (d14_33 hby) rfl (pc' := 34) rfl ?_
 refine w_iinc X20 hx (d14_34 hby) (v := (1 : Int32)) rfl rfl (L' := #[.val (.ref a0), .val (.int ((6 : Int32) + (1 : Int32))), .val (.int p2)]) rfl (pc' := 37) rfl ?_
 rw [show ((6 : Int32) + (1 : Int32)) = (7 : Int32) from by decide]
 refine w_iloadN X20 hx (d14_37 hby) rfl (pc' := 38) rfl ?_
 refine w_getS X20 hx "" hZ hown (Or.inl (wd_69 hw)) Via.refl e20 (zz7.ext O0.2) (d14_38 hby) (pc' := 41) rfl ?_
 intro T21 X21 e21
 refine w_ishr X21 hx (d14_41 hby) (pc' := 42) rfl ?_
 refine w_i2b X21 hx (d14_42 hby) (pc' := 43) rfl ?_
 obtain ⟨clu22, Aru22, qu22, Su22, Nu22, Hu22, Gu22⟩ := id V_a0
 have hinu22 := inb_of (j := (6 : Int32)) Su22 ⟨by decide, by decide⟩
 refine w_stB X21 hx hZ e21 Aru22 hinu22 (d14_43 hby) (pc' := 44) rfl ?_
 intro T23 h23 X23 e23 W23
 have V24 : Arv Z h23 a0 k_a0 .byte (8 : Int32) [(.int jj0), (.int jj1), (.int jj2), (.int jj3), (.int jj4), (.int jj5), (.int (nar .byte ((p2 >>> ((0 : Int32) &&& 31)).toInt8.toInt32))), (.int (0 : Int32))] (.int (0 : Int32)) := Arv.set Aru22 qu22 Su22 Nu22 Hu22 Gu22 (fits_nar_byte _) W23 6 rfl (Nat.le_of_ble_eq_true rfl)
 have V25 : Arv Z h23 a0 k_a0 .byte (8 : Int32) [(.int jj0), (.int jj1), (.int jj2), (.int jj3), (.int jj4), (.int jj5), (.int ((p2 >>> ((0 : Int32) &&& 31)).toInt8.toInt32)), (.int (0 : Int32))] (.int (0 : Int32)) := by rw [nar_b] at V24; exact V24
 have K26 : Keep h0 h23 [a0] := (Keep.refl h0 [a0]).wr W23 (Or.inl (by simp))
 have N27 := Fr.snoc X23 N0 zz8
 refine w_aloadN X23 hx (d14_44 hby) rfl rfl (pc' := 45) rfl ?_
 refine w_iloadN X23 hx (d14_45 hby) rfl (pc' := 46) rfl ?_
 refine w_iloadN X23 hx (d14_46 hby) rfl (pc' := 47) rfl ?_
 have f28 : Old Z n0 h23 := (O0.wr W23 zz8)
 refine w_getS X23 hx "" hZ hown (Or.inl (wd_70 hw)) Via.refl e23 (zz9.ext f28.2) (d14_47 hby) (pc' := 50) rfl ?_
 intro T29 X29 e29
 refine w_ishr X29 hx (d14_50 hby) (pc' := 51) rfl ?_
 refine w_i2b X29 hx (d14_51 hby) (pc' := 52) rfl ?_
 obtain ⟨clu30, Aru30, qu30, Su30, Nu30, Hu30, Gu30⟩ := id V25
 have hinu30 := inb_of (j := (7 : Int32)) Su30 ⟨by decide, by decide⟩
 refine w_stB X29 hx hZ e29 Aru30 hinu30 (d14_52 hby) (pc' := 53) rfl ?_
 intro T31 h31 X31 e31 W31
 have V32 : Arv Z h31 a0 k_a0 .byte (8 : Int32) [(.int jj0), (.int jj1), (.int jj2), (.int jj3), (.int jj4), (.int jj5), (.int ((p2 >>> ((0 : Int32) &&& 31)).toInt8.toInt32)), (.int (nar .byte ((p2 >>> ((8 : Int32) &&& 31)).toInt8.toInt32)))] (.int (0 : Int32)) := Arv.set Aru30 qu30 Su30 Nu30 Hu30 Gu30 (fits_nar_byte _) W31 7 rfl (Nat.le_of_ble_eq_true rfl)
 have V33 : Arv Z h31 a0 k_a0 .byte (8 : Int32) [(.int jj0), (.int jj1), (.int jj2), (.int jj3), (.int jj4), (.int jj5), (.int ((p2 >>> ((0 : Int32) &&& 31)).toInt8.toInt32)), (.int ((p2 >>> ((8 : Int32) &&& 31)).toInt8.toInt32))] (.int (0 : Int32)) := by rw [nar_b] at V32; exact V32
 have K34 : Keep h0 h31 [a0] := K26.wr W31 (Or.inl (by simp))
 have N35 := Fr.snoc X31 N27 zz8
 exact w_done X31 hlk (v := none) e31 (fun _ => rfl) (fun fs hr => X31.returnOut hx hret (d14_53 hby) hr) (by decide) (by decide) (⟨rfl, N35, K34, V33⟩)
theorem ef_m11_75 (m : MethodId) (a0 : Addr)  : entryFrame m #[(.ref a0), (.int (0 : Int32)), (.int (4 : Int32))] 5 = mkF m 0 #[.val (.ref a0), .val (.int (0 : Int32)), .val (.int (4 : Int32)), .unset, .unset] [] := by first | (simp [entryFrame, mkF, argsToLocals, Value.category]; done) | rfl
def Q_m11_75 (Z : State) (a0 : Addr) (k_a0 : ClassId) (jj0 : Int32) (jj1 : Int32) (jj2 : Int32) (jj3 : Int32) (h0 : Heap) (n0 : Nat) (v : Option Value) (h : Heap) (L : List Loc) : Prop := ∃ (r0 : Addr) (c0 : ClassId), v = some (.ref r0) ∧ Fr n0 L ∧ Keep h0 h [] ∧ h0.size ≤ r0 ∧ Arv Z h r0 c0 .byte (8 : Int32) [(.int ((jj0 >>> ((0 : Int32) &&& 31)).toInt8.toInt32)), (.int ((jj0 >>> ((8 : Int32) &&& 31)).toInt8.toInt32)), (.int ((jj1 >>> ((0 : Int32) &&& 31)).toInt8.toInt32)), (.int ((jj1 >>> ((8 : Int32) &&& 31)).toInt8.toInt32)), (.int ((jj2 >>> ((0 : Int32) &&& 31)).toInt8.toInt32)), (.int ((jj2 >>> ((8 : Int32) &&& 31)).toInt8.toInt32)), (.int ((jj3 >>> ((0 : Int32) &&& 31)).toInt8.toInt32)), (.int ((jj3 >>> ((8 : Int32) &&& 31)).toInt8.toInt32))] (.int (0 : Int32))
theorem rm_m11_75 (l : Launch) (Z : State) (aZ : Array Value) (hw : ∀ d ∈ tables_1, d.before aZ Z = true) (ws : List Jvm.Cond) (a0 : Addr) (k_a0 : ClassId) (jj0 : Int32) (jj1 : Int32) (jj2 : Int32) (jj3 : Int32) (h0 : Heap) (n0 : Nat) (Z0 : n0 ≤ h0.size) (V_a0 : Arv Z h0 a0 k_a0 .char (4 : Int32) [(.int jj0), (.int jj1), (.int jj2), (.int jj3)] (.int (0 : Int32))) (zz4 : Sta Z Z.heap kc1 "$assertionsDisabled" "Z" (.int (1 : Int32))) (O0 : Old Z n0 h0) (zz5 : Sta Z Z.heap kc1 "HI_BYTE_SHIFT" "I" (.int (0 : Int32))) (zz6 : Sta Z Z.heap kc1 "LO_BYTE_SHIFT" "I" (.int (8 : Int32))) :
    MetN l Z yn_11 jdk_52_method_14_code 5 (some (.array .byte)) ws ({ frames := 2, cells := 1, slots := 8, locals := 24 } : Room) #[(.ref a0), (.int (0 : Int32)), (.int (4 : Int32))] h0 (Q_m11_75 Z a0 k_a0 jj0 jj1 jj2 jj3 h0 n0) := by
 refine MetN.of (plainFor_of_name pn_4) ?_
 intro p e s m below meth c s₁ hret hx hby hml hown hnm hlk hZ X0 e0
 have N0 := Fr.nil n0
 rw [ef_m11_75 m a0]
 refine w_iloadN X0 hx (d11_0 hby) rfl (pc' := 1) rfl ?_
 refine w_static X0 hx (y := yn_12) hown (mvT hZ (wd_58 hw)) (mvT hZ (wd_59 hw)) (mvT hZ (wd_47 hw)) (mvT hZ (wd_60 hw)) (by decide) (backOf (W := 0) (rm_m12_76 l Z aZ hw []  h0 n0 Z0 ) hZ (wd_60 hw) (wd_47 hw) (by decide) (by decide)) (by rw [hml]; rfl) [(.int (4 : Int32))] (lenOf pd_8 rfl) rfl (Nat.le_of_eq rfl) (d11_1 hby) (fun _ _ => ⟨rfl, e0, (by decide : 0 + 1 ≤ _), (by decide : 0 + 8 ≤ _)⟩) (pc' := 4) rfl ?_
 rintro _ _ ⟨T20, L20, k20, n20⟩ X20 ⟨Lc20, hQ20, l20, y20, z20⟩
 dsimp only [Pt.U, Pt.locs, Pt.cells, Pt.slots] at X20 l20 y20 z20 hQ20 ⊢
 subst l20 y20 z20
 obtain ⟨r0_20, c0_20, rfl, N20q, K20, g20_0, g20_1⟩ := hQ20
 have N21 := Fr.app N0 N20q
 have K22 : Keep h0 T20.heap [] := (Keep.refl h0 []).trans K20 (all0 (P := fun x => x ∈ [] ∨ h0.size ≤ x))
 have ge23 : n0 ≤ r0_20 := Nat.le_trans Z0 g20_0
 have sz24 : h0.size ≤ r0_20 := Nat.le_trans (Nat.le_refl _) g20_0
 show Runs _ _ _ _ (T20.setTop (mkF m 4 #[.val (.ref a0), .val (.int (0 : Int32)), .val (.int (4 : Int32)), .unset, .unset] [(.ref r0_20)]))
 refine w_astoreN X20 hx (d11_4 hby) rfl (L' := #[.val (.ref a0), .val (.int (0 : Int32)), .val (.int (4 : Int32)), .val (.ref r0_20), .unset]) rfl (pc' := 5) rfl ?_
 refine w_iconst X20 hx (d11_5 hby) (v := (0 : Int32)) rfl (pc' := 6) rfl ?_
 refine w_istore X20 hx (d11_6 hby) (L' := #[.val (.ref a0), .val (.int (0 : Int32)), .val (.int (4 : Int32)), .val (.ref r0_20), .val (.int (0 : Int32))]) rfl (pc' := 8) rfl ?_
 refine w_iload X20 hx (d11_8 hby) rfl (pc' := 10) rfl ?_
 refine w_iloadN X20 hx (d11_10 hby) rfl (pc' := 11) rfl ?_
 refine w_icN X20 hx (d11_11 hby) (tlt (by decide : (0 : Int32) < (4 : Int32))).2.1 (pc' := 14) rfl ?_
 refine w_aloadN X20 hx (d11_14 hby) rfl rfl (pc' := 15) rfl ?_
 refine w_iload X20 hx (d11_15 hby) rfl (pc' := 17) rfl ?_
 refine w_aloadN X20 hx (d11_17 hby) rfl rfl (pc' := 18) rfl ?_
 refine w_iloadN X20 hx (d11_18 hby) rfl (pc' := 19) rfl ?_
 have f25 : Arv Z T20.heap a0 k_a0 .char (4 : Int32) [(.int jj0), (.int jj1), (.int jj2), (.int jj3)] (.int (0 : Int32)) := (V_a0.keep K20 nin0)
 obtain ⟨clu26, Aru26, qu26, Su26, Nu26, Hu26, Gu26⟩ := id f25
 have hinu26 := inb_of (j := (0 : Int32)) Su26 ⟨by decide, by decide⟩
 refine w_caload X20 hx hZ rfl Aru26 hinu26 (Hu26.at hinu26 rfl) (d11_19 hby) (pc' := 20) rfl ?_
 have f30 : Old Z n0 T20.heap := (O0.keep K20 all0)
 refine w_static X20 hx (y := yn_14) hown (mvT hZ (wd_65 hw)) (mvT hZ (wd_66 hw)) (mvT hZ (wd_47 hw)) (mvT hZ (wd_67 hw)) (by decide) (backOf (W := 0) (rm_m14_78 l Z aZ hw [] r0_20 jj0 c0_20 T20.heap n0 (Nat.le_trans Z0 K20.1) zz4 f30 zz5 g20_1 ge23 zz6) hZ (wd_67 hw) (wd_47 hw) (by decide) (by decide)) (by rw [hml]; rfl) [(.ref r0_20), (.int (0 : Int32)), (.int jj0)] (lenOf pd_9 rfl) rfl (Nat.le_of_eq rfl) (d11_20 hby) (fun _ _ => ⟨rfl, rfl, (by decide : 1 + 0 ≤ _), (by decide : 8 + 0 ≤ _)⟩) (pc' := 23) rfl ?_
 rintro _ _ ⟨T31, L31, k31, n31⟩ X31 ⟨Lc31, hQ31, l31, y31, z31⟩
 dsimp only [Pt.U, Pt.locs, Pt.cells, Pt.slots] at X31 l31 y31 z31 hQ31 ⊢
 subst l31 y31 z31
 obtain ⟨rfl, N31q, K31, g31_0⟩ := hQ31
 have N32 := Fr.app N21 N31q
 have K33 : Keep h0 T31.heap [] := K22.trans K31 (allS (Or.inr sz24) (all0 (P := fun x => x ∈ [] ∨ h0.size ≤ x)))
 show Runs _ _ _ _ (T31.setTop (mkF m 23 #[.val (.ref a0), .val (.int (0 : Int32)), .val (.int (4 : Int32)), .val (.ref r0_20), .val (.int (0 : Int32))] []))
 refine w_iinc X31 hx (d11_23 hby) (v := (1 : Int32)) rfl rfl (L' := #[.val (.ref a0), .val (.int ((0 : Int32) + (1 : Int32))), .val (.int (4 : Int32)), .val (.ref r0_20), .val (.int (0 : Int32))]) rfl (pc' := 26) rfl ?_
 rw [show ((0 : Int32) + (1 : Int32)) = (1 : Int32) from by decide]
 refine w_iinc X31 hx (d11_26 hby) (v := (1 : Int32)) rfl rfl (L' := #[.val (.ref a0), .val (.int (1 : Int32)), .val (.int (4 : Int32)), .val (.ref r0_20), .val (.int ((0 : Int32) + (1 : Int32)))]) rfl (pc' := 29) rfl ?_
 rw [show ((0 : Int32) + (1 : Int32)) = (1 : Int32) from by decide]
 refine w_goto X31 hx (d11_29 hby) (pc' := 8) (by decide) (by decide) ?_
 refine w_iload X31 hx (d11_8 hby) rfl (pc' := 10) rfl ?_
 refine w_iloadN X31 hx (d11_10 hby) rfl (pc' := 11) rfl ?_
 refine w_icN X31 hx (d11_11 hby) (tlt (by decide : (1 : Int32) < (4 : Int32))).2.1 (pc' := 14) rfl ?_
 refine w_aloadN X31 hx (d11_14 hby) rfl rfl (pc' := 15) rfl ?_
 refine w_iload X31 hx (d11_15 hby) rfl (pc' := 17) rfl ?_
 refine w_aloadN X31 hx (d11_17 hby) rfl rfl (pc' := 18) rfl ?_
 refine w_iloadN X31 hx (d11_18 hby) rfl (pc' := 19) rfl ?_
 have ne34 : a0 ≠ r0_20 := (Nat.ne_of_lt (Nat.lt_of_lt_of_le V_a0.lt (Nat.le_trans (Nat.le_refl _) g20_0)))
 have f35 : Arv Z T31.heap a0 k_a0 .char (4 : Int32) [(.int jj0), (.int jj1), (.int jj2), (.int jj3)] (.int (0 : Int32)) := (f25.keep K31 (ninS ne34 nin0))
 obtain ⟨clu36, Aru36, qu36, Su36, Nu36, Hu36, Gu36⟩ := id f35
 have hinu36 := inb_of (j := (1 : Int32)) Su36 ⟨by decide, by decide⟩
 refine w_caload X31 hx hZ rfl Aru36 hinu36 (Hu36.at hinu36 rfl) (d11_19 hby) (pc' := 20) rfl ?_
 have f39 : Old Z n0 T31.heap := (f30.keep K31 (allS ge23 all0))
 have le40 : h0.size ≤ T31.heap.size := (Nat.le_trans K20.1 K31.1)
 refine w_static X31 hx (y := yn_14) hown (mvT hZ (wd_65 hw)) (mvT hZ (wd_66 hw)) (mvT hZ (wd_47 hw)) (mvT hZ (wd_67 hw)) (by decide) (backOf (W := 0) (rm_m14_79 l Z aZ hw [] r0_20 jj1 c0_20 ((jj0 >>> ((0 : Int32) &&& 31)).toInt8.toInt32) ((jj0 >>> ((8 : Int32) &&& 31)).toInt8.toInt32) T31.heap n0 (Nat.le_trans Z0 le40) zz4 f39 zz5 g31_0 ge23 zz6) hZ (wd_67 hw) (wd_47 hw) (by decide) (by decide)) (by rw [hml]; rfl) [(.ref r0_20), (.int (1 : Int32)), (.int jj1)] (lenOf pd_9 rfl) rfl (Nat.le_of_eq rfl) (d11_20 hby) (fun _ _ => ⟨rfl, rfl, (by decide : 1 + 0 ≤ _), (by decide : 8 + 0 ≤ _)⟩) (pc' := 23) rfl ?_
 rintro _ _ ⟨T41, L41, k41, n41⟩ X41 ⟨Lc41, hQ41, l41, y41, z41⟩
 dsimp only [Pt.U, Pt.locs, Pt.cells, Pt.slots] at X41 l41 y41 z41 hQ41 ⊢
 subst l41 y41 z41
 obtain ⟨rfl, N41q, K41, g41_0⟩ := hQ41
 have N42 := Fr.app N32 N41q
 have K43 : Keep h0 T41.heap [] := K33.trans K41 (allS (Or.inr sz24) (all0 (P := fun x => x ∈ [] ∨ h0.size ≤ x)))
 show Runs _ _ _ _ (T41.setTop (mkF m 23 #[.val (.ref a0), .val (.int (1 : Int32)), .val (.int (4 : Int32)), .val (.ref r0_20), .val (.int (1 : Int32))] []))
 refine w_iinc X41 hx (d11_23 hby) (v := (1 : Int32)) rfl rfl (L' := #[.val (.ref a0), .val (.int ((1 : Int32) + (1 : Int32))), .val (.int (4 : Int32)), .val (.ref r0_20), .val (.int (1 : Int32))]) rfl (pc' := 26) rfl ?_
 rw [show ((1 : Int32) + (1 : Int32)) = (2 : Int32) from by decide]
 refine w_iinc X41 hx (d11_26 hby) (v := (1 : Int32)) rfl rfl (L' := #[.val (.ref a0), .val (.int (2 : Int32)), .val (.int (4 : Int32)), .val (.ref r0_20), .val (.int ((1 : Int32) + (1 : Int32)))]) rfl (pc' := 29) rfl ?_
 rw [show ((1 : Int32) + (1 : Int32)) = (2 : Int32) from by decide]
 refine w_goto X41 hx (d11_29 hby) (pc' := 8) (by decide) (by decide) ?_
 refine w_iload X41 hx (d11_8 hby) rfl (pc' := 10) rfl ?_
 refine w_iloadN X41 hx (d11_10 hby) rfl (pc' := 11) rfl ?_
 refine w_icN X41 hx (d11_11 hby) (tlt (by decide : (2 : Int32) < (4 : Int32))).2.1 (pc' := 14) rfl ?_
 refine w_aloadN X41 hx (d11_14 hby) rfl rfl (pc' := 15) rfl ?_
 refine w_iload X41 hx (d11_15 hby) rfl (pc' := 17) rfl ?_
 refine w_aloadN X41 hx (d11_17 hby) rfl rfl (pc' := 18) rfl ?_
 refine w_iloadN X41 hx (d11_18 hby) rfl (pc' := 19) rfl ?_
 have f44 : Arv Z T41.heap a0 k_a0 .char (4 : Int32) [(.int jj0), (.int jj1), (.int jj2), (.int jj3)] (.int (0 : Int32)) := (f35.keep K41 (ninS ne34 nin0))
 obtain ⟨clu45, Aru45, qu45, Su45, Nu45, Hu45, Gu45⟩ := id f44
 have hinu45 := inb_of (j := (2 : Int32)) Su45 ⟨by decide, by decide⟩
 refine w_caload X41 hx hZ rfl Aru45 hinu45 (Hu45.at hinu45 rfl) (d11_19 hby) (pc' := 20) rfl ?_
 have f47 : Old Z n0 T41.heap := (f39.keep K41 (allS ge23 all0))
 have le48 : h0.size ≤ T41.heap.size := (Nat.le_trans le40 K41.1)
 refine w_static X41 hx (y := yn_14) hown (mvT hZ (wd_65 hw)) (mvT hZ (wd_66 hw)) (mvT hZ (wd_47 hw)) (mvT hZ (wd_67 hw)) (by decide) (backOf (W := 0) (rm_m14_80 l Z aZ hw [] r0_20 jj2 c0_20 ((jj0 >>> ((0 : Int32) &&& 31)).toInt8.toInt32) ((jj0 >>> ((8 : Int32) &&& 31)).toInt8.toInt32) ((jj1 >>> ((0 : Int32) &&& 31)).toInt8.toInt32) ((jj1 >>> ((8 : Int32) &&& 31)).toInt8.toInt32) T41.heap n0 (Nat.le_trans Z0 le48) zz4 f47 zz5 g41_0 ge23 zz6) hZ (wd_67 hw) (wd_47 hw) (by decide) (by decide)) (by rw [hml]; rfl) [(.ref r0_20), (.int (2 : Int32)), (.int jj2)] (lenOf pd_9 rfl) rfl (Nat.le_of_eq rfl) (d11_20 hby) (fun _ _ => ⟨rfl, rfl, (by decide : 1 + 0 ≤ _), (by decide : 8 + 0 ≤ _)⟩) (pc' := 23) rfl ?_
 rintro _ _ ⟨T49, L49, k49, n49⟩ X49 ⟨Lc49, hQ49, l49, y49, z49⟩
 dsimp only [Pt.U, Pt.locs, Pt.cells, Pt.slots] at X49 l49 y49 z49 hQ49 ⊢
 subst l49 y49 z49
 obtain ⟨rfl, N49q, K49, g49_0⟩ := hQ49
 have N50 := Fr.app N42 N49q
 have K51 : Keep h0 T49.heap [] := K43.trans K49 (allS (Or.inr sz24) (all0 (P := fun x => x ∈ [] ∨ h0.size ≤ x)))
 show Runs _ _ _ _ (T49.setTop (mkF m 23 #[.val (.ref a0), .val (.int (2 : Int32)), .val (.int (4 : Int32)), .val (.ref r0_20), .val (.int (2 : Int32))] []))
 refine w_iinc X49 hx (d11_23 hby) (v := (1 : Int32)) rfl rfl (L' := #[.val (.ref a0), .val (.int ((2 : Int32) + (1 : Int32))), .val (.int (4 : Int32)), .val (.ref r0_20), .val (.int (2 : Int32))]) rfl (pc' := 26) rfl ?_
 rw [show ((2 : Int32) + (1 : Int32)) = (3 : Int32) from by decide]
 refine w_iinc X49 hx (d11_26 hby) (v := (1 : Int32)) rfl rfl (L' := #[.val (.ref a0), .val (.int (3 : Int32)), .val (.int (4 : Int32)), .val (.ref r0_20), .val (.int ((2 : Int32) + (1 : Int32)))]) rfl (pc' := 29) rfl ?_
 rw [show ((2 : Int32) + (1 : Int32)) = (3 : Int32) from by decide]
 refine w_goto X49 hx (d11_29 hby) (pc' := 8) (by decide) (by decide) ?_
 refine w_iload X49 hx (d11_8 hby) rfl (pc' := 10) rfl ?_
 refine w_iloadN X49 hx (d11_10 hby) rfl (pc' := 11) rfl ?_
 refine w_icN X49 hx (d11_11 hby) (tlt (by decide : (3 : Int32) < (4 : Int32))).2.1 (pc' := 14) rfl ?_
 refine w_aloadN X49 hx (d11_14 hby) rfl rfl (pc' := 15) rfl ?_
 refine w_iload X49 hx (d11_15 hby) rfl (pc' := 17) rfl ?_
 refine w_aloadN X49 hx (d11_17 hby) rfl rfl (pc' := 18) rfl ?_
 refine w_iloadN X49 hx (d11_18 hby) rfl (pc' := 19) rfl ?_
 have f52 : Arv Z T49.heap a0 k_a0 .char (4 : Int32) [(.int jj0), (.int jj1), (.int jj2), (.int jj3)] (.int (0 : Int32)) := (f44.keep K49 (ninS ne34 nin0))
 obtain ⟨clu53, Aru53, qu53, Su53, Nu53, Hu53, Gu53⟩ := id f52
 have hinu53 := inb_of (j := (3 : Int32)) Su53 ⟨by decide, by decide⟩
 refine w_caload X49 hx hZ rfl Aru53 hinu53 (Hu53.at hinu53 rfl) (d11_19 hby) (pc' := 20) rfl ?_
 have f54 : Old Z n0 T49.heap := (f47.keep K49 (allS ge23 all0))
 have le55 : h0.size ≤ T49.heap.size := (Nat.le_trans le48 K49.1)
 refine w_static X49 hx (y := yn_14) hown (mvT hZ (wd_65 hw)) (mvT hZ (wd_66 hw)) (mvT hZ (wd_47 hw)) (mvT hZ (wd_67 hw)) (by decide) (backOf (W := 0) (rm_m14_81 l Z aZ hw [] r0_20 jj3 c0_20 ((jj0 >>> ((0 : Int32) &&& 31)).toInt8.toInt32) ((jj0 >>> ((8 : Int32) &&& 31)).toInt8.toInt32) ((jj1 >>> ((0 : Int32) &&& 31)).toInt8.toInt32) ((jj1 >>> ((8 : Int32) &&& 31)).toInt8.toInt32) ((jj2 >>> ((0 : Int32) &&& 31)).toInt8.toInt32) ((jj2 >>> ((8 : Int32) &&& 31)).toInt8.toInt32) T49.heap n0 (Nat.le_trans Z0 le55) zz4 f54 zz5 g49_0 ge23 zz6) hZ (wd_67 hw) (wd_47 hw) (by decide) (by decide)) (by rw [hml]; rfl) [(.ref r0_20), (.int (3 : Int32)), (.int jj3)] (lenOf pd_9 rfl) rfl (Nat.le_of_eq rfl) (d11_20 hby) (fun _ _ => ⟨rfl, rfl, (by decide : 1 + 0 ≤ _), (by decide : 8 + 0 ≤ _)⟩) (pc' := 23) rfl ?_
 rintro _ _ ⟨T56, L56, k56, n56⟩ X56 ⟨Lc56, hQ56, l56, y56, z56⟩
 dsimp only [Pt.U, Pt.locs, Pt.cells, Pt.slots] at X56 l56 y56 z56 hQ56 ⊢
 subst l56 y56 z56
 obtain ⟨rfl, N56q, K56, g56_0⟩ := hQ56
 have N57 := Fr.app N50 N56q
 have K58 : Keep h0 T56.heap [] := K51.trans K56 (allS (Or.inr sz24) (all0 (P := fun x => x ∈ [] ∨ h0.size ≤ x)))
 show Runs _ _ _ _ (T56.setTop (mkF m 23 #[.val (.ref a0), .val (.int (3 : Int32)), .val (.int (4 : Int32)), .val (.ref r0_20), .val (.int (3 : Int32))] []))
 refine w_iinc X56 hx (d11_23 hby) (v := (1 : Int32)) rfl rfl (L' := #[.val (.ref a0), .val (.int ((3 : Int32) + (1 : Int32))), .val (.int (4 : Int32)), .val (.ref r0_20), .val (.int (3 : Int32))]) rfl (pc' := 26) rfl ?_
 rw [show ((3 : Int32) + (1 : Int32)) = (4 : Int32) from by decide]
 refine w_iinc X56 hx (d11_26 hby) (v := (1 : Int32)) rfl rfl (L' := #[.val (.ref a0), .val (.int (4 : Int32)), .val (.int (4 : Int32)), .val (.ref r0_20), .val (.int ((3 : Int32) + (1 : Int32)))]) rfl (pc' := 29) rfl ?_
 rw [show ((3 : Int32) + (1 : Int32)) = (4 : Int32) from by decide]
 refine w_goto X56 hx (d11_29 hby) (pc' := 8) (by decide) (by decide) ?_
 refine w_iload X56 hx (d11_8 hby) rfl (pc' := 10) rfl ?_
 refine w_iloadN X56 hx (d11_10 hby) rfl (pc' := 11) rfl ?_
 refine w_icY X56 hx (d11_11 hby) (flt (by decide : ¬ ((4 : Int32) < (4 : Int32)))).2.1 (pc' := 32) (by decide) (by decide) ?_
 refine w_aloadN X56 hx (d11_32 hby) rfl rfl (pc' := 33) rfl ?_
 exact w_done X56 hlk (v := some (.ref r0_20)) rfl (fun h => by rw [hret] at h; cases h) (fun fs hr => retOut X56 hx hret rfl (Or.inr (Or.inr (Or.inr (Or.inr ⟨rfl, rfl, rfl⟩)))) (d11_33 hby) hr) (by decide) (by decide) (⟨r0_20, c0_20, rfl, N57, K58, sz24, g56_0⟩)
theorem ef_m15_82 (m : MethodId) (a0 : Addr) (p1 : Int32)  : entryFrame m #[(.ref a0), (.int p1)] 2 = mkF m 0 #[.val (.ref a0), .val (.int p1)] [] := by first | (simp [entryFrame, mkF, argsToLocals, Value.category]; done) | rfl
def Q_m15_82 (Z : State) (a0 : Addr) (p1 : Int32) (k_a0 : ClassId) (jj0 : Int32) (jj1 : Int32) (jj2 : Int32) (jj3 : Int32) (jj4 : Int32) (jj5 : Int32) (jj6 : Int32) (jj7 : Int32) (h0 : Heap) (n0 : Nat) (v : Option Value) (h : Heap) (L : List Loc) : Prop := v = some (.int (((((gI [jj0, jj1, jj2, jj3, jj4, jj5, jj6, jj7] (p1 <<< ((1 : Int32) &&& 31))) &&& (255 : Int32)) <<< ((0 : Int32) &&& 31)) ||| (((gI [jj0, jj1, jj2, jj3, jj4, jj5, jj6, jj7] ((p1 <<< ((1 : Int32) &&& 31)) + (1 : Int32))) &&& (255 : Int32)) <<< ((8 : Int32) &&& 31))).toUInt32.toUInt16.toUInt32.toInt32)) ∧ Fr n0 L ∧ h = h0
theorem rm_m15_82 (l : Launch) (Z : State) (aZ : Array Value) (hw : ∀ d ∈ tables_1, d.before aZ Z = true) (ws : List Jvm.Cond) (a0 : Addr) (p1 : Int32) (k_a0 : ClassId) (jj0 : Int32) (jj1 : Int32) (jj2 : Int32) (jj3 : Int32) (jj4 : Int32) (jj5 : Int32) (jj6 : Int32) (jj7 : Int32) (h0 : Heap) (n0 : Nat) (Z0 : n0 ≤ h0.size) (zz8 : Sta Z Z.heap kc1 "$assertionsDisabled" "Z" (.int (1 : Int32))) (O0 : Old Z n0 h0) (V_a0 : Arv Z h0 a0 k_a0 .byte (8 : Int32) [(.int jj0), (.int jj1), (.int jj2), (.int jj3), (.int jj4), (.int jj5), (.int jj6), (.int jj7)] (.int (0 : Int32))) (hP_3 : ¬ (p1 < (0 : Int32))) (hP_4 : p1 < (4 : Int32)) (zz9 : Sta Z Z.heap kc1 "HI_BYTE_SHIFT" "I" (.int (0 : Int32))) (zz10 : Sta Z Z.heap kc1 "LO_BYTE_SHIFT" "I" (.int (8 : Int32))) :
    MetN l Z yn_15 jdk_52_method_5_code 2 (some .char) ws ({ frames := 0, cells := 0, slots := 0, locals := 0 } : Room) #[(.ref a0), (.int p1)] h0 (Q_m15_82 Z a0 p1 k_a0 jj0 jj1 jj2 jj3 jj4 jj5 jj6 jj7 h0 n0) := by
 refine MetN.of (plainFor_of_name pn_4) ?_
 intro p e s m below meth c s₁ hret hx hby hml hown hnm hlk hZ X0 e0
 have N0 := Fr.nil n0
 rw [ef_m15_82 m a0 p1]
 refine w_getS X0 hx "" hZ hown (Or.inl (wd_68 hw)) Via.refl e0 (zz8.ext O0.2) (d15_0 hby) (pc' := 3) rfl ?_
 intro T20 X20 e20
 refine w_ifY X20 hx (d15_3 hby) (feq (by decide : ¬ ((1 : Int32) = (0 : Int32)))).2 (pc' := 28) (by decide) (by decide) ?_
 refine w_iloadN X20 hx (d15_28 hby) rfl (pc' := 29) rfl ?_
 refine w_iconst X20 hx (d15_29 hby) (v := (1 : Int32)) rfl (pc' := 30) rfl ?_
 refine w_ishl X20 hx (d15_30 hby) (pc' := 31) rfl ?_
 refine w_istoreN X20 hx (d15_31 hby) (L' := #[.val (.ref a0), .val (.int (p1 <<< ((1 : Int32) &&& 31)))]) rfl (pc' := 32) rfl ?_
 refine w_aloadN X20 hx (d15_32 hby) rfl rfl (pc' := 33) rfl ?_
 refine w_iloadN X20 hx (d15_33 hby) rfl (pc' := 34) rfl ?_
 refine w_iinc X20 hx (d15_34 hby) (v := (1 : Int32)) rfl rfl (L' := #[.val (.ref a0), .val (.int ((p1 <<< ((1 : Int32) &&& 31)) + (1 : Int32)))]) rfl (pc' := 37) rfl ?_
 obtain ⟨clu21, Aru21, qu21, Su21, Nu21, Hu21, Gu21⟩ := id V_a0
 have hinu21 := inb_of (j := (p1 <<< ((1 : Int32) &&& 31))) Su21 ⟨(own_shl_in (n := 4) (by decide) (by decide) hP_3 hP_4).1.1, (Eq.mp (congrArg (fun z => (p1 <<< ((1 : Int32) &&& 31)) < z) (by decide : (4 : Int32) <<< ((1 : Int32) &&& 31) = 8)) (own_shl_in (n := 4) (by decide) (by decide) hP_3 hP_4).1.2)⟩
 refine w_baload X20 hx hZ e20 Aru21 hinu21 (Hu21.at hinu21 (own_gI [jj0, jj1, jj2, jj3, jj4, jj5, jj6, jj7] (p1 <<< ((1 : Int32) &&& 31)))) (d15_37 hby) (pc' := 38) rfl ?_
 refine w_sipush X20 hx (d15_38 hby) (v := (255 : Int32)) rfl (pc' := 41) rfl ?_
 refine w_iand X20 hx (d15_41 hby) (pc' := 42) rfl ?_
 refine w_getS X20 hx "" hZ hown (Or.inl (wd_69 hw)) Via.refl e20 (zz9.ext O0.2) (d15_42 hby) (pc' := 45) rfl ?_
 intro T22 X22 e22
 refine w_ishl X22 hx (d15_45 hby) (pc' := 46) rfl ?_
 refine w_aloadN X22 hx (d15_46 hby) rfl rfl (pc' := 47) rfl ?_
 refine w_iloadN X22 hx (d15_47 hby) rfl (pc' := 48) rfl ?_
 obtain ⟨clu23, Aru23, qu23, Su23, Nu23, Hu23, Gu23⟩ := id V_a0
 have hinu23 := inb_of (j := ((p1 <<< ((1 : Int32) &&& 31)) + (1 : Int32))) Su23 ⟨(own_shl_in (n := 4) (by decide) (by decide) hP_3 hP_4).2.1, (Eq.mp (congrArg (fun z => ((p1 <<< ((1 : Int32) &&& 31)) + (1 : Int32)) < z) (by decide : (4 : Int32) <<< ((1 : Int32) &&& 31) = 8)) (own_shl_in (n := 4) (by decide) (by decide) hP_3 hP_4).2.2)⟩
 refine w_baload X22 hx hZ e22 Aru23 hinu23 (Hu23.at hinu23 (own_gI [jj0, jj1, jj2, jj3, jj4, jj5, jj6, jj7] ((p1 <<< ((1 : Int32) &&& 31)) + (1 : Int32)))) (d15_48 hby) (pc' := 49) rfl ?_
 refine w_sipush X22 hx (d15_49 hby) (v := (255 : Int32)) rfl (pc' := 52) rfl ?_
 refine w_iand X22 hx (d15_52 hby) (pc' := 53) rfl ?_
 refine w_getS X22 hx "" hZ hown (Or.inl (wd_70 hw)) Via.refl e22 (zz10.ext O0.2) (d15_53 hby) (pc' := 56) rfl ?_
 intro T24 X24 e24
 refine w_ishl X24 hx (d15_56 hby) (pc' := 57) rfl ?_
 refine w_ior X24 hx (d15_57 hby) (pc' := 58) rfl ?_
 refine w_i2c X24 hx (d15_58 hby) (pc' := 59) rfl ?_
 exact w_done X24 hlk (v := some (.int (((((gI [jj0, jj1, jj2, jj3, jj4, jj5, jj6, jj7] (p1 <<< ((1 : Int32) &&& 31))) &&& (255 : Int32)) <<< ((0 : Int32) &&& 31)) ||| (((gI [jj0, jj1, jj2, jj3, jj4, jj5, jj6, jj7] ((p1 <<< ((1 : Int32) &&& 31)) + (1 : Int32))) &&& (255 : Int32)) <<< ((8 : Int32) &&& 31))).toUInt32.toUInt16.toUInt32.toInt32))) e24 (fun h => by rw [hret] at h; cases h) (fun fs hr => retOut X24 hx hret (t := .char) (XT.narrow_c _) (Or.inl ⟨rfl, by simp, _, rfl⟩) (d15_59 hby) hr) (by decide) (by decide) (⟨rfl, N0, rfl⟩)
theorem ef_m8_73 (m : MethodId) (a0 : Addr)  : entryFrame m #[(.ref a0), (.int (0 : Int32)), (.int (4 : Int32))] 6 = mkF m 0 #[.val (.ref a0), .val (.int (0 : Int32)), .val (.int (4 : Int32)), .unset, .unset, .unset] [] := by first | (simp [entryFrame, mkF, argsToLocals, Value.category]; done) | rfl
def Q_m8_73 (Z : State) (a0 : Addr) (k_a0 : ClassId) (jj0 : Int32) (jj1 : Int32) (jj2 : Int32) (jj3 : Int32) (h0 : Heap) (n0 : Nat) (v : Option Value) (h : Heap) (L : List Loc) : Prop := (∃ (t : Addr) (kb : ClassId), v = some (.ref t) ∧ Fr n0 L ∧ Keep h0 h [] ∧ h0.size ≤ t ∧ Arv Z h t kb .byte (4 : Int32) [(.int (jj0.toInt8.toInt32)), (.int (jj1.toInt8.toInt32)), (.int (jj2.toInt8.toInt32)), (.int (jj3.toInt8.toInt32))] (.int (0 : Int32)) ∧ ¬ ((255 : Int32) < jj0) ∧ ¬ ((255 : Int32) < jj1) ∧ ¬ ((255 : Int32) < jj2) ∧ ¬ ((255 : Int32) < jj3)) ∨ (∃ (t : Addr) (kb : ClassId), v = some (.ref t) ∧ Fr n0 L ∧ Keep h0 h [] ∧ h0.size ≤ t ∧ Arv Z h t kb .byte (8 : Int32) [(.int ((jj0 >>> ((0 : Int32) &&& 31)).toInt8.toInt32)), (.int ((jj0 >>> ((8 : Int32) &&& 31)).toInt8.toInt32)), (.int ((jj1 >>> ((0 : Int32) &&& 31)).toInt8.toInt32)), (.int ((jj1 >>> ((8 : Int32) &&& 31)).toInt8.toInt32)), (.int ((jj2 >>> ((0 : Int32) &&& 31)).toInt8.toInt32)), (.int ((jj2 >>> ((8 : Int32) &&& 31)).toInt8.toInt32)), (.int ((jj3 >>> ((0 : Int32) &&& 31)).toInt8.toInt32)), (.int ((jj3 >>> ((8 : Int32) &&& 31)).toInt8.toInt32))] (.int (0 : Int32)) ∧ ((255 : Int32) < jj0 ∨ (255 : Int32) < jj1 ∨ (255 : Int32) < jj2 ∨ (255 : Int32) < jj3))
theorem rm_m8_73 (l : Launch) (Z : State) (aZ : Array Value) (hw : ∀ d ∈ tables_1, d.before aZ Z = true) (ws : List Jvm.Cond) (a0 : Addr) (k_a0 : ClassId) (jj0 : Int32) (jj1 : Int32) (jj2 : Int32) (jj3 : Int32) (h0 : Heap) (n0 : Nat) (Z0 : n0 ≤ h0.size) (V_a0 : Arv Z h0 a0 k_a0 .char (4 : Int32) [(.int jj0), (.int jj1), (.int jj2), (.int jj3)] (.int (0 : Int32))) (zz4 : Sta Z Z.heap kc1 "$assertionsDisabled" "Z" (.int (1 : Int32))) (O0 : Old Z n0 h0) (zz5 : Sta Z Z.heap kc1 "HI_BYTE_SHIFT" "I" (.int (0 : Int32))) (zz6 : Sta Z Z.heap kc1 "LO_BYTE_SHIFT" "I" (.int (8 : Int32))) (zz7 : nar .char jj0 = jj0) (zz8 : nar .char jj1 = jj1) (zz9 : nar .char jj2 = jj2) (zz10 : nar .char jj3 = jj3) :
    MetN l Z yn_8 jdk_52_method_16_code 6 (some (.array .byte)) ws ({ frames := 3, cells := 2, slots := 12, locals := 40 } : Room) #[(.ref a0), (.int (0 : Int32)), (.int (4 : Int32))] h0 (Q_m8_73 Z a0 k_a0 jj0 jj1 jj2 jj3 h0 n0) := by
 refine MetN.of (plainFor_of_name pn_4) ?_
 intro p e s m below meth c s₁ hret hx hby hml hown hnm hlk hZ X0 e0
 have N0 := Fr.nil n0
 rw [ef_m8_73 m a0]
 refine w_iloadN X0 hx (d8_0 hby) rfl (pc' := 1) rfl ?_
 refine w_newP X0 hx .byte .byte 4 rfl hZ (wd_21 hw) e0 (d8_1 hby) (by decide) (by decide) (by decide) (by decide) (by decide) (pc' := 3) rfl ?_
 intro T20 h20 k20 b20 X20 e20 E20 g20 A20
 have ge21 : n0 ≤ b20 := Nat.le_trans Z0 (Nat.le_of_eq g20.symm)
 have sz22 : h0.size ≤ b20 := Nat.le_trans (Nat.le_refl _) (Nat.le_of_eq g20.symm)
 have K23 : Keep h0 h20 [] := (Keep.refl h0 []).ext E20
 have V24 : Arv Z h20 b20 k20 .byte (4 : Int32) [(.int (0 : Int32)), (.int (0 : Int32)), (.int (0 : Int32)), (.int (0 : Int32))] (.int (0 : Int32)) := (Arv.new A20 (by decide)).pad (pad_rep [] (.int (0 : Int32)) 4)
 refine w_astoreN X20 hx (d8_3 hby) rfl (L' := #[.val (.ref a0), .val (.int (0 : Int32)), .val (.int (4 : Int32)), .val (.ref b20), .unset, .unset]) rfl (pc' := 4) rfl ?_
 refine w_aloadN X20 hx (d8_4 hby) rfl rfl (pc' := 5) rfl ?_
 refine w_iloadN X20 hx (d8_5 hby) rfl (pc' := 6) rfl ?_
 refine w_aloadN X20 hx (d8_6 hby) rfl rfl (pc' := 7) rfl ?_
 refine w_iconst X20 hx (d8_7 hby) (v := (0 : Int32)) rfl (pc' := 8) rfl ?_
 refine w_iloadN X20 hx (d8_8 hby) rfl (pc' := 9) rfl ?_
 have f25 : Arv Z h20 a0 k_a0 .char (4 : Int32) [(.int jj0), (.int jj1), (.int jj2), (.int jj3)] (.int (0 : Int32)) := (V_a0.ext E20)
 have ne26 : a0 ≠ b20 := (Nat.ne_of_lt (Nat.lt_of_lt_of_le V_a0.lt (Nat.le_trans (Nat.le_refl _) (Nat.le_of_eq g20.symm))))
 refine w_static X20 hx (y := yn_9) hown (mvT hZ (wd_49 hw)) (mvT hZ (wd_50 hw)) (mvT hZ (wd_47 hw)) (mvT hZ (wd_51 hw)) (by decide) (backOf (W := 0) (rm_m9_74 l Z aZ hw [] a0 b20 k_a0 jj0 jj1 jj2 jj3 k20 h20 n0 (Nat.le_trans Z0 E20.1) f25 V24 ge21 ne26) hZ (wd_51 hw) (wd_47 hw) (by decide) (by decide)) (by rw [hml]; rfl) [(.ref a0), (.int (0 : Int32)), (.ref b20), (.int (0 : Int32)), (.int (4 : Int32))] (lenOf pd_6 rfl) rfl (Nat.le_of_eq rfl) (d8_9 hby) (fun _ _ => ⟨rfl, e20, (by decide : 1 + 0 ≤ _), (by decide : 4 + 0 ≤ _)⟩) (pc' := 12) rfl ?_
 rintro _ _ ⟨T27, L27, k27, n27⟩ X27 ⟨Lc27, hQ27, l27, y27, z27⟩
 dsimp only [Pt.U, Pt.locs, Pt.cells, Pt.slots] at X27 l27 y27 z27 hQ27 ⊢
 subst l27 y27 z27
 rcases hQ27 with ⟨rfl, N27q, K27, g27_0, g27_1, g27_2, g27_3, g27_4⟩ | ⟨j_27, rfl, N27q, K27, g27_0, g27_1, g27_2⟩
 · have N28 := Fr.app N0 N27q
   have K29 : Keep h0 T27.heap [] := K23.trans K27 (allS (Or.inr sz22) (all0 (P := fun x => x ∈ [] ∨ h0.size ≤ x)))
   show Runs _ _ _ _ (T27.setTop (mkF m 12 #[.val (.ref a0), .val (.int (0 : Int32)), .val (.int (4 : Int32)), .val (.ref b20), .unset, .unset] [(.int (4 : Int32))]))
   refine w_istore X27 hx (d8_12 hby) (L' := #[.val (.ref a0), .val (.int (0 : Int32)), .val (.int (4 : Int32)), .val (.ref b20), .val (.int (4 : Int32)), .unset]) rfl (pc' := 14) rfl ?_
   refine w_iload X27 hx (d8_14 hby) rfl (pc' := 16) rfl ?_
   refine w_iloadN X27 hx (d8_16 hby) rfl (pc' := 17) rfl ?_
   refine w_icY X27 hx (d8_17 hby) (teq (by decide : (4 : Int32) = (4 : Int32))).1 (pc' := 57) (by decide) (by decide) ?_
   refine w_aloadN X27 hx (d8_57 hby) rfl rfl (pc' := 58) rfl ?_
   exact w_done X27 hlk (v := some (.ref b20)) rfl (fun h => by rw [hret] at h; cases h) (fun fs hr => retOut X27 hx hret rfl (Or.inr (Or.inr (Or.inr (Or.inr ⟨rfl, rfl, rfl⟩)))) (d8_58 hby) hr) (by decide) (by decide) (Or.inl ⟨b20, k20, rfl, N28, K29, sz22, g27_0, g27_1, g27_2, g27_3, g27_4⟩)
 · have N30 := Fr.app N0 N27q
   have K31 : Keep h0 T27.heap [] := K23.trans K27 (allS (Or.inr sz22) (all0 (P := fun x => x ∈ [] ∨ h0.size ≤ x)))
   show Runs _ _ _ _ (T27.setTop (mkF m 12 #[.val (.ref a0), .val (.int (0 : Int32)), .val (.int (4 : Int32)), .val (.ref b20), .unset, .unset] [(.int j_27)]))
   refine w_istore X27 hx (d8_12 hby) (L' := #[.val (.ref a0), .val (.int (0 : Int32)), .val (.int (4 : Int32)), .val (.ref b20), .val (.int j_27), .unset]) rfl (pc' := 14) rfl ?_
   refine w_iload X27 hx (d8_14 hby) rfl (pc' := 16) rfl ?_
   refine w_iloadN X27 hx (d8_16 hby) rfl (pc' := 17) rfl ?_
   refine w_icN X27 hx (d8_17 hby) (feq (fun q => by have h9 := g27_1; rw [q] at h9; exact absurd h9 (by decide))).1 (pc' := 20) rfl ?_
   refine w_aloadN X27 hx (d8_20 hby) rfl rfl (pc' := 21) rfl ?_
   refine w_iloadN X27 hx (d8_21 hby) rfl (pc' := 22) rfl ?_
   refine w_iloadN X27 hx (d8_22 hby) rfl (pc' := 23) rfl ?_
   have f32 : Arv Z T27.heap a0 k_a0 .char (4 : Int32) [(.int jj0), (.int jj1), (.int jj2), (.int jj3)] (.int (0 : Int32)) := (f25.keep K27 (ninS ne26 nin0))
   have f33 : Old Z n0 T27.heap := ((O0.ext E20).keep K27 (allS ge21 all0))
   have le34 : h0.size ≤ T27.heap.size := (Nat.le_trans E20.1 K27.1)
   refine w_static X27 hx (y := yn_11) hown (mvT hZ (wd_55 hw)) (mvT hZ (wd_56 hw)) (mvT hZ (wd_47 hw)) (mvT hZ (wd_57 hw)) (by decide) (backOf (W := 0) (rm_m11_75 l Z aZ hw [] a0 k_a0 jj0 jj1 jj2 jj3 T27.heap n0 (Nat.le_trans Z0 le34) f32 zz4 f33 zz5 zz6) hZ (wd_57 hw) (wd_47 hw) (by decide) (by decide)) (by rw [hml]; rfl) [(.ref a0), (.int (0 : Int32)), (.int (4 : Int32))] (lenOf pd_10 rfl) rfl (Nat.le_of_eq rfl) (d8_23 hby) (fun _ _ => ⟨rfl, rfl, (by decide : 1 + 1 ≤ _), (by decide : 4 + 8 ≤ _)⟩) (pc' := 26) rfl ?_
   rintro _ _ ⟨T35, L35, k35, n35⟩ X35 ⟨Lc35, hQ35, l35, y35, z35⟩
   dsimp only [Pt.U, Pt.locs, Pt.cells, Pt.slots] at X35 l35 y35 z35 hQ35 ⊢
   subst l35 y35 z35
   obtain ⟨r0_35, c0_35, rfl, N35q, K35, g35_0, g35_1⟩ := hQ35
   have N36 := Fr.app N30 N35q
   have K37 : Keep h0 T35.heap [] := K31.trans K35 (all0 (P := fun x => x ∈ [] ∨ h0.size ≤ x))
   have ge38 : n0 ≤ r0_35 := Nat.le_trans (Nat.le_trans Z0 le34) g35_0
   have sz39 : h0.size ≤ r0_35 := Nat.le_trans le34 g35_0
   show Runs _ _ _ _ (T35.setTop (mkF m 26 #[.val (.ref a0), .val (.int (0 : Int32)), .val (.int (4 : Int32)), .val (.ref b20), .val (.int j_27), .unset] [(.ref r0_35)]))
   refine w_astore X35 hx (d8_26 hby) rfl (L' := #[.val (.ref a0), .val (.int (0 : Int32)), .val (.int (4 : Int32)), .val (.ref b20), .val (.int j_27), .val (.ref r0_35)]) rfl (pc' := 28) rfl ?_
   refine w_aload X35 hx (d8_28 hby) rfl rfl (pc' := 30) rfl ?_
   refine w_iload X35 hx (d8_30 hby) rfl (pc' := 32) rfl ?_
   have f43 : Old Z n0 T35.heap := (f33.keep K35 all0)
   have le44 : h0.size ≤ T35.heap.size := (Nat.le_trans le34 K35.1)
   refine w_static X35 hx (y := yn_15) hown (mvT hZ (wd_71 hw)) (mvT hZ (wd_72 hw)) (mvT hZ (wd_47 hw)) (mvT hZ (wd_73 hw)) (by decide) (backOf (W := 0) (rm_m15_82 l Z aZ hw [] r0_35 j_27 c0_35 ((jj0 >>> ((0 : Int32) &&& 31)).toInt8.toInt32) ((jj0 >>> ((8 : Int32) &&& 31)).toInt8.toInt32) ((jj1 >>> ((0 : Int32) &&& 31)).toInt8.toInt32) ((jj1 >>> ((8 : Int32) &&& 31)).toInt8.toInt32) ((jj2 >>> ((0 : Int32) &&& 31)).toInt8.toInt32) ((jj2 >>> ((8 : Int32) &&& 31)).toInt8.toInt32) ((jj3 >>> ((0 : Int32) &&& 31)).toInt8.toInt32) ((jj3 >>> ((8 : Int32) &&& 31)).toInt8.toInt32) T35.heap n0 (Nat.le_trans Z0 le44) zz4 f43 g35_1 g27_0 g27_1 zz5 zz6) hZ (wd_73 hw) (wd_47 hw) (by decide) (by decide)) (by rw [hml]; rfl) [(.ref r0_35), (.int j_27)] (lenOf pd_11 rfl) rfl (Nat.le_of_eq rfl) (d8_32 hby) (fun _ _ => ⟨rfl, rfl, (by decide : 2 + 0 ≤ _), (by decide : 12 + 0 ≤ _)⟩) (pc' := 35) rfl ?_
   rintro _ _ ⟨T45, L45, k45, n45⟩ X45 ⟨Lc45, hQ45, l45, y45, z45⟩
   dsimp only [Pt.U, Pt.locs, Pt.cells, Pt.slots] at X45 l45 y45 z45 hQ45 ⊢
   subst l45 y45 z45
   obtain ⟨rfl, N45q, e45⟩ := hQ45
   have N46 := Fr.app N36 N45q
   show Runs _ _ _ _ (T45.setTop (mkF m 35 #[.val (.ref a0), .val (.int (0 : Int32)), .val (.int (4 : Int32)), .val (.ref b20), .val (.int j_27), .val (.ref r0_35)] [(.int (((((gI [((jj0 >>> ((0 : Int32) &&& 31)).toInt8.toInt32), ((jj0 >>> ((8 : Int32) &&& 31)).toInt8.toInt32), ((jj1 >>> ((0 : Int32) &&& 31)).toInt8.toInt32), ((jj1 >>> ((8 : Int32) &&& 31)).toInt8.toInt32), ((jj2 >>> ((0 : Int32) &&& 31)).toInt8.toInt32), ((jj2 >>> ((8 : Int32) &&& 31)).toInt8.toInt32), ((jj3 >>> ((0 : Int32) &&& 31)).toInt8.toInt32), ((jj3 >>> ((8 : Int32) &&& 31)).toInt8.toInt32)] (j_27 <<< ((1 : Int32) &&& 31))) &&& (255 : Int32)) <<< ((0 : Int32) &&& 31)) ||| (((gI [((jj0 >>> ((0 : Int32) &&& 31)).toInt8.toInt32), ((jj0 >>> ((8 : Int32) &&& 31)).toInt8.toInt32), ((jj1 >>> ((0 : Int32) &&& 31)).toInt8.toInt32), ((jj1 >>> ((8 : Int32) &&& 31)).toInt8.toInt32), ((jj2 >>> ((0 : Int32) &&& 31)).toInt8.toInt32), ((jj2 >>> ((8 : Int32) &&& 31)).toInt8.toInt32), ((jj3 >>> ((0 : Int32) &&& 31)).toInt8.toInt32), ((jj3 >>> ((8 : Int32) &&& 31)).toInt8.toInt32)] ((j_27 <<< ((1 : Int32) &&& 31)) + (1 : Int32))) &&& (255 : Int32)) <<< ((8 : Int32) &&& 31))).toUInt32.toUInt16.toUInt32.toInt32))]))
   refine w_sipush X45 hx (d8_35 hby) (v := (255 : Int32)) rfl (pc' := 38) rfl ?_
   refine w_icY X45 hx (d8_38 hby) (tlt (show (255 : Int32) < (((((gI [((jj0 >>> ((0 : Int32) &&& 31)).toInt8.toInt32), ((jj0 >>> ((8 : Int32) &&& 31)).toInt8.toInt32), ((jj1 >>> ((0 : Int32) &&& 31)).toInt8.toInt32), ((jj1 >>> ((8 : Int32) &&& 31)).toInt8.toInt32), ((jj2 >>> ((0 : Int32) &&& 31)).toInt8.toInt32), ((jj2 >>> ((8 : Int32) &&& 31)).toInt8.toInt32), ((jj3 >>> ((0 : Int32) &&& 31)).toInt8.toInt32), ((jj3 >>> ((8 : Int32) &&& 31)).toInt8.toInt32)] (j_27 <<< ((1 : Int32) &&& 31))) &&& (255 : Int32)) <<< ((0 : Int32) &&& 31)) ||| (((gI [((jj0 >>> ((0 : Int32) &&& 31)).toInt8.toInt32), ((jj0 >>> ((8 : Int32) &&& 31)).toInt8.toInt32), ((jj1 >>> ((0 : Int32) &&& 31)).toInt8.toInt32), ((jj1 >>> ((8 : Int32) &&& 31)).toInt8.toInt32), ((jj2 >>> ((0 : Int32) &&& 31)).toInt8.toInt32), ((jj2 >>> ((8 : Int32) &&& 31)).toInt8.toInt32), ((jj3 >>> ((0 : Int32) &&& 31)).toInt8.toInt32), ((jj3 >>> ((8 : Int32) &&& 31)).toInt8.toInt32)] ((j_27 <<< ((1 : Int32) &&& 31)) + (1 : Int32))) &&& (255 : Int32)) <<< ((8 : Int32) &&& 31))).toUInt32.toUInt16.toUInt32.toInt32) from by rw [own_uj4 g27_0 g27_1 zz7 zz8 zz9 zz10]; exact g27_2)).2.2.1 (pc' := 54) (by decide) (by decide) ?_
   refine w_aload X45 hx (d8_54 hby) rfl rfl (pc' := 56) rfl ?_
   exact w_done X45 hlk (v := some (.ref r0_35)) e45 (fun h => by rw [hret] at h; cases h) (fun fs hr => retOut X45 hx hret rfl (Or.inr (Or.inr (Or.inr (Or.inr ⟨rfl, rfl, rfl⟩)))) (d8_56 hby) hr) (by decide) (by decide) (Or.inr (⟨r0_35, c0_35, rfl, N46, K37, sz39, g35_1, (own_or4 g27_0 g27_1 g27_2)⟩))
theorem ef_m10_83 (m : MethodId) (a0 : Addr)  : entryFrame m #[(.ref a0), (.int (4 : Int32))] 2 = mkF m 0 #[.val (.ref a0), .val (.int (4 : Int32))] [] := by first | (simp [entryFrame, mkF, argsToLocals, Value.category]; done) | rfl
def Q_m10_83 (Z : State) (a0 : Addr) (k_a0 : ClassId) (jj0 : Int32) (jj1 : Int32) (jj2 : Int32) (jj3 : Int32) (h0 : Heap) (n0 : Nat) (v : Option Value) (h : Heap) (L : List Loc) : Prop := v = some (.int (0 : Int32)) ∧ Fr n0 L ∧ h = h0
theorem rm_m10_83 (l : Launch) (Z : State) (aZ : Array Value) (hw : ∀ d ∈ tables_1, d.before aZ Z = true) (ws : List Jvm.Cond) (a0 : Addr) (k_a0 : ClassId) (jj0 : Int32) (jj1 : Int32) (jj2 : Int32) (jj3 : Int32) (h0 : Heap) (n0 : Nat) (Z0 : n0 ≤ h0.size) (V_a0 : Arv Z h0 a0 k_a0 .byte (4 : Int32) [(.int jj0), (.int jj1), (.int jj2), (.int jj3)] (.int (0 : Int32))) :
    MetN l Z yn_10 jdk_52_method_15_code 2 (some .byte) ws ({ frames := 0, cells := 0, slots := 0, locals := 0 } : Room) #[(.ref a0), (.int (4 : Int32))] h0 (Q_m10_83 Z a0 k_a0 jj0 jj1 jj2 jj3 h0 n0) := by
 refine MetN.of (plainFor_of_name pn_4) ?_
 intro p e s m below meth c s₁ hret hx hby hml hown hnm hlk hZ X0 e0
 have N0 := Fr.nil n0
 rw [ef_m10_83 m a0]
 refine w_iloadN X0 hx (d10_0 hby) rfl (pc' := 1) rfl ?_
 refine w_aloadN X0 hx (d10_1 hby) rfl rfl (pc' := 2) rfl ?_
 refine w_alen X0 hx hZ e0 V_a0 (d10_2 hby) (pc' := 3) rfl ?_
 refine w_isub X0 hx (d10_3 hby) (pc' := 4) rfl ?_
 rw [show ((4 : Int32) - (4 : Int32)) = (0 : Int32) from by decide]
 refine w_bipush X0 hx (d10_4 hby) (v := (31 : Int32)) rfl (pc' := 6) rfl ?_
 refine w_iushr X0 hx (d10_6 hby) (pc' := 7) rfl ?_
 rw [show (((0 : Int32).toUInt32 >>> ((31 : Int32) &&& 31).toUInt32).toInt32) = (0 : Int32) from by decide]
 refine w_i2b X0 hx (d10_7 hby) (pc' := 8) rfl ?_
 rw [show ((0 : Int32).toInt8.toInt32) = (0 : Int32) from by decide]
 exact w_done X0 hlk (v := some (.int (0 : Int32))) e0 (fun h => by rw [hret] at h; cases h) (fun fs hr => retN X0 hx (t := .byte) hret (by simp) (d10_8 hby) hr) (by decide) (by decide) (⟨rfl, N0, rfl⟩)
theorem ef_m10_84 (m : MethodId) (a0 : Addr)  : entryFrame m #[(.ref a0), (.int (4 : Int32))] 2 = mkF m 0 #[.val (.ref a0), .val (.int (4 : Int32))] [] := by first | (simp [entryFrame, mkF, argsToLocals, Value.category]; done) | rfl
def Q_m10_84 (Z : State) (a0 : Addr) (k_a0 : ClassId) (jj0 : Int32) (jj1 : Int32) (jj2 : Int32) (jj3 : Int32) (jj4 : Int32) (jj5 : Int32) (jj6 : Int32) (jj7 : Int32) (h0 : Heap) (n0 : Nat) (v : Option Value) (h : Heap) (L : List Loc) : Prop := v = some (.int (1 : Int32)) ∧ Fr n0 L ∧ h = h0
theorem rm_m10_84 (l : Launch) (Z : State) (aZ : Array Value) (hw : ∀ d ∈ tables_1, d.before aZ Z = true) (ws : List Jvm.Cond) (a0 : Addr) (k_a0 : ClassId) (jj0 : Int32) (jj1 : Int32) (jj2 : Int32) (jj3 : Int32) (jj4 : Int32) (jj5 : Int32) (jj6 : Int32) (jj7 : Int32) (h0 : Heap) (n0 : Nat) (Z0 : n0 ≤ h0.size) (V_a0 : Arv Z h0 a0 k_a0 .byte (8 : Int32) [(.int jj0), (.int jj1), (.int jj2), (.int jj3), (.int jj4), (.int jj5), (.int jj6), (.int jj7)] (.int (0 : Int32))) :
    MetN l Z yn_10 jdk_52_method_15_code 2 (some .byte) ws ({ frames := 0, cells := 0, slots := 0, locals := 0 } : Room) #[(.ref a0), (.int (4 : Int32))] h0 (Q_m10_84 Z a0 k_a0 jj0 jj1 jj2 jj3 jj4 jj5 jj6 jj7 h0 n0) := by
 refine MetN.of (plainFor_of_name pn_4) ?_
 intro p e s m below meth c s₁ hret hx hby hml hown hnm hlk hZ X0 e0
 have N0 := Fr.nil n0
 rw [ef_m10_84 m a0]
 refine w_iloadN X0 hx (d10_0 hby) rfl (pc' := 1) rfl ?_
 refine w_aloadN X0 hx (d10_1 hby) rfl rfl (pc' := 2) rfl ?_
 refine w_alen X0 hx hZ e0 V_a0 (d10_2 hby) (pc' := 3) rfl ?_
 refine w_isub X0 hx (d10_3 hby) (pc' := 4) rfl ?_
 rw [show ((4 : Int32) - (8 : Int32)) = (-4 : Int32) from by decide]
 refine w_bipush X0 hx (d10_4 hby) (v := (31 : Int32)) rfl (pc' := 6) rfl ?_
 refine w_iushr X0 hx (d10_6 hby) (pc' := 7) rfl ?_
 rw [show (((-4 : Int32).toUInt32 >>> ((31 : Int32) &&& 31).toUInt32).toInt32) = (1 : Int32) from by decide]
 refine w_i2b X0 hx (d10_7 hby) (pc' := 8) rfl ?_
 rw [show ((1 : Int32).toInt8.toInt32) = (1 : Int32) from by decide]
 exact w_done X0 hlk (v := some (.int (1 : Int32))) e0 (fun h => by rw [hret] at h; cases h) (fun fs hr => retN X0 hx (t := .byte) hret (by simp) (d10_8 hby) hr) (by decide) (by decide) (⟨rfl, N0, rfl⟩)
theorem ef_m3_72 (m : MethodId) (a0 : Addr) (a1 : Addr)  : entryFrame m #[(.ref a0), (.ref a1), (.int (0 : Int32)), (.int (4 : Int32)), .null] 6 = mkF m 0 #[.val (.ref a0), .val (.ref a1), .val (.int (0 : Int32)), .val (.int (4 : Int32)), .val .null, .unset] [] := by first | (simp [entryFrame, mkF, argsToLocals, Value.category]; done) | rfl
def Q_m3_72 (Z : State) (a0 : Addr) (a1 : Addr) (jj0 : Int32) (k_a1 : ClassId) (jj1 : Int32) (jj2 : Int32) (jj3 : Int32) (jj4 : Int32) (h0 : Heap) (n0 : Nat) (v : Option Value) (h : Heap) (L : List Loc) : Prop := (∃ (t : Addr) (kb : ClassId), v = none ∧ Fr n0 L ∧ Keep h0 h [a0] ∧ Exa Z h a0 kc0 ∧ Fld Z h a0 kc0 "coder" "B" (.int (0 : Int32)) ∧ Fld Z h a0 kc0 "value" "[B" (.ref t) ∧ h0.size ≤ t ∧ Arv Z h t kb .byte (4 : Int32) [(.int (jj1.toInt8.toInt32)), (.int (jj2.toInt8.toInt32)), (.int (jj3.toInt8.toInt32)), (.int (jj4.toInt8.toInt32))] (.int (0 : Int32)) ∧ ¬ ((255 : Int32) < jj1) ∧ ¬ ((255 : Int32) < jj2) ∧ ¬ ((255 : Int32) < jj3) ∧ ¬ ((255 : Int32) < jj4)) ∨ (∃ (t : Addr) (kb : ClassId), v = none ∧ Fr n0 L ∧ Keep h0 h [a0] ∧ Exa Z h a0 kc0 ∧ Fld Z h a0 kc0 "coder" "B" (.int (1 : Int32)) ∧ Fld Z h a0 kc0 "value" "[B" (.ref t) ∧ h0.size ≤ t ∧ Arv Z h t kb .byte (8 : Int32) [(.int ((jj1 >>> ((0 : Int32) &&& 31)).toInt8.toInt32)), (.int ((jj1 >>> ((8 : Int32) &&& 31)).toInt8.toInt32)), (.int ((jj2 >>> ((0 : Int32) &&& 31)).toInt8.toInt32)), (.int ((jj2 >>> ((8 : Int32) &&& 31)).toInt8.toInt32)), (.int ((jj3 >>> ((0 : Int32) &&& 31)).toInt8.toInt32)), (.int ((jj3 >>> ((8 : Int32) &&& 31)).toInt8.toInt32)), (.int ((jj4 >>> ((0 : Int32) &&& 31)).toInt8.toInt32)), (.int ((jj4 >>> ((8 : Int32) &&& 31)).toInt8.toInt32))] (.int (0 : Int32)) ∧ ((255 : Int32) < jj1 ∨ (255 : Int32) < jj2 ∨ (255 : Int32) < jj3 ∨ (255 : Int32) < jj4))
theorem rm_m3_72 (l : Launch) (Z : State) (aZ : Array Value) (hw : ∀ d ∈ tables_1, d.before aZ Z = true) (ws : List Jvm.Cond) (a0 : Addr) (a1 : Addr) (jj0 : Int32) (k_a1 : ClassId) (jj1 : Int32) (jj2 : Int32) (jj3 : Int32) (jj4 : Int32) (h0 : Heap) (n0 : Nat) (Z0 : n0 ≤ h0.size) (zz5 : Sta Z Z.heap kc0 "COMPACT_STRINGS" "Z" (.int jj0)) (O0 : Old Z n0 h0) (hP_2 : ¬ (jj0 = (0 : Int32))) (V_a1 : Arv Z h0 a1 k_a1 .char (4 : Int32) [(.int jj1), (.int jj2), (.int jj3), (.int jj4)] (.int (0 : Int32))) (zz6 : nar .char jj1 = jj1) (zz7 : nar .char jj2 = jj2) (zz8 : nar .char jj3 = jj3) (zz9 : nar .char jj4 = jj4) (zz10 : Sta Z Z.heap kc1 "$assertionsDisabled" "Z" (.int (1 : Int32))) (zz11 : Sta Z Z.heap kc1 "HI_BYTE_SHIFT" "I" (.int (0 : Int32))) (zz12 : Sta Z Z.heap kc1 "LO_BYTE_SHIFT" "I" (.int (8 : Int32))) (E_a0 : Exa Z h0 a0 kc0) (zz13 : Fld Z h0 a0 kc0 "coder" "B" (.int (0 : Int32))) (zz14 : n0 ≤ a0) (zz15 : Fld Z h0 a0 kc0 "value" "[B" .null) :
    MetN l Z yn_3 jdk_42_method_149_code 6 none ws ({ frames := 4, cells := 2, slots := 12, locals := 57 } : Room) #[(.ref a0), (.ref a1), (.int (0 : Int32)), (.int (4 : Int32)), .null] h0 (Q_m3_72 Z a0 a1 jj0 k_a1 jj1 jj2 jj3 jj4 h0 n0) := by
 refine MetN.of (plainFor_of_name pn_1) ?_
 intro p e s m below meth c s₁ hret hx hby hml hown hnm hlk hZ X0 e0
 have N0 := Fr.nil n0
 rw [ef_m3_72 m a0 a1]
 refine w_aloadN X0 hx (d3_0 hby) rfl rfl (pc' := 1) rfl ?_
 refine w_initO X0 hx 0 hZ hown (wd_17 hw) (wd_18 hw) (wd_19 hw) e0 (by rw [hml]; rfl) (d3_1 hby) (by decide) (Nat.le_of_eq rfl) (by decide) (pc' := 4) rfl ?_
 intro T20 X20 e20
 refine w_iloadN X20 hx (d3_4 hby) rfl (pc' := 5) rfl ?_
 refine w_ifY X20 hx (d3_5 hby) (feq (by decide : ¬ ((4 : Int32) = (0 : Int32)))).2 (pc' := 27) (by decide) (by decide) ?_
 refine w_getS X20 hx "" hZ hown (Or.inl (wd_39 hw)) Via.refl e20 (zz5.ext O0.2) (d3_27 hby) (pc' := 30) rfl ?_
 intro T21 X21 e21
 refine w_ifN X21 hx (d3_30 hby) (feq hP_2).1 (pc' := 33) rfl ?_
 refine w_aloadN X21 hx (d3_33 hby) rfl rfl (pc' := 34) rfl ?_
 refine w_iloadN X21 hx (d3_34 hby) rfl (pc' := 35) rfl ?_
 refine w_iloadN X21 hx (d3_35 hby) rfl (pc' := 36) rfl ?_
 refine w_static X21 hx (y := yn_8) hown (mvT hZ (wd_45 hw)) (mvT hZ (wd_46 hw)) (mvT hZ (wd_47 hw)) (mvT hZ (wd_48 hw)) (by decide) (backOf (W := 0) (rm_m8_73 l Z aZ hw [] a1 k_a1 jj1 jj2 jj3 jj4 h0 n0 Z0 V_a1 zz10 O0 zz11 zz12 zz6 zz7 zz8 zz9) hZ (wd_48 hw) (wd_47 hw) (by decide) (by decide)) (by rw [hml]; rfl) [(.ref a1), (.int (0 : Int32)), (.int (4 : Int32))] (lenOf pd_10 rfl) rfl (Nat.le_of_eq rfl) (d3_36 hby) (fun _ _ => ⟨rfl, e21, (by decide : 0 + 2 ≤ _), (by decide : 0 + 12 ≤ _)⟩) (pc' := 39) rfl ?_
 rintro _ _ ⟨T22, L22, k22, n22⟩ X22 ⟨Lc22, hQ22, l22, y22, z22⟩
 dsimp only [Pt.U, Pt.locs, Pt.cells, Pt.slots] at X22 l22 y22 z22 hQ22 ⊢
 subst l22 y22 z22
 rcases hQ22 with ⟨t_22, kb_22, rfl, N22q, K22, g22_0, g22_1, g22_2, g22_3, g22_4, g22_5⟩ | ⟨t_22, kb_22, rfl, N22q, K22, g22_0, g22_1, g22_2⟩
 · have N23 := Fr.app N0 N22q
   have K24 : Keep h0 T22.heap [a0] := (Keep.refl h0 [a0]).trans K22 (all0 (P := fun x => x ∈ [a0] ∨ h0.size ≤ x))
   have ge25 : n0 ≤ t_22 := Nat.le_trans Z0 g22_0
   have sz26 : h0.size ≤ t_22 := Nat.le_trans (Nat.le_refl _) g22_0
   show Runs _ _ _ _ (T22.setTop (mkF m 39 #[.val (.ref a0), .val (.ref a1), .val (.int (0 : Int32)), .val (.int (4 : Int32)), .val .null, .unset] [(.ref t_22)]))
   refine w_astore X22 hx (d3_39 hby) rfl (L' := #[.val (.ref a0), .val (.ref a1), .val (.int (0 : Int32)), .val (.int (4 : Int32)), .val .null, .val (.ref t_22)]) rfl (pc' := 41) rfl ?_
   refine w_aloadN X22 hx (d3_41 hby) rfl rfl (pc' := 42) rfl ?_
   refine w_aload X22 hx (d3_42 hby) rfl rfl (pc' := 44) rfl ?_
   refine w_iloadN X22 hx (d3_44 hby) rfl (pc' := 45) rfl ?_
   refine w_static X22 hx (y := yn_10) hown (mvT hZ (wd_52 hw)) (mvT hZ (wd_53 hw)) (mvT hZ (wd_47 hw)) (mvT hZ (wd_54 hw)) (by decide) (backOf (W := 1) (rm_m10_83 l Z aZ hw [] t_22 kb_22 (jj1.toInt8.toInt32) (jj2.toInt8.toInt32) (jj3.toInt8.toInt32) (jj4.toInt8.toInt32) T22.heap n0 (Nat.le_trans Z0 K22.1) g22_1) hZ (wd_54 hw) (wd_47 hw) (by decide) (by decide)) (by rw [hml]; rfl) [(.ref t_22), (.int (4 : Int32))] (lenOf pd_12 rfl) rfl (Nat.le_of_eq rfl) (d3_45 hby) (fun _ _ => ⟨rfl, rfl, (by decide : 2 + 0 ≤ _), (by decide : 12 + 0 ≤ _)⟩) (pc' := 48) rfl ?_
   rintro _ _ ⟨T27, L27, k27, n27⟩ X27 ⟨Lc27, hQ27, l27, y27, z27⟩
   dsimp only [Pt.U, Pt.locs, Pt.cells, Pt.slots] at X27 l27 y27 z27 hQ27 ⊢
   subst l27 y27 z27
   obtain ⟨rfl, N27q, e27⟩ := hQ27
   have N28 := Fr.app N23 N27q
   show Runs _ _ _ _ (T27.setTop (mkF m 48 #[.val (.ref a0), .val (.ref a1), .val (.int (0 : Int32)), .val (.int (4 : Int32)), .val .null, .val (.ref t_22)] [(.int (0 : Int32)), (.ref a0)]))
   have f29 : Exa Z T22.heap a0 kc0 := (E_a0.keep K22)
   have f30 : Fld Z T22.heap a0 kc0 "coder" "B" (.int (0 : Int32)) := (zz13.keep K22 nin0)
   refine w_putF X27 hx "" hZ hown (Or.inl (wd_27 hw)) Via.refl e27 f30 f29 (Or.inr ⟨(wd_23 hw), rfl, hnm⟩) (wd_8 hw) (ty := .byte) (by decide) rfl rfl (d3_48 hby) (pc' := 51) rfl ?_
   intro T31 h31 X31 e31 W31
   have f32 : Fld Z h31 a0 kc0 "coder" "B" (.int (0 : Int32)) := f30.same W31
   have K33 : Keep h0 h31 [a0] := K24.wr W31 (Or.inl (by simp))
   have N34 := Fr.snoc X31 N28 zz14
   refine w_aloadN X31 hx (d3_51 hby) rfl rfl (pc' := 52) rfl ?_
   refine w_aload X31 hx (d3_52 hby) rfl rfl (pc' := 54) rfl ?_
   have f35 : Exa Z h31 a0 kc0 := (f29.wr W31)
   have f36 : Fld Z h31 a0 kc0 "value" "[B" .null := ((zz15.keep K22 nin0).other W31 (Or.inr (slot_ne (Or.inr (wd_22 hw)) (Or.inr (wd_23 hw)) (by decide) (t := (.array .byte)) (t' := .byte) (by decide) (by decide))))
   refine w_putF X31 hx "" hZ hown (Or.inl (wd_26 hw)) Via.refl e31 f36 f35 (Or.inr ⟨(wd_22 hw), rfl, hnm⟩) (wd_8 hw) (ty := (.array .byte)) (by decide) rfl rfl (d3_54 hby) (pc' := 57) rfl ?_
   intro T37 h37 X37 e37 W37
   have f38 : Fld Z h37 a0 kc0 "value" "[B" (.ref t_22) := f36.same W37
   have K39 : Keep h0 h37 [a0] := K33.wr W37 (Or.inl (by simp))
   have N40 := Fr.snoc X37 N34 zz14
   have f41 : Exa Z h37 a0 kc0 := (f35.wr W37)
   have f42 : Fld Z h37 a0 kc0 "coder" "B" (.int (0 : Int32)) := (f32.other W37 (Or.inr (slot_ne (Or.inr (wd_23 hw)) (Or.inr (wd_22 hw)) (by decide) (t := .byte) (t' := (.array .byte)) (by decide) (by decide))))
   have ne43 : a0 ≠ t_22 := (Nat.ne_of_lt (Nat.lt_of_lt_of_le E_a0.lt (Nat.le_trans (Nat.le_refl _) g22_0)))
   have f44 : Arv Z h37 t_22 kb_22 .byte (4 : Int32) [(.int (jj1.toInt8.toInt32)), (.int (jj2.toInt8.toInt32)), (.int (jj3.toInt8.toInt32)), (.int (jj4.toInt8.toInt32))] (.int (0 : Int32)) := ((g22_1.other W31 (Ne.symm ne43)).other W37 (Ne.symm ne43))
   exact w_done X37 hlk (v := none) e37 (fun _ => rfl) (fun fs hr => X37.returnOut hx hret (d3_57 hby) hr) (by decide) (by decide) (Or.inl ⟨t_22, kb_22, rfl, N40, K39, f41, f42, f38, sz26, f44, g22_2, g22_3, g22_4, g22_5⟩)
 · have N45 := Fr.app N0 N22q
   have K46 : Keep h0 T22.heap [a0] := (Keep.refl h0 [a0]).trans K22 (all0 (P := fun x => x ∈ [a0] ∨ h0.size ≤ x))
   have ge47 : n0 ≤ t_22 := Nat.le_trans Z0 g22_0
   have sz48 : h0.size ≤ t_22 := Nat.le_trans (Nat.le_refl _) g22_0
   show Runs _ _ _ _ (T22.setTop (mkF m 39 #[.val (.ref a0), .val (.ref a1), .val (.int (0 : Int32)), .val (.int (4 : Int32)), .val .null, .unset] [(.ref t_22)]))
   refine w_astore X22 hx (d3_39 hby) rfl (L' := #[.val (.ref a0), .val (.ref a1), .val (.int (0 : Int32)), .val (.int (4 : Int32)), .val .null, .val (.ref t_22)]) rfl (pc' := 41) rfl ?_
   refine w_aloadN X22 hx (d3_41 hby) rfl rfl (pc' := 42) rfl ?_
   refine w_aload X22 hx (d3_42 hby) rfl rfl (pc' := 44) rfl ?_
   refine w_iloadN X22 hx (d3_44 hby) rfl (pc' := 45) rfl ?_
   refine w_static X22 hx (y := yn_10) hown (mvT hZ (wd_52 hw)) (mvT hZ (wd_53 hw)) (mvT hZ (wd_47 hw)) (mvT hZ (wd_54 hw)) (by decide) (backOf (W := 1) (rm_m10_84 l Z aZ hw [] t_22 kb_22 ((jj1 >>> ((0 : Int32) &&& 31)).toInt8.toInt32) ((jj1 >>> ((8 : Int32) &&& 31)).toInt8.toInt32) ((jj2 >>> ((0 : Int32) &&& 31)).toInt8.toInt32) ((jj2 >>> ((8 : Int32) &&& 31)).toInt8.toInt32) ((jj3 >>> ((0 : Int32) &&& 31)).toInt8.toInt32) ((jj3 >>> ((8 : Int32) &&& 31)).toInt8.toInt32) ((jj4 >>> ((0 : Int32) &&& 31)).toInt8.toInt32) ((jj4 >>> ((8 : Int32) &&& 31)).toInt8.toInt32) T22.heap n0 (Nat.le_trans Z0 K22.1) g22_1) hZ (wd_54 hw) (wd_47 hw) (by decide) (by decide)) (by rw [hml]; rfl) [(.ref t_22), (.int (4 : Int32))] (lenOf pd_12 rfl) rfl (Nat.le_of_eq rfl) (d3_45 hby) (fun _ _ => ⟨rfl, rfl, (by decide : 2 + 0 ≤ _), (by decide : 12 + 0 ≤ _)⟩) (pc' := 48) rfl ?_
   rintro _ _ ⟨T49, L49, k49, n49⟩ X49 ⟨Lc49, hQ49, l49, y49, z49⟩
   dsimp only [Pt.U, Pt.locs, Pt.cells, Pt.slots] at X49 l49 y49 z49 hQ49 ⊢
   subst l49 y49 z49
   obtain ⟨rfl, N49q, e49⟩ := hQ49
   have N50 := Fr.app N45 N49q
   show Runs _ _ _ _ (T49.setTop (mkF m 48 #[.val (.ref a0), .val (.ref a1), .val (.int (0 : Int32)), .val (.int (4 : Int32)), .val .null, .val (.ref t_22)] [(.int (1 : Int32)), (.ref a0)]))
   have f51 : Exa Z T22.heap a0 kc0 := (E_a0.keep K22)
   have f52 : Fld Z T22.heap a0 kc0 "coder" "B" (.int (0 : Int32)) := (zz13.keep K22 nin0)
   refine w_putF X49 hx "" hZ hown (Or.inl (wd_27 hw)) Via.refl e49 f52 f51 (Or.inr ⟨(wd_23 hw), rfl, hnm⟩) (wd_8 hw) (ty := .byte) (by decide) rfl rfl (d3_48 hby) (pc' := 51) rfl ?_
   intro T53 h53 X53 e53 W53
   have f54 : Fld Z h53 a0 kc0 "coder" "B" (.int (1 : Int32)) := f52.same W53
   have K55 : Keep h0 h53 [a0] := K46.wr W53 (Or.inl (by simp))
   have N56 := Fr.snoc X53 N50 zz14
   refine w_aloadN X53 hx (d3_51 hby) rfl rfl (pc' := 52) rfl ?_
   refine w_aload X53 hx (d3_52 hby) rfl rfl (pc' := 54) rfl ?_
   have f57 : Exa Z h53 a0 kc0 := (f51.wr W53)
   have f58 : Fld Z h53 a0 kc0 "value" "[B" .null := ((zz15.keep K22 nin0).other W53 (Or.inr (slot_ne (Or.inr (wd_22 hw)) (Or.inr (wd_23 hw)) (by decide) (t := (.array .byte)) (t' := .byte) (by decide) (by decide))))
   refine w_putF X53 hx "" hZ hown (Or.inl (wd_26 hw)) Via.refl e53 f58 f57 (Or.inr ⟨(wd_22 hw), rfl, hnm⟩) (wd_8 hw) (ty := (.array .byte)) (by decide) rfl rfl (d3_54 hby) (pc' := 57) rfl ?_
   intro T59 h59 X59 e59 W59
   have f60 : Fld Z h59 a0 kc0 "value" "[B" (.ref t_22) := f58.same W59
   have K61 : Keep h0 h59 [a0] := K55.wr W59 (Or.inl (by simp))
   have N62 := Fr.snoc X59 N56 zz14
   have f64 : Exa Z h59 a0 kc0 := (f57.wr W59)
   have f65 : Fld Z h59 a0 kc0 "coder" "B" (.int (1 : Int32)) := (f54.other W59 (Or.inr (slot_ne (Or.inr (wd_23 hw)) (Or.inr (wd_22 hw)) (by decide) (t := .byte) (t' := (.array .byte)) (by decide) (by decide))))
   have ne66 : a0 ≠ t_22 := (Nat.ne_of_lt (Nat.lt_of_lt_of_le E_a0.lt (Nat.le_trans (Nat.le_refl _) g22_0)))
   have f67 : Arv Z h59 t_22 kb_22 .byte (8 : Int32) [(.int ((jj1 >>> ((0 : Int32) &&& 31)).toInt8.toInt32)), (.int ((jj1 >>> ((8 : Int32) &&& 31)).toInt8.toInt32)), (.int ((jj2 >>> ((0 : Int32) &&& 31)).toInt8.toInt32)), (.int ((jj2 >>> ((8 : Int32) &&& 31)).toInt8.toInt32)), (.int ((jj3 >>> ((0 : Int32) &&& 31)).toInt8.toInt32)), (.int ((jj3 >>> ((8 : Int32) &&& 31)).toInt8.toInt32)), (.int ((jj4 >>> ((0 : Int32) &&& 31)).toInt8.toInt32)), (.int ((jj4 >>> ((8 : Int32) &&& 31)).toInt8.toInt32))] (.int (0 : Int32)) := ((g22_1.other W53 (Ne.symm ne66)).other W59 (Ne.symm ne66))
   exact w_done X59 hlk (v := none) e59 (fun _ => rfl) (fun fs hr => X59.returnOut hx hret (d3_57 hby) hr) (by decide) (by decide) (Or.inr (⟨t_22, kb_22, rfl, N62, K61, f64, f65, f60, sz48, f67, g22_2⟩))
theorem ef_m2_71 (m : MethodId) (a0 : Addr) (a1 : Addr)  : entryFrame m #[(.ref a0), (.ref a1)] 2 = mkF m 0 #[.val (.ref a0), .val (.ref a1)] [] := by first | (simp [entryFrame, mkF, argsToLocals, Value.category]; done) | rfl
def Q_m2_71 (Z : State) (a0 : Addr) (a1 : Addr) (k_a1 : ClassId) (jj0 : Int32) (jj1 : Int32) (jj2 : Int32) (jj3 : Int32) (jj4 : Int32) (h0 : Heap) (n0 : Nat) (v : Option Value) (h : Heap) (L : List Loc) : Prop := (∃ (t : Addr) (kb : ClassId), v = none ∧ Fr n0 L ∧ Keep h0 h [a0] ∧ Exa Z h a0 kc0 ∧ Fld Z h a0 kc0 "coder" "B" (.int (0 : Int32)) ∧ Fld Z h a0 kc0 "value" "[B" (.ref t) ∧ h0.size ≤ t ∧ Arv Z h t kb .byte (4 : Int32) [(.int (jj0.toInt8.toInt32)), (.int (jj1.toInt8.toInt32)), (.int (jj2.toInt8.toInt32)), (.int (jj3.toInt8.toInt32))] (.int (0 : Int32)) ∧ ¬ ((255 : Int32) < jj0) ∧ ¬ ((255 : Int32) < jj1) ∧ ¬ ((255 : Int32) < jj2) ∧ ¬ ((255 : Int32) < jj3)) ∨ (∃ (t : Addr) (kb : ClassId), v = none ∧ Fr n0 L ∧ Keep h0 h [a0] ∧ Exa Z h a0 kc0 ∧ Fld Z h a0 kc0 "coder" "B" (.int (1 : Int32)) ∧ Fld Z h a0 kc0 "value" "[B" (.ref t) ∧ h0.size ≤ t ∧ Arv Z h t kb .byte (8 : Int32) [(.int ((jj0 >>> ((0 : Int32) &&& 31)).toInt8.toInt32)), (.int ((jj0 >>> ((8 : Int32) &&& 31)).toInt8.toInt32)), (.int ((jj1 >>> ((0 : Int32) &&& 31)).toInt8.toInt32)), (.int ((jj1 >>> ((8 : Int32) &&& 31)).toInt8.toInt32)), (.int ((jj2 >>> ((0 : Int32) &&& 31)).toInt8.toInt32)), (.int ((jj2 >>> ((8 : Int32) &&& 31)).toInt8.toInt32)), (.int ((jj3 >>> ((0 : Int32) &&& 31)).toInt8.toInt32)), (.int ((jj3 >>> ((8 : Int32) &&& 31)).toInt8.toInt32))] (.int (0 : Int32)) ∧ ((255 : Int32) < jj0 ∨ (255 : Int32) < jj1 ∨ (255 : Int32) < jj2 ∨ (255 : Int32) < jj3))
theorem rm_m2_71 (l : Launch) (Z : State) (aZ : Array Value) (hw : ∀ d ∈ tables_1, d.before aZ Z = true) (ws : List Jvm.Cond) (a0 : Addr) (a1 : Addr) (k_a1 : ClassId) (jj0 : Int32) (jj1 : Int32) (jj2 : Int32) (jj3 : Int32) (jj4 : Int32) (h0 : Heap) (n0 : Nat) (Z0 : n0 ≤ h0.size) (V_a1 : Arv Z h0 a1 k_a1 .char (4 : Int32) [(.int jj0), (.int jj1), (.int jj2), (.int jj3)] (.int (0 : Int32))) (hP_1 : ¬ (jj4 = (0 : Int32))) (zz5 : nar .char jj0 = jj0) (zz6 : nar .char jj1 = jj1) (zz7 : nar .char jj2 = jj2) (zz8 : nar .char jj3 = jj3) (E_a0 : Exa Z h0 a0 kc0) (zz9 : Fld Z h0 a0 kc0 "coder" "B" (.int (0 : Int32))) (zz10 : Fld Z h0 a0 kc0 "value" "[B" .null) (zz11 : Sta Z Z.heap kc0 "COMPACT_STRINGS" "Z" (.int jj4)) (O0 : Old Z n0 h0) (zz12 : Sta Z Z.heap kc1 "$assertionsDisabled" "Z" (.int (1 : Int32))) (zz13 : Sta Z Z.heap kc1 "HI_BYTE_SHIFT" "I" (.int (0 : Int32))) (zz14 : Sta Z Z.heap kc1 "LO_BYTE_SHIFT" "I" (.int (8 : Int32))) (zz15 : n0 ≤ a0) :
    MetN l Z yn_2 jdk_42_method_3_code 2 none ws ({ frames := 5, cells := 2, slots := 12, locals := 74 } : Room) #[(.ref a0), (.ref a1)] h0 (Q_m2_71 Z a0 a1 k_a1 jj0 jj1 jj2 jj3 jj4 h0 n0) := by
 refine MetN.of (plainFor_of_name pn_1) ?_
 intro p e s m below meth c s₁ hret hx hby hml hown hnm hlk hZ X0 e0
 have N0 := Fr.nil n0
 rw [ef_m2_71 m a0 a1]
 refine w_aloadN X0 hx (d2_0 hby) rfl rfl (pc' := 1) rfl ?_
 refine w_aloadN X0 hx (d2_1 hby) rfl rfl (pc' := 2) rfl ?_
 refine w_iconst X0 hx (d2_2 hby) (v := (0 : Int32)) rfl (pc' := 3) rfl ?_
 refine w_aloadN X0 hx (d2_3 hby) rfl rfl (pc' := 4) rfl ?_
 refine w_alen X0 hx hZ e0 V_a1 (d2_4 hby) (pc' := 5) rfl ?_
 refine w_null X0 hx (d2_5 hby) (pc' := 6) rfl ?_
 refine w_special X0 hx (y := yn_3) rfl hown (mvT hZ (wd_13 hw)) (mvT hZ (wd_14 hw)) (mvT hZ (wd_16 hw)) (by decide) (backOf (W := 0) (rm_m3_72 l Z aZ hw [] a0 a1 jj4 k_a1 jj0 jj1 jj2 jj3 h0 n0 Z0 zz11 O0 hP_1 V_a1 zz5 zz6 zz7 zz8 zz12 zz13 zz14 E_a0 zz9 zz15 zz10) hZ (wd_16 hw) (wd_9 hw) (by decide) (by decide)) (by rw [hml]; rfl) [(.ref a1), (.int (0 : Int32)), (.int (4 : Int32)), .null] (lenOf pd_1 rfl) rfl (Nat.le_of_eq rfl) (d2_6 hby) (fun _ _ => ⟨rfl, e0, (by decide : 0 + 2 ≤ _), (by decide : 0 + 12 ≤ _)⟩) (pc' := 9) rfl ?_
 rintro _ _ ⟨T20, L20, k20, n20⟩ X20 ⟨Lc20, hQ20, l20, y20, z20⟩
 dsimp only [Pt.U, Pt.locs, Pt.cells, Pt.slots] at X20 l20 y20 z20 hQ20 ⊢
 subst l20 y20 z20
 rcases hQ20 with ⟨t_20, kb_20, rfl, N20q, K20, g20_0, g20_1, g20_2, g20_3, g20_4, g20_5, g20_6, g20_7, g20_8⟩ | ⟨t_20, kb_20, rfl, N20q, K20, g20_0, g20_1, g20_2, g20_3, g20_4, g20_5⟩
 · have N21 := Fr.app N0 N20q
   have K22 : Keep h0 T20.heap [a0] := (Keep.refl h0 [a0]).trans K20 (allS (Or.inl (by simp)) (all0 (P := fun x => x ∈ [a0] ∨ h0.size ≤ x)))
   have ge23 : n0 ≤ t_20 := Nat.le_trans Z0 g20_3
   have sz24 : h0.size ≤ t_20 := Nat.le_trans (Nat.le_refl _) g20_3
   show Runs _ _ _ _ (T20.setTop (mkF m 9 #[.val (.ref a0), .val (.ref a1)] []))
   exact w_done X20 hlk (v := none) rfl (fun _ => rfl) (fun fs hr => X20.returnOut hx hret (d2_9 hby) hr) (by decide) (by decide) (Or.inl ⟨t_20, kb_20, rfl, N21, K22, g20_0, g20_1, g20_2, sz24, g20_4, g20_5, g20_6, g20_7, g20_8⟩)
 · have N25 := Fr.app N0 N20q
   have K26 : Keep h0 T20.heap [a0] := (Keep.refl h0 [a0]).trans K20 (allS (Or.inl (by simp)) (all0 (P := fun x => x ∈ [a0] ∨ h0.size ≤ x)))
   have ge27 : n0 ≤ t_20 := Nat.le_trans Z0 g20_3
   have sz28 : h0.size ≤ t_20 := Nat.le_trans (Nat.le_refl _) g20_3
   show Runs _ _ _ _ (T20.setTop (mkF m 9 #[.val (.ref a0), .val (.ref a1)] []))
   exact w_done X20 hlk (v := none) rfl (fun _ => rfl) (fun fs hr => X20.returnOut hx hret (d2_9 hby) hr) (by decide) (by decide) (Or.inr (⟨t_20, kb_20, rfl, N25, K26, g20_0, g20_1, g20_2, sz28, g20_4, g20_5⟩))
theorem ef_m7_87 (m : MethodId) (a0 : Addr) (a1 : Addr)  : entryFrame m #[(.ref a0), (.ref a1)] 3 = mkF m 0 #[.val (.ref a0), .val (.ref a1), .unset] [] := by first | (simp [entryFrame, mkF, argsToLocals, Value.category]; done) | rfl
def Q_m7_87 (Z : State) (a0 : Addr) (a1 : Addr) (k_a0 : ClassId) (jj0 : Int32) (jj1 : Int32) (jj2 : Int32) (jj3 : Int32) (k_a1 : ClassId) (h0 : Heap) (n0 : Nat) (v : Option Value) (h : Heap) (L : List Loc) : Prop := v = some (.int (0 : Int32)) ∧ Fr n0 L ∧ h = h0
theorem rm_m7_87 (l : Launch) (Z : State) (aZ : Array Value) (hw : ∀ d ∈ tables_1, d.before aZ Z = true) (ws : List Jvm.Cond) (a0 : Addr) (a1 : Addr) (k_a0 : ClassId) (jj0 : Int32) (jj1 : Int32) (jj2 : Int32) (jj3 : Int32) (k_a1 : ClassId) (h0 : Heap) (n0 : Nat) (Z0 : n0 ≤ h0.size) (V_a0 : Arv Z h0 a0 k_a0 .byte (4 : Int32) [(.int jj0), (.int jj1), (.int jj2), (.int jj3)] (.int (0 : Int32))) (V_a1 : Arv Z h0 a1 k_a1 .byte (1 : Int32) [(.int (46 : Int32))] (.int (0 : Int32))) :
    MetN l Z yn_7 jdk_43_method_13_code 3 (some .boolean) ws ({ frames := 0, cells := 0, slots := 0, locals := 0 } : Room) #[(.ref a0), (.ref a1)] h0 (Q_m7_87 Z a0 a1 k_a0 jj0 jj1 jj2 jj3 k_a1 h0 n0) := by
 refine MetN.of (plainFor_of_name pn_2) ?_
 intro p e s m below meth c s₁ hret hx hby hml hown hnm hlk hZ X0 e0
 have N0 := Fr.nil n0
 rw [ef_m7_87 m a0 a1]
 refine w_aloadN X0 hx (d7_0 hby) rfl rfl (pc' := 1) rfl ?_
 refine w_alen X0 hx hZ e0 V_a0 (d7_1 hby) (pc' := 2) rfl ?_
 refine w_aloadN X0 hx (d7_2 hby) rfl rfl (pc' := 3) rfl ?_
 refine w_alen X0 hx hZ e0 V_a1 (d7_3 hby) (pc' := 4) rfl ?_
 refine w_icY X0 hx (d7_4 hby) (feq (by decide : ¬ ((4 : Int32) = (1 : Int32)))).2 (pc' := 34) (by decide) (by decide) ?_
 refine w_iconst X0 hx (d7_34 hby) (v := (0 : Int32)) rfl (pc' := 35) rfl ?_
 exact w_done X0 hlk (v := some (.int (0 : Int32))) e0 (fun h => by rw [hret] at h; cases h) (fun fs hr => retN X0 hx (t := .boolean) hret (by simp) (d7_35 hby) hr) (by decide) (by decide) (⟨rfl, N0, rfl⟩)
theorem ef_m6_86 (m : MethodId) (a0 : Addr) (a1 : Addr)  : entryFrame m #[(.ref a0), (.ref a1)] 3 = mkF m 0 #[.val (.ref a0), .val (.ref a1), .unset] [] := by first | (simp [entryFrame, mkF, argsToLocals, Value.category]; done) | rfl
def Q_m6_86 (Z : State) (a0 : Addr) (a1 : Addr) (jj0 : Int32) (jj1 : Addr) (jj2 : Addr) (jj3 : ClassId) (jj4 : Int32) (jj5 : Int32) (jj6 : Int32) (jj7 : Int32) (jj8 : ClassId) (h0 : Heap) (n0 : Nat) (v : Option Value) (h : Heap) (L : List Loc) : Prop := v = some (.int (0 : Int32)) ∧ Fr n0 L ∧ h = h0
theorem rm_m6_86 (l : Launch) (Z : State) (aZ : Array Value) (hw : ∀ d ∈ tables_1, d.before aZ Z = true) (ws : List Jvm.Cond) (a0 : Addr) (a1 : Addr) (jj0 : Int32) (jj1 : Addr) (jj2 : Addr) (jj3 : ClassId) (jj4 : Int32) (jj5 : Int32) (jj6 : Int32) (jj7 : Int32) (jj8 : ClassId) (h0 : Heap) (n0 : Nat) (Z0 : n0 ≤ h0.size) (zz9 : a0 ≠ a1) (E_a1 : Exa Z h0 a1 kc0) (zz10 : Sta Z Z.heap kc0 "COMPACT_STRINGS" "Z" (.int jj0)) (O0 : Old Z n0 h0) (hP_4 : ¬ (jj0 = (0 : Int32))) (zz11 : Fld Z h0 a0 kc0 "coder" "B" (.int (0 : Int32))) (zz12 : Fld Z h0 a1 kc0 "coder" "B" (.int (0 : Int32))) (zz13 : Fld Z h0 a0 kc0 "value" "[B" (.ref jj1)) (zz14 : Fld Z h0 a1 kc0 "value" "[B" (.ref jj2)) (zz15 : Arv Z h0 jj1 jj3 .byte (4 : Int32) [(.int jj4), (.int jj5), (.int jj6), (.int jj7)] (.int (0 : Int32))) (zz16 : Arv Z h0 jj2 jj8 .byte (1 : Int32) [(.int (46 : Int32))] (.int (0 : Int32))) :
    MetN l Z yn_6 jdk_42_method_66_code 3 (some .boolean) ws ({ frames := 1, cells := 0, slots := 0, locals := 14 } : Room) #[(.ref a0), (.ref a1)] h0 (Q_m6_86 Z a0 a1 jj0 jj1 jj2 jj3 jj4 jj5 jj6 jj7 jj8 h0 n0) := by
 refine MetN.of (plainFor_of_name pn_1) ?_
 intro p e s m below meth c s₁ hret hx hby hml hown hnm hlk hZ X0 e0
 have N0 := Fr.nil n0
 rw [ef_m6_86 m a0 a1]
 refine w_aloadN X0 hx (d6_0 hby) rfl rfl (pc' := 1) rfl ?_
 refine w_aloadN X0 hx (d6_1 hby) rfl rfl (pc' := 2) rfl ?_
 refine w_acmp X0 hx (d6_2 hby) (same := false) rfl rfl (decide_eq_false fun q => zz9 (Value.ref.inj q)) (pc' := 7) (by decide) (by decide) ?_
 refine w_aloadN X0 hx (d6_7 hby) rfl rfl (pc' := 8) rfl ?_
 refine w_instY X0 hx hZ hown (wd_38 hw) e0 (Ins.self E_a1) (d6_8 hby) (pc' := 11) rfl ?_
 intro T20 X20 e20
 refine w_ifN X20 hx (d6_11 hby) (feq (by decide : ¬ ((1 : Int32) = (0 : Int32)))).1 (pc' := 14) rfl ?_
 refine w_aloadN X20 hx (d6_14 hby) rfl rfl (pc' := 15) rfl ?_
 refine w_castY X20 hx hZ hown (wd_38 hw) e20 (Ins.self E_a1) (d6_15 hby) (pc' := 18) rfl ?_
 intro T21 X21 e21
 refine w_astoreN X21 hx (d6_18 hby) rfl (L' := #[.val (.ref a0), .val (.ref a1), .val (.ref a1)]) rfl (pc' := 19) rfl ?_
 refine w_getS X21 hx "" hZ hown (Or.inl (wd_39 hw)) Via.refl e21 (zz10.ext O0.2) (d6_19 hby) (pc' := 22) rfl ?_
 intro T22 X22 e22
 refine w_ifN X22 hx (d6_22 hby) (feq hP_4).1 (pc' := 25) rfl ?_
 refine w_aloadN X22 hx (d6_25 hby) rfl rfl (pc' := 26) rfl ?_
 refine w_getF X22 hx "" hZ hown (Or.inl (wd_27 hw)) Via.refl e22 zz11 (d6_26 hby) (pc' := 29) rfl ?_
 intro T23 X23 e23
 refine w_aloadN X23 hx (d6_29 hby) rfl rfl (pc' := 30) rfl ?_
 refine w_getF X23 hx "" hZ hown (Or.inl (wd_27 hw)) Via.refl e23 zz12 (d6_30 hby) (pc' := 33) rfl ?_
 intro T24 X24 e24
 refine w_icN X24 hx (d6_33 hby) (teq (by decide : (0 : Int32) = (0 : Int32))).2 (pc' := 36) rfl ?_
 refine w_aloadN X24 hx (d6_36 hby) rfl rfl (pc' := 37) rfl ?_
 refine w_getF X24 hx "" hZ hown (Or.inl (wd_26 hw)) Via.refl e24 zz13 (d6_37 hby) (pc' := 40) rfl ?_
 intro T25 X25 e25
 refine w_aloadN X25 hx (d6_40 hby) rfl rfl (pc' := 41) rfl ?_
 refine w_getF X25 hx "" hZ hown (Or.inl (wd_26 hw)) Via.refl e25 zz14 (d6_41 hby) (pc' := 44) rfl ?_
 intro T26 X26 e26
 refine w_static X26 hx (y := yn_7) hown (mvT hZ (wd_40 hw)) (mvT hZ (wd_41 hw)) (mvT hZ (wd_42 hw)) (mvT hZ (wd_43 hw)) (by decide) (backOf (W := 0) (rm_m7_87 l Z aZ hw [] jj1 jj2 jj3 jj4 jj5 jj6 jj7 jj8 h0 n0 Z0 zz15 zz16) hZ (wd_43 hw) (wd_42 hw) (by decide) (by decide)) (by rw [hml]; rfl) [(.ref jj1), (.ref jj2)] (lenOf pd_3 rfl) rfl (Nat.le_of_eq rfl) (d6_44 hby) (fun _ _ => ⟨rfl, e26, (by decide : 0 + 0 ≤ _), (by decide : 0 + 0 ≤ _)⟩) (pc' := 47) rfl ?_
 rintro _ _ ⟨T27, L27, k27, n27⟩ X27 ⟨Lc27, hQ27, l27, y27, z27⟩
 dsimp only [Pt.U, Pt.locs, Pt.cells, Pt.slots] at X27 l27 y27 z27 hQ27 ⊢
 subst l27 y27 z27
 obtain ⟨rfl, N27q, e27⟩ := hQ27
 have N28 := Fr.app N0 N27q
 show Runs _ _ _ _ (T27.setTop (mkF m 47 #[.val (.ref a0), .val (.ref a1), .val (.ref a1)] [(.int (0 : Int32))]))
 refine w_ifY X27 hx (d6_47 hby) (teq (by decide : (0 : Int32) = (0 : Int32))).1 (pc' := 54) (by decide) (by decide) ?_
 refine w_iconst X27 hx (d6_54 hby) (v := (0 : Int32)) rfl (pc' := 55) rfl ?_
 exact w_done X27 hlk (v := some (.int (0 : Int32))) e27 (fun h => by rw [hret] at h; cases h) (fun fs hr => retN X27 hx (t := .boolean) hret (by simp) (d6_55 hby) hr) (by decide) (by decide) (⟨rfl, N28, rfl⟩)
theorem ef_m7_89 (m : MethodId) (a0 : Addr) (a1 : Addr)  : entryFrame m #[(.ref a0), (.ref a1)] 3 = mkF m 0 #[.val (.ref a0), .val (.ref a1), .unset] [] := by first | (simp [entryFrame, mkF, argsToLocals, Value.category]; done) | rfl
def Q_m7_89 (Z : State) (a0 : Addr) (a1 : Addr) (k_a0 : ClassId) (jj0 : Int32) (jj1 : Int32) (jj2 : Int32) (jj3 : Int32) (k_a1 : ClassId) (h0 : Heap) (n0 : Nat) (v : Option Value) (h : Heap) (L : List Loc) : Prop := v = some (.int (0 : Int32)) ∧ Fr n0 L ∧ h = h0
theorem rm_m7_89 (l : Launch) (Z : State) (aZ : Array Value) (hw : ∀ d ∈ tables_1, d.before aZ Z = true) (ws : List Jvm.Cond) (a0 : Addr) (a1 : Addr) (k_a0 : ClassId) (jj0 : Int32) (jj1 : Int32) (jj2 : Int32) (jj3 : Int32) (k_a1 : ClassId) (h0 : Heap) (n0 : Nat) (Z0 : n0 ≤ h0.size) (V_a0 : Arv Z h0 a0 k_a0 .byte (4 : Int32) [(.int jj0), (.int jj1), (.int jj2), (.int jj3)] (.int (0 : Int32))) (V_a1 : Arv Z h0 a1 k_a1 .byte (2 : Int32) [(.int (46 : Int32)), (.int (46 : Int32))] (.int (0 : Int32))) :
    MetN l Z yn_7 jdk_43_method_13_code 3 (some .boolean) ws ({ frames := 0, cells := 0, slots := 0, locals := 0 } : Room) #[(.ref a0), (.ref a1)] h0 (Q_m7_89 Z a0 a1 k_a0 jj0 jj1 jj2 jj3 k_a1 h0 n0) := by
 refine MetN.of (plainFor_of_name pn_2) ?_
 intro p e s m below meth c s₁ hret hx hby hml hown hnm hlk hZ X0 e0
 have N0 := Fr.nil n0
 rw [ef_m7_89 m a0 a1]
 refine w_aloadN X0 hx (d7_0 hby) rfl rfl (pc' := 1) rfl ?_
 refine w_alen X0 hx hZ e0 V_a0 (d7_1 hby) (pc' := 2) rfl ?_
 refine w_aloadN X0 hx (d7_2 hby) rfl rfl (pc' := 3) rfl ?_
 refine w_alen X0 hx hZ e0 V_a1 (d7_3 hby) (pc' := 4) rfl ?_
 refine w_icY X0 hx (d7_4 hby) (feq (by decide : ¬ ((4 : Int32) = (2 : Int32)))).2 (pc' := 34) (by decide) (by decide) ?_
 refine w_iconst X0 hx (d7_34 hby) (v := (0 : Int32)) rfl (pc' := 35) rfl ?_
 exact w_done X0 hlk (v := some (.int (0 : Int32))) e0 (fun h => by rw [hret] at h; cases h) (fun fs hr => retN X0 hx (t := .boolean) hret (by simp) (d7_35 hby) hr) (by decide) (by decide) (⟨rfl, N0, rfl⟩)
theorem ef_m6_88 (m : MethodId) (a0 : Addr) (a1 : Addr)  : entryFrame m #[(.ref a0), (.ref a1)] 3 = mkF m 0 #[.val (.ref a0), .val (.ref a1), .unset] [] := by first | (simp [entryFrame, mkF, argsToLocals, Value.category]; done) | rfl
def Q_m6_88 (Z : State) (a0 : Addr) (a1 : Addr) (jj0 : Int32) (jj1 : Addr) (jj2 : Addr) (jj3 : ClassId) (jj4 : Int32) (jj5 : Int32) (jj6 : Int32) (jj7 : Int32) (jj8 : ClassId) (h0 : Heap) (n0 : Nat) (v : Option Value) (h : Heap) (L : List Loc) : Prop := v = some (.int (0 : Int32)) ∧ Fr n0 L ∧ h = h0
theorem rm_m6_88 (l : Launch) (Z : State) (aZ : Array Value) (hw : ∀ d ∈ tables_1, d.before aZ Z = true) (ws : List Jvm.Cond) (a0 : Addr) (a1 : Addr) (jj0 : Int32) (jj1 : Addr) (jj2 : Addr) (jj3 : ClassId) (jj4 : Int32) (jj5 : Int32) (jj6 : Int32) (jj7 : Int32) (jj8 : ClassId) (h0 : Heap) (n0 : Nat) (Z0 : n0 ≤ h0.size) (zz9 : a0 ≠ a1) (E_a1 : Exa Z h0 a1 kc0) (zz10 : Sta Z Z.heap kc0 "COMPACT_STRINGS" "Z" (.int jj0)) (O0 : Old Z n0 h0) (hP_4 : ¬ (jj0 = (0 : Int32))) (zz11 : Fld Z h0 a0 kc0 "coder" "B" (.int (0 : Int32))) (zz12 : Fld Z h0 a1 kc0 "coder" "B" (.int (0 : Int32))) (zz13 : Fld Z h0 a0 kc0 "value" "[B" (.ref jj1)) (zz14 : Fld Z h0 a1 kc0 "value" "[B" (.ref jj2)) (zz15 : Arv Z h0 jj1 jj3 .byte (4 : Int32) [(.int jj4), (.int jj5), (.int jj6), (.int jj7)] (.int (0 : Int32))) (zz16 : Arv Z h0 jj2 jj8 .byte (2 : Int32) [(.int (46 : Int32)), (.int (46 : Int32))] (.int (0 : Int32))) :
    MetN l Z yn_6 jdk_42_method_66_code 3 (some .boolean) ws ({ frames := 1, cells := 0, slots := 0, locals := 14 } : Room) #[(.ref a0), (.ref a1)] h0 (Q_m6_88 Z a0 a1 jj0 jj1 jj2 jj3 jj4 jj5 jj6 jj7 jj8 h0 n0) := by
 refine MetN.of (plainFor_of_name pn_1) ?_
 intro p e s m below meth c s₁ hret hx hby hml hown hnm hlk hZ X0 e0
 have N0 := Fr.nil n0
 rw [ef_m6_88 m a0 a1]
 refine w_aloadN X0 hx (d6_0 hby) rfl rfl (pc' := 1) rfl ?_
 refine w_aloadN X0 hx (d6_1 hby) rfl rfl (pc' := 2) rfl ?_
 refine w_acmp X0 hx (d6_2 hby) (same := false) rfl rfl (decide_eq_false fun q => zz9 (Value.ref.inj q)) (pc' := 7) (by decide) (by decide) ?_
 refine w_aloadN X0 hx (d6_7 hby) rfl rfl (pc' := 8) rfl ?_
 refine w_instY X0 hx hZ hown (wd_38 hw) e0 (Ins.self E_a1) (d6_8 hby) (pc' := 11) rfl ?_
 intro T20 X20 e20
 refine w_ifN X20 hx (d6_11 hby) (feq (by decide : ¬ ((1 : Int32) = (0 : Int32)))).1 (pc' := 14) rfl ?_
 refine w_aloadN X20 hx (d6_14 hby) rfl rfl (pc' := 15) rfl ?_
 refine w_castY X20 hx hZ hown (wd_38 hw) e20 (Ins.self E_a1) (d6_15 hby) (pc' := 18) rfl ?_
 intro T21 X21 e21
 refine w_astoreN X21 hx (d6_18 hby) rfl (L' := #[.val (.ref a0), .val (.ref a1), .val (.ref a1)]) rfl (pc' := 19) rfl ?_
 refine w_getS X21 hx "" hZ hown (Or.inl (wd_39 hw)) Via.refl e21 (zz10.ext O0.2) (d6_19 hby) (pc' := 22) rfl ?_
 intro T22 X22 e22
 refine w_ifN X22 hx (d6_22 hby) (feq hP_4).1 (pc' := 25) rfl ?_
 refine w_aloadN X22 hx (d6_25 hby) rfl rfl (pc' := 26) rfl ?_
 refine w_getF X22 hx "" hZ hown (Or.inl (wd_27 hw)) Via.refl e22 zz11 (d6_26 hby) (pc' := 29) rfl ?_
 intro T23 X23 e23
 refine w_aloadN X23 hx (d6_29 hby) rfl rfl (pc' := 30) rfl ?_
 refine w_getF X23 hx "" hZ hown (Or.inl (wd_27 hw)) Via.refl e23 zz12 (d6_30 hby) (pc' := 33) rfl ?_
 intro T24 X24 e24
 refine w_icN X24 hx (d6_33 hby) (teq (by decide : (0 : Int32) = (0 : Int32))).2 (pc' := 36) rfl ?_
 refine w_aloadN X24 hx (d6_36 hby) rfl rfl (pc' := 37) rfl ?_
 refine w_getF X24 hx "" hZ hown (Or.inl (wd_26 hw)) Via.refl e24 zz13 (d6_37 hby) (pc' := 40) rfl ?_
 intro T25 X25 e25
 refine w_aloadN X25 hx (d6_40 hby) rfl rfl (pc' := 41) rfl ?_
 refine w_getF X25 hx "" hZ hown (Or.inl (wd_26 hw)) Via.refl e25 zz14 (d6_41 hby) (pc' := 44) rfl ?_
 intro T26 X26 e26
 refine w_static X26 hx (y := yn_7) hown (mvT hZ (wd_40 hw)) (mvT hZ (wd_41 hw)) (mvT hZ (wd_42 hw)) (mvT hZ (wd_43 hw)) (by decide) (backOf (W := 0) (rm_m7_89 l Z aZ hw [] jj1 jj2 jj3 jj4 jj5 jj6 jj7 jj8 h0 n0 Z0 zz15 zz16) hZ (wd_43 hw) (wd_42 hw) (by decide) (by decide)) (by rw [hml]; rfl) [(.ref jj1), (.ref jj2)] (lenOf pd_3 rfl) rfl (Nat.le_of_eq rfl) (d6_44 hby) (fun _ _ => ⟨rfl, e26, (by decide : 0 + 0 ≤ _), (by decide : 0 + 0 ≤ _)⟩) (pc' := 47) rfl ?_
 rintro _ _ ⟨T27, L27, k27, n27⟩ X27 ⟨Lc27, hQ27, l27, y27, z27⟩
 dsimp only [Pt.U, Pt.locs, Pt.cells, Pt.slots] at X27 l27 y27 z27 hQ27 ⊢
 subst l27 y27 z27
 obtain ⟨rfl, N27q, e27⟩ := hQ27
 have N28 := Fr.app N0 N27q
 show Runs _ _ _ _ (T27.setTop (mkF m 47 #[.val (.ref a0), .val (.ref a1), .val (.ref a1)] [(.int (0 : Int32))]))
 refine w_ifY X27 hx (d6_47 hby) (teq (by decide : (0 : Int32) = (0 : Int32))).1 (pc' := 54) (by decide) (by decide) ?_
 refine w_iconst X27 hx (d6_54 hby) (v := (0 : Int32)) rfl (pc' := 55) rfl ?_
 exact w_done X27 hlk (v := some (.int (0 : Int32))) e27 (fun h => by rw [hret] at h; cases h) (fun fs hr => retN X27 hx (t := .boolean) hret (by simp) (d6_55 hby) hr) (by decide) (by decide) (⟨rfl, N28, rfl⟩)
theorem ef_m5_85 (m : MethodId) (a0 : Addr)  : entryFrame m #[(.ref a0)] 1 = mkF m 0 #[.val (.ref a0)] [] := by first | (simp [entryFrame, mkF, argsToLocals, Value.category]; done) | rfl
def Q_m5_85 (Z : State) (a0 : Addr) (jj0 : Addr) (jj1 : ClassId) (jj2 : Int32) (jj3 : Int32) (jj4 : Int32) (jj5 : Int32) (jj6 : Int32) (h0 : Heap) (n0 : Nat) (v : Option Value) (h : Heap) (L : List Loc) (S : Addr → Prop) : Prop := v = some (.int (0 : Int32)) ∧ Fr n0 L ∧ Keep h0 h []
theorem rm_m5_85 (l : Launch) (Z : State) (aZ : Array Value) (hw : ∀ d ∈ tables_1, d.before aZ Z = true) (ws : List Jvm.Cond) (a0 : Addr) (jj0 : Addr) (jj1 : ClassId) (jj2 : Int32) (jj3 : Int32) (jj4 : Int32) (jj5 : Int32) (jj6 : Int32) (h0 : Heap) (n0 : Nat) (Z0 : n0 ≤ h0.size) (E_a0 : Exa Z h0 a0 kc0) (hP_1 : ¬ (jj6 = (0 : Int32))) (zz7 : Fld Z h0 a0 kc0 "coder" "B" (.int (0 : Int32))) (zz8 : Fld Z h0 a0 kc0 "value" "[B" (.ref jj0)) (zz9 : Arv Z h0 jj0 jj1 .byte (4 : Int32) [(.int jj2), (.int jj3), (.int jj4), (.int jj5)] (.int (0 : Int32))) (zz10 : Sta Z Z.heap kc0 "COMPACT_STRINGS" "Z" (.int jj6)) (O0 : Old Z n0 h0) :
    MetH l Z EL yn_5 prog_59_method_10_code 1 (some .boolean) ws ({ frames := 2, cells := 4, slots := 20, locals := 28 } : Room) #[(.ref a0)] h0 (Q_m5_85 Z a0 jj0 jj1 jj2 jj3 jj4 jj5 jj6 h0 n0) [a0] := by
 refine MetH.of (plainFor_of_name pn_3) ?_
 intro p e s m below meth c s₁ hret hx hby hml hown hnm hlk hZ X0 e0 hh hH hsf hS0 C0
 have N0 := Fr.nil n0
 rw [ef_m5_85 m a0]
 refine w_aloadN X0 hx (d5_0 hby) rfl rfl (pc' := 1) rfl ?_
 obtain ⟨a20, T20, h20, k20, b20, c20, X20, e20, E20, hS20, hk20, hZ20, hown20, gE20, gC20, gV20, gA20, lt20, ltb20, A20, -, ns20, st20⟩ := ldcCH X0 hx hZ hown (wd_32 hw) (own_wS hw) e0 hS0 (Nat.le_refl _) (own_EW hw) (by simp [EL]) C0.1 (vs := [(.int (46 : Int32))]) (z := (1 : Int32)) (by decide +kernel) (by decide) (by decide) (g := (mkF m 1 #[.val (.ref a0)] [(.ref a0)])) rfl (d5_1 hby) (n := 4) (by decide +kernel) (by decide) (by decide) (by decide)
 refine Runs.by ?_ st20
 have C21 : CHr Z EL s.vm h0 T20.vm h20 := C0.trans A20
 have K22 : Keep h0 h20 [] := (Keep.refl h0 []).ext E20
 show Runs _ _ _ _ (T20.setTop (mkF m 3 #[.val (.ref a0)] [(.ref a20), (.ref a0)]))
 have f57 : Old Z n0 h20 := (O0.ext E20)
 have f58 : Fld Z h20 a0 kc0 "coder" "B" (.int (0 : Int32)) := (zz7.ext E20)
 have f59 : Fld Z h20 a0 kc0 "value" "[B" (.ref jj0) := (zz8.ext E20)
 have f60 : Arv Z h20 jj0 jj1 .byte (4 : Int32) [(.int jj2), (.int jj3), (.int jj4), (.int jj5)] (.int (0 : Int32)) := (zz9.ext E20)
 have ne61 : a0 ≠ a20 := (ns20 a0 (CHr.safe A20 (Nat.lt_of_lt_of_le zz7.lt (Nat.le_refl _)) (hsf a0 (by simp)))).1
 have f63 : Exa Z h20 a0 kc0 := (E_a0.ext E20)
 obtain ⟨cq62, kq62, q62a, q62b, q62c⟩ := isOf hZ20 e20 f63
 refine w_virtual X20 hx (y := yn_6) (z := yn_6) hown20 (mvT hZ20 (wd_33 hw)) (mvT hZ20 (wd_34 hw)) (notFace_of_selects (args := #[]) (mvT hZ20 (wd_36 hw))) (mvT hZ20 (wd_36 hw)) (mvT hZ20 (wd_35 hw)) (by decide) (backOf (W := 0) (rm_m6_86 l Z aZ hw [] a0 a20 jj6 jj0 b20 jj1 jj2 jj3 jj4 jj5 c20 h20 n0 (Nat.le_trans Z0 E20.1) ne61 gE20 zz10 f57 hP_1 f58 gC20 f59 gV20 f60 gA20) hZ20 (wd_37 hw) (wd_9 hw) (by decide) (by decide)) q62a q62c (by rw [hml]; rfl) [(.ref a20)] (lenOf pd_4 rfl) rfl (Nat.le_of_eq rfl) (d5_3 hby) (fun _ _ => ⟨rfl, e20, (by decide : 2 + 0 ≤ _), (by decide : 8 + 0 ≤ _)⟩) (pc' := 6) rfl ?_
 rintro _ _ ⟨T62, L62, k62, n62⟩ X62 ⟨Lc62, hQ62, l62, y62, z62⟩
 dsimp only [Pt.U, Pt.locs, Pt.cells, Pt.slots] at X62 l62 y62 z62 hQ62 ⊢
 subst l62 y62 z62
 obtain ⟨rfl, N62q, e62⟩ := hQ62
 have N64 := Fr.app N0 N62q
 show Runs _ _ _ _ (T62.setTop (mkF m 6 #[.val (.ref a0)] [(.int (0 : Int32))]))
 refine w_ifN X62 hx (d5_6 hby) (teq (by decide : (0 : Int32) = (0 : Int32))).2 (pc' := 9) rfl ?_
 refine w_aloadN X62 hx (d5_9 hby) rfl rfl (pc' := 10) rfl ?_
 obtain ⟨a65, T65, h65, k65, b65, c65, X65, e65, E65, hS65, hk65, hZ65, hown65, gE65, gC65, gV65, gA65, lt65, ltb65, A65, -, ns65, st65⟩ := ldcCH X62 hx hZ20 hown20 (wd_44 hw) (own_wS hw) e62 hS20 hk20 (own_EW hw) (by simp [EL]) C21.1 (vs := [(.int (46 : Int32)), (.int (46 : Int32))]) (z := (2 : Int32)) (by decide +kernel) (by decide) (by decide) (g := (mkF m 10 #[.val (.ref a0)] [(.ref a0)])) rfl (d5_10 hby) (n := 8) (by decide +kernel) (by decide) (by decide) (by decide)
 refine Runs.by ?_ st65
 have C66 : CHr Z EL s.vm h0 T65.vm h65 := C21.trans A65
 have K67 : Keep h0 h65 [] := K22.ext E65
 show Runs _ _ _ _ (T65.setTop (mkF m 12 #[.val (.ref a0)] [(.ref a65), (.ref a0)]))
 have f106 : Old Z n0 h65 := (f57.ext E65)
 have f107 : Fld Z h65 a0 kc0 "coder" "B" (.int (0 : Int32)) := (f58.ext E65)
 have f108 : Fld Z h65 a0 kc0 "value" "[B" (.ref jj0) := (f59.ext E65)
 have f109 : Arv Z h65 jj0 jj1 .byte (4 : Int32) [(.int jj2), (.int jj3), (.int jj4), (.int jj5)] (.int (0 : Int32)) := (f60.ext E65)
 have ne110 : a0 ≠ a65 := (ns65 a0 (CHr.safe A65 (Nat.lt_of_lt_of_le zz7.lt E20.1) (CHr.safe A20 (Nat.lt_of_lt_of_le zz7.lt (Nat.le_refl _)) (hsf a0 (by simp))))).1
 have le111 : h0.size ≤ h65.size := (Nat.le_trans E20.1 E65.1)
 have f113 : Exa Z h65 a0 kc0 := (f63.ext E65)
 obtain ⟨cq112, kq112, q112a, q112b, q112c⟩ := isOf hZ65 e65 f113
 refine w_virtual X65 hx (y := yn_6) (z := yn_6) hown65 (mvT hZ65 (wd_33 hw)) (mvT hZ65 (wd_34 hw)) (notFace_of_selects (args := #[]) (mvT hZ65 (wd_36 hw))) (mvT hZ65 (wd_36 hw)) (mvT hZ65 (wd_35 hw)) (by decide) (backOf (W := 0) (rm_m6_88 l Z aZ hw [] a0 a65 jj6 jj0 b65 jj1 jj2 jj3 jj4 jj5 c65 h65 n0 (Nat.le_trans Z0 le111) ne110 gE65 zz10 f106 hP_1 f107 gC65 f108 gV65 f109 gA65) hZ65 (wd_37 hw) (wd_9 hw) (by decide) (by decide)) q112a q112c (by rw [hml]; rfl) [(.ref a65)] (lenOf pd_4 rfl) rfl (Nat.le_of_eq rfl) (d5_12 hby) (fun _ _ => ⟨rfl, e65, (by decide : 4 + 0 ≤ _), (by decide : 20 + 0 ≤ _)⟩) (pc' := 15) rfl ?_
 rintro _ _ ⟨T112, L112, k112, n112⟩ X112 ⟨Lc112, hQ112, l112, y112, z112⟩
 dsimp only [Pt.U, Pt.locs, Pt.cells, Pt.slots] at X112 l112 y112 z112 hQ112 ⊢
 subst l112 y112 z112
 obtain ⟨rfl, N112q, e112⟩ := hQ112
 have N114 := Fr.app N64 N112q
 show Runs _ _ _ _ (T112.setTop (mkF m 15 #[.val (.ref a0)] [(.int (0 : Int32))]))
 refine w_ifY X112 hx (d5_15 hby) (teq (by decide : (0 : Int32) = (0 : Int32))).1 (pc' := 22) (by decide) (by decide) ?_
 refine w_iconst X112 hx (d5_22 hby) (v := (0 : Int32)) rfl (pc' := 23) rfl ?_
 exact w_doneH X112 hlk (v := some (.int (0 : Int32))) e112 hh hZ65 (own_EW hw) hS65 hk65 C66 (fun h => by rw [hret] at h; cases h) (fun fs hr => retN X112 hx (t := .boolean) hret (by simp) (d5_23 hby) hr) (by decide) (by decide) (fun hsy => ⟨rfl, N114, K67⟩)
theorem ef_law (m : MethodId) (p0 : Int32) (p1 : Int32) (p2 : Int32) (p3 : Int32) (p4 : Int32)  : entryFrame m #[(.int p0), (.int p1), (.int p2), (.int p3), (.int p4)] maxLocals = mkF m 0 #[.val (.int p0), .val (.int p1), .val (.int p2), .val (.int p3), .val (.int p4), .unset, .unset, .unset, .unset, .unset, .unset, .unset, .unset] [] := by first | (simp [entryFrame, mkF, argsToLocals, Value.category, maxLocals]; done) | rfl
def Q_law (Z : State) (p0 : Int32) (p1 : Int32) (p2 : Int32) (p3 : Int32) (p4 : Int32) (G_COMPACT_STRINGS : Int32) (h0 : Heap) (n0 : Nat) (v : Option Value) (h : Heap) (L : List Loc) (S : Addr → Prop) : Prop := v = some (.int (1 : Int32)) ∧ Fr n0 L
theorem rm_law (l : Launch) (Z : State) (aZ : Array Value) (hw : ∀ d ∈ tables_1, d.before aZ Z = true) (ws : List Jvm.Cond) (p0 : Int32) (p1 : Int32) (p2 : Int32) (p3 : Int32) (p4 : Int32) (G_COMPACT_STRINGS : Int32) (h0 : Heap) (n0 : Nat) (Z0 : n0 ≤ h0.size) (S_COMPACT_STRINGS : Sta Z Z.heap kc0 "COMPACT_STRINGS" "Z" (.int G_COMPACT_STRINGS)) (O0 : Old Z n0 h0) (hP_2 : ¬ (G_COMPACT_STRINGS = (0 : Int32))) (S__assertionsDisabled : Sta Z Z.heap kc1 "$assertionsDisabled" "Z" (.int (1 : Int32))) (S_HI_BYTE_SHIFT : Sta Z Z.heap kc1 "HI_BYTE_SHIFT" "I" (.int (0 : Int32))) (S_LO_BYTE_SHIFT : Sta Z Z.heap kc1 "LO_BYTE_SHIFT" "I" (.int (8 : Int32))) :
    MetH l Z EL x code maxLocals ret ws room_1 #[(.int p0), (.int p1), (.int p2), (.int p3), (.int p4)] h0 (Q_law Z p0 p1 p2 p3 p4 G_COMPACT_STRINGS h0 n0) [] := by
 refine MetH.of (plainFor_of_name pn_0) ?_
 intro p e s m below meth c s₁ hret hx hby hml hown hnm hlk hZ X0 e0 hh hH hsf hS0 C0
 have N0 := Fr.nil n0
 rw [ef_law m p0 p1 p2 p3 p4]
 refine w_iloadN X0 hx (hb hby at_0) rfl (pc' := 1) rfl ?_
 refine w_ldcI X0 hx hZ hown (wd_0 hw) (hb hby at_1) (pc' := 3) rfl ?_
 refine w_iand X0 hx (hb hby at_3) (pc' := 4) rfl ?_
 refine w_iconst X0 hx (hb hby at_4) (v := (5 : Int32)) rfl (pc' := 5) rfl ?_
 refine w_irem X0 hx (hb hby at_5) (by decide : ¬ ((5 : Int32) = (0 : Int32))) (pc' := 6) rfl ?_
 refine w_istore X0 hx (hb hby at_6) (L' := #[.val (.int p0), .val (.int p1), .val (.int p2), .val (.int p3), .val (.int p4), .val (.int ((p0 &&& (2147483647 : Int32)) % (5 : Int32))), .unset, .unset, .unset, .unset, .unset, .unset, .unset]) rfl (pc' := 8) rfl ?_
 refine w_iloadN X0 hx (hb hby at_8) rfl (pc' := 9) rfl ?_
 refine w_static X0 hx (y := yn_1) hown (mvT hZ (wd_1 hw)) (mvT hZ (wd_2 hw)) (mvT hZ (wd_3 hw)) (mvT hZ (wd_4 hw)) (by decide) (backOf (W := 0) (rm_pick l Z aZ hw [] p1 h0 n0 Z0 ) hZ (wd_4 hw) (wd_3 hw) (by decide) (by decide)) (by rw [hml]; rfl) [(.int p1)] (lenOf pd_0 rfl) rfl (Nat.le_of_eq rfl) (hb hby at_9) (fun _ _ => ⟨rfl, e0, (by decide : 0 + 0 ≤ _), (by decide : 0 + 0 ≤ _)⟩) (pc' := 12) rfl ?_
 rintro _ _ ⟨T20, L20, k20, n20⟩ X20 ⟨Lc20, hQ20, l20, y20, z20⟩
 dsimp only [Pt.U, Pt.locs, Pt.cells, Pt.slots] at X20 l20 y20 z20 hQ20 ⊢
 subst l20 y20 z20
 obtain ⟨c_20, rfl, N20q, e20, g20_0⟩ := hQ20
 have N21 := Fr.app N0 N20q
 show Runs _ _ _ _ (T20.setTop (mkF m 12 #[.val (.int p0), .val (.int p1), .val (.int p2), .val (.int p3), .val (.int p4), .val (.int ((p0 &&& (2147483647 : Int32)) % (5 : Int32))), .unset, .unset, .unset, .unset, .unset, .unset, .unset] [(.int c_20)]))
 refine w_istore X20 hx (hb hby at_12) (L' := #[.val (.int p0), .val (.int p1), .val (.int p2), .val (.int p3), .val (.int p4), .val (.int ((p0 &&& (2147483647 : Int32)) % (5 : Int32))), .val (.int c_20), .unset, .unset, .unset, .unset, .unset, .unset]) rfl (pc' := 14) rfl ?_
 refine w_iloadN X20 hx (hb hby at_14) rfl (pc' := 15) rfl ?_
 refine w_static X20 hx (y := yn_1) hown (mvT hZ (wd_1 hw)) (mvT hZ (wd_2 hw)) (mvT hZ (wd_3 hw)) (mvT hZ (wd_4 hw)) (by decide) (backOf (W := 0) (rm_pick l Z aZ hw [] p2 h0 n0 Z0 ) hZ (wd_4 hw) (wd_3 hw) (by decide) (by decide)) (by rw [hml]; rfl) [(.int p2)] (lenOf pd_0 rfl) rfl (Nat.le_of_eq rfl) (hb hby at_15) (fun _ _ => ⟨rfl, e20, (by decide : 0 + 0 ≤ _), (by decide : 0 + 0 ≤ _)⟩) (pc' := 18) rfl ?_
 rintro _ _ ⟨T22, L22, k22, n22⟩ X22 ⟨Lc22, hQ22, l22, y22, z22⟩
 dsimp only [Pt.U, Pt.locs, Pt.cells, Pt.slots] at X22 l22 y22 z22 hQ22 ⊢
 subst l22 y22 z22
 obtain ⟨c_22, rfl, N22q, e22, g22_0⟩ := hQ22
 have N23 := Fr.app N21 N22q
 show Runs _ _ _ _ (T22.setTop (mkF m 18 #[.val (.int p0), .val (.int p1), .val (.int p2), .val (.int p3), .val (.int p4), .val (.int ((p0 &&& (2147483647 : Int32)) % (5 : Int32))), .val (.int c_20), .unset, .unset, .unset, .unset, .unset, .unset] [(.int c_22)]))
 refine w_istore X22 hx (hb hby at_18) (L' := #[.val (.int p0), .val (.int p1), .val (.int p2), .val (.int p3), .val (.int p4), .val (.int ((p0 &&& (2147483647 : Int32)) % (5 : Int32))), .val (.int c_20), .val (.int c_22), .unset, .unset, .unset, .unset, .unset]) rfl (pc' := 20) rfl ?_
 refine w_iloadN X22 hx (hb hby at_20) rfl (pc' := 21) rfl ?_
 refine w_static X22 hx (y := yn_1) hown (mvT hZ (wd_1 hw)) (mvT hZ (wd_2 hw)) (mvT hZ (wd_3 hw)) (mvT hZ (wd_4 hw)) (by decide) (backOf (W := 0) (rm_pick l Z aZ hw [] p3 h0 n0 Z0 ) hZ (wd_4 hw) (wd_3 hw) (by decide) (by decide)) (by rw [hml]; rfl) [(.int p3)] (lenOf pd_0 rfl) rfl (Nat.le_of_eq rfl) (hb hby at_21) (fun _ _ => ⟨rfl, e22, (by decide : 0 + 0 ≤ _), (by decide : 0 + 0 ≤ _)⟩) (pc' := 24) rfl ?_
 rintro _ _ ⟨T24, L24, k24, n24⟩ X24 ⟨Lc24, hQ24, l24, y24, z24⟩
 dsimp only [Pt.U, Pt.locs, Pt.cells, Pt.slots] at X24 l24 y24 z24 hQ24 ⊢
 subst l24 y24 z24
 obtain ⟨c_24, rfl, N24q, e24, g24_0⟩ := hQ24
 have N25 := Fr.app N23 N24q
 show Runs _ _ _ _ (T24.setTop (mkF m 24 #[.val (.int p0), .val (.int p1), .val (.int p2), .val (.int p3), .val (.int p4), .val (.int ((p0 &&& (2147483647 : Int32)) % (5 : Int32))), .val (.int c_20), .val (.int c_22), .unset, .unset, .unset, .unset, .unset] [(.int c_24)]))
 refine w_istore X24 hx (hb hby at_24) (L' := #[.val (.int p0), .val (.int p1), .val (.int p2), .val (.int p3), .val (.int p4), .val (.int ((p0 &&& (2147483647 : Int32)) % (5 : Int32))), .val (.int c_20), .val (.int c_22), .val (.int c_24), .unset, .unset, .unset, .unset]) rfl (pc' := 26) rfl ?_
 refine w_iload X24 hx (hb hby at_26) rfl (pc' := 28) rfl ?_
 refine w_static X24 hx (y := yn_1) hown (mvT hZ (wd_1 hw)) (mvT hZ (wd_2 hw)) (mvT hZ (wd_3 hw)) (mvT hZ (wd_4 hw)) (by decide) (backOf (W := 0) (rm_pick l Z aZ hw [] p4 h0 n0 Z0 ) hZ (wd_4 hw) (wd_3 hw) (by decide) (by decide)) (by rw [hml]; rfl) [(.int p4)] (lenOf pd_0 rfl) rfl (Nat.le_of_eq rfl) (hb hby at_28) (fun _ _ => ⟨rfl, e24, (by decide : 0 + 0 ≤ _), (by decide : 0 + 0 ≤ _)⟩) (pc' := 31) rfl ?_
 rintro _ _ ⟨T26, L26, k26, n26⟩ X26 ⟨Lc26, hQ26, l26, y26, z26⟩
 dsimp only [Pt.U, Pt.locs, Pt.cells, Pt.slots] at X26 l26 y26 z26 hQ26 ⊢
 subst l26 y26 z26
 obtain ⟨c_26, rfl, N26q, e26, g26_0⟩ := hQ26
 have N27 := Fr.app N25 N26q
 show Runs _ _ _ _ (T26.setTop (mkF m 31 #[.val (.int p0), .val (.int p1), .val (.int p2), .val (.int p3), .val (.int p4), .val (.int ((p0 &&& (2147483647 : Int32)) % (5 : Int32))), .val (.int c_20), .val (.int c_22), .val (.int c_24), .unset, .unset, .unset, .unset] [(.int c_26)]))
 refine w_istore X26 hx (hb hby at_31) (L' := #[.val (.int p0), .val (.int p1), .val (.int p2), .val (.int p3), .val (.int p4), .val (.int ((p0 &&& (2147483647 : Int32)) % (5 : Int32))), .val (.int c_20), .val (.int c_22), .val (.int c_24), .val (.int c_26), .unset, .unset, .unset]) rfl (pc' := 33) rfl ?_
 refine w_iload X26 hx (hb hby at_33) rfl (pc' := 35) rfl ?_
 by_cases hc28 : ((p0 &&& (2147483647 : Int32)) % (5 : Int32)) = (0 : Int32)
 · refine w_ifN X26 hx (hb hby at_35) (teq hc28).2 (pc' := 38) rfl ?_
   refine w_iconst X26 hx (hb hby at_38) (v := (0 : Int32)) rfl (pc' := 39) rfl ?_
   refine w_newP X26 hx .char .char 0 rfl hZ (wd_6 hw) e26 (hb hby at_39) (by decide) (by decide) (by decide) (by decide) (by decide) (pc' := 41) rfl ?_
   intro T29 h29 k29 b29 X29 e29 E29 g29 A29
   have ge30 : n0 ≤ b29 := Nat.le_trans Z0 (Nat.le_of_eq g29.symm)
   have sz31 : h0.size ≤ b29 := Nat.le_trans (Nat.le_refl _) (Nat.le_of_eq g29.symm)
   have C32 : CHr Z EL s.vm h0 s.vm h29 := C0.trans (CHr.ext E29 C0.1)
   have K33 : Keep h0 h29 [] := (Keep.refl h0 []).ext E29
   have V34 : Arv Z h29 b29 k29 .char (0 : Int32) [] (.int (0 : Int32)) := (Arv.new A29 (by decide)).pad (pad_rep [] (.int (0 : Int32)) 0)
   refine w_astore X29 hx (hb hby at_41) rfl (L' := #[.val (.int p0), .val (.int p1), .val (.int p2), .val (.int p3), .val (.int p4), .val (.int ((p0 &&& (2147483647 : Int32)) % (5 : Int32))), .val (.int c_20), .val (.int c_22), .val (.int c_24), .val (.int c_26), .val (.ref b29), .unset, .unset]) rfl (pc' := 43) rfl ?_
   refine w_goto X29 hx (hb hby at_43) (pc' := 143) (by decide) (by decide) ?_
   refine w_new X29 hx hZ hown (wd_7 hw) (wd_8 hw) (wd_9 hw) e29 (hb hby at_143) (by decide) (by decide) (pc' := 146) rfl ?_
   intro T35 h35 b35 X35 e35 E35 g35 A35 D35
   have ge36 : n0 ≤ b35 := Nat.le_trans (Nat.le_trans Z0 E29.1) (Nat.le_of_eq g35.symm)
   have sz37 : h0.size ≤ b35 := Nat.le_trans E29.1 (Nat.le_of_eq g35.symm)
   have C38 : CHr Z EL s.vm h0 s.vm h35 := C32.trans (CHr.ext E35 C32.1)
   have K39 : Keep h0 h35 [] := K33.ext E35
   have f40 : Fld Z h35 b35 kc0 "value" "[B" .null := D35 (Or.inr (wd_22 hw)) (ty := (.array .byte)) (by decide)
   have f41 : Fld Z h35 b35 kc0 "coder" "B" (.int (0 : Int32)) := D35 (Or.inr (wd_23 hw)) (ty := .byte) (by decide)
   refine w_dup X35 hx (hb hby at_146) rfl (pc' := 147) rfl ?_
   refine w_aload X35 hx (hb hby at_147) rfl rfl (pc' := 149) rfl ?_
   have f42 : Arv Z h35 b29 k29 .char (0 : Int32) [] (.int (0 : Int32)) := (V34.ext E35)
   have le43 : h0.size ≤ h35.size := (Nat.le_trans E29.1 E35.1)
   have y45 : Safe Z EL s.vm h35 b35 := (Safe.ext E35 C32.1 (Safe.new (Nat.le_of_eq g35.symm)))
   refine w_specialS X35 hx (y := yn_2) rfl hown (mvT hZ (wd_10 hw)) (mvT hZ (wd_11 hw)) (mvT hZ (wd_12 hw)) (by decide) (backOfY (W := 1) (rm_m2_2 l Z aZ hw [] b35 b29 k29 h35 n0 (Nat.le_trans Z0 le43) f42 A35 f40 f41 ge36) hZ (wd_12 hw) (wd_9 hw) (by decide) (by decide) (own_EW hw) C38.1 (sfS y45 sf0) (allS (Nat.lt_of_lt_of_le A35.lt (Nat.le_refl _)) all0)) (by rw [hml]; rfl) [(.ref b29)] (lenOf pd_2 rfl) rfl (Nat.le_of_eq rfl) (hb hby at_149) (fun _ _ => ⟨rfl, e35, (by decide : 2 + 4 ≤ _), (by decide : 4 + 8 ≤ _)⟩) (pc' := 152) rfl ?_
   rintro _ _ ⟨T44, L44, k44, n44⟩ XX44 hSS44 hg44 ⟨Lc44, hQ44, l44, y44, z44, A44⟩
   dsimp only [Pt.U, Pt.locs, Pt.cells, Pt.slots] at XX44 l44 y44 z44 hQ44 hSS44 hg44 A44 ⊢
   subst l44 y44 z44
   obtain ⟨X44, hS44, hZ44, hown44⟩ := rebS hS0 (Nat.le_trans (Nat.le_refl _) le43) XX44 hSS44 (e35 ▸ hg44) hZ hown
   obtain ⟨r0_44, c0_44, rfl, N44q, K44, g44_0, g44_1, g44_2, g44_3⟩ := hQ44
   have N46 := Fr.app N27 N44q
   have C47 : CHr Z EL s.vm h0 T44.vm T44.heap := C38.trans A44
   have K48 : Keep h0 T44.heap [] := K39.trans K44 (allS (Or.inr sz37) (all0 (P := fun x => x ∈ [] ∨ h0.size ≤ x)))
   show Runs _ _ _ _ (T44.setTop (mkF m 152 #[.val (.int p0), .val (.int p1), .val (.int p2), .val (.int p3), .val (.int p4), .val (.int ((p0 &&& (2147483647 : Int32)) % (5 : Int32))), .val (.int c_20), .val (.int c_22), .val (.int c_24), .val (.int c_26), .val (.ref b29), .unset, .unset] [(.ref b35)]))
   refine w_astore X44 hx (hb hby at_152) rfl (L' := #[.val (.int p0), .val (.int p1), .val (.int p2), .val (.int p3), .val (.int p4), .val (.int ((p0 &&& (2147483647 : Int32)) % (5 : Int32))), .val (.int c_20), .val (.int c_22), .val (.int c_24), .val (.int c_26), .val (.ref b29), .val (.ref b35), .unset]) rfl (pc' := 154) rfl ?_
   refine w_iload X44 hx (hb hby at_154) rfl (pc' := 156) rfl ?_
   refine w_iconst X44 hx (hb hby at_156) (v := (1 : Int32)) rfl (pc' := 157) rfl ?_
   refine w_icY X44 hx (hb hby at_157) (feq (show ¬ (((p0 &&& (2147483647 : Int32)) % (5 : Int32)) = (1 : Int32)) from by rw [hc28]; decide)).2 (pc' := 167) (by decide) (by decide) ?_
   refine w_iload X44 hx (hb hby at_167) rfl (pc' := 169) rfl ?_
   refine w_iconst X44 hx (hb hby at_169) (v := (2 : Int32)) rfl (pc' := 170) rfl ?_
   refine w_icY X44 hx (hb hby at_170) (feq (show ¬ (((p0 &&& (2147483647 : Int32)) % (5 : Int32)) = (2 : Int32)) from by rw [hc28]; decide)).2 (pc' := 191) (by decide) (by decide) ?_
   refine w_iconst X44 hx (hb hby at_191) (v := (0 : Int32)) rfl (pc' := 192) rfl ?_
   refine w_istore X44 hx (hb hby at_192) (L' := #[.val (.int p0), .val (.int p1), .val (.int p2), .val (.int p3), .val (.int p4), .val (.int ((p0 &&& (2147483647 : Int32)) % (5 : Int32))), .val (.int c_20), .val (.int c_22), .val (.int c_24), .val (.int c_26), .val (.ref b29), .val (.ref b35), .val (.int (0 : Int32))]) rfl (pc' := 194) rfl ?_
   refine w_aload X44 hx (hb hby at_194) rfl rfl (pc' := 196) rfl ?_
   have f49 : Old Z n0 T44.heap := (((O0.ext E29).ext E35).keep K44 (allS ge36 all0))
   have le50 : h0.size ≤ T44.heap.size := (Nat.le_trans le43 K44.1)
   have y52 : Safe Z EL T44.vm T44.heap b35 := (CHr.safe A44 (Nat.lt_of_lt_of_le A35.lt (Nat.le_refl _)) y45)
   refine w_staticS X44 hx (y := yn_5) hown44 (mvT hZ44 (wd_28 hw)) (mvT hZ44 (wd_29 hw)) (mvT hZ44 (wd_30 hw)) (mvT hZ44 (wd_31 hw)) (by decide) (backOfY (W := 0) (rm_m5_4 l Z aZ hw [] b35 r0_44 c0_44 G_COMPACT_STRINGS T44.heap n0 (Nat.le_trans Z0 le50) g44_1 hP_2 g44_3 g44_2 g44_0 S_COMPACT_STRINGS f49) hZ44 (wd_31 hw) (wd_30 hw) (by decide) (by decide) (own_EW hw) C47.1 (sfS y52 sf0) (allS (Nat.lt_of_lt_of_le A35.lt K44.1) all0)) (by rw [hml]; rfl) [(.ref b35)] (lenOf pd_5 rfl) rfl (Nat.le_of_eq rfl) (hb hby at_196) (fun _ _ => ⟨rfl, rfl, (by decide : 6 + 4 ≤ _), (by decide : 12 + 20 ≤ _)⟩) (pc' := 199) rfl ?_
   rintro _ _ ⟨T51, L51, k51, n51⟩ XX51 hSS51 hg51 ⟨Lc51, hQ51, l51, y51, z51, A51⟩
   dsimp only [Pt.U, Pt.locs, Pt.cells, Pt.slots] at XX51 l51 y51 z51 hQ51 hSS51 hg51 A51 ⊢
   subst l51 y51 z51
   obtain ⟨X51, hS51, hZ51, hown51⟩ := rebS hS44 (Nat.le_refl _) XX51 hSS51 hg51 hZ44 hown44
   obtain ⟨rfl, N51q, K51⟩ := hQ51
   have N53 := Fr.app N46 N51q
   have C54 : CHr Z EL s.vm h0 T51.vm T51.heap := C47.trans A51
   have K55 : Keep h0 T51.heap [] := K48.trans K51 (all0 (P := fun x => x ∈ [] ∨ h0.size ≤ x))
   show Runs _ _ _ _ (T51.setTop (mkF m 199 #[.val (.int p0), .val (.int p1), .val (.int p2), .val (.int p3), .val (.int p4), .val (.int ((p0 &&& (2147483647 : Int32)) % (5 : Int32))), .val (.int c_20), .val (.int c_22), .val (.int c_24), .val (.int c_26), .val (.ref b29), .val (.ref b35), .val (.int (0 : Int32))] [(.int (0 : Int32))]))
   refine w_iload X51 hx (hb hby at_199) rfl (pc' := 201) rfl ?_
   refine w_icN X51 hx (hb hby at_201) (teq (by decide : (0 : Int32) = (0 : Int32))).2 (pc' := 204) rfl ?_
   refine w_iconst X51 hx (hb hby at_204) (v := (1 : Int32)) rfl (pc' := 205) rfl ?_
   refine w_goto X51 hx (hb hby at_205) (pc' := 209) (by decide) (by decide) ?_
   exact w_doneH X51 hlk (v := some (.int (1 : Int32))) rfl hh hZ51 (own_EW hw) hS51 (Nat.le_refl _) C54 (fun h => by rw [hret] at h; cases h) (fun fs hr => retN X51 hx (t := .boolean) hret (by simp) (hb hby at_209) hr) (by decide) (by decide) (fun hsy => ⟨rfl, N53⟩)
 · refine w_ifY X26 hx (hb hby at_35) (feq hc28).2 (pc' := 46) (by decide) (by decide) ?_
   refine w_iload X26 hx (hb hby at_46) rfl (pc' := 48) rfl ?_
   refine w_iconst X26 hx (hb hby at_48) (v := (1 : Int32)) rfl (pc' := 49) rfl ?_
   by_cases hc56 : ((p0 &&& (2147483647 : Int32)) % (5 : Int32)) = (1 : Int32)
   · refine w_icN X26 hx (hb hby at_49) (teq hc56).2 (pc' := 52) rfl ?_
     refine w_iconst X26 hx (hb hby at_52) (v := (1 : Int32)) rfl (pc' := 53) rfl ?_
     refine w_newP X26 hx .char .char 1 rfl hZ (wd_6 hw) e26 (hb hby at_53) (by decide) (by decide) (by decide) (by decide) (by decide) (pc' := 55) rfl ?_
     intro T57 h57 k57 b57 X57 e57 E57 g57 A57
     have ge58 : n0 ≤ b57 := Nat.le_trans Z0 (Nat.le_of_eq g57.symm)
     have sz59 : h0.size ≤ b57 := Nat.le_trans (Nat.le_refl _) (Nat.le_of_eq g57.symm)
     have C60 : CHr Z EL s.vm h0 s.vm h57 := C0.trans (CHr.ext E57 C0.1)
     have K61 : Keep h0 h57 [] := (Keep.refl h0 []).ext E57
     have V62 : Arv Z h57 b57 k57 .char (1 : Int32) [(.int (0 : Int32))] (.int (0 : Int32)) := (Arv.new A57 (by decide)).pad (pad_rep [] (.int (0 : Int32)) 1)
     refine w_dup X57 hx (hb hby at_55) rfl (pc' := 56) rfl ?_
     refine w_iconst X57 hx (hb hby at_56) (v := (0 : Int32)) rfl (pc' := 57) rfl ?_
     refine w_iload X57 hx (hb hby at_57) rfl (pc' := 59) rfl ?_
     obtain ⟨clu63, Aru63, qu63, Su63, Nu63, Hu63, Gu63⟩ := id V62
     have hinu63 := inb_of (j := (0 : Int32)) Su63 ⟨by decide, by decide⟩
     refine w_stC X57 hx hZ e57 Aru63 hinu63 (hb hby at_59) (pc' := 60) rfl ?_
     intro T64 h64 X64 e64 W64
     have C65 : CHr Z EL s.vm h0 s.vm h64 := C60.trans (CHr.wr W64 (Safe.arv hZ.alike V62 (by decide)) C60.1)
     have V66 : Arv Z h64 b57 k57 .char (1 : Int32) [(.int (nar .char c_20))] (.int (0 : Int32)) := Arv.set Aru63 qu63 Su63 Nu63 Hu63 Gu63 (fits_nar_char _) W64 0 rfl (Nat.le_of_ble_eq_true rfl)
     have V67 : Arv Z h64 b57 k57 .char (1 : Int32) [(.int c_20)] (.int (0 : Int32)) := by rw [g20_0] at V66; exact V66
     have K68 : Keep h0 h64 [] := K61.wr W64 (Or.inr sz59)
     have N69 := Fr.snoc X64 N27 ge58
     refine w_astore X64 hx (hb hby at_60) rfl (L' := #[.val (.int p0), .val (.int p1), .val (.int p2), .val (.int p3), .val (.int p4), .val (.int ((p0 &&& (2147483647 : Int32)) % (5 : Int32))), .val (.int c_20), .val (.int c_22), .val (.int c_24), .val (.int c_26), .val (.ref b57), .unset, .unset]) rfl (pc' := 62) rfl ?_
     refine w_goto X64 hx (hb hby at_62) (pc' := 143) (by decide) (by decide) ?_
     refine w_new X64 hx hZ hown (wd_7 hw) (wd_8 hw) (wd_9 hw) e64 (hb hby at_143) (by decide) (by decide) (pc' := 146) rfl ?_
     intro T70 h70 b70 X70 e70 E70 g70 A70 D70
     have le72 : h0.size ≤ h64.size := (Nat.le_trans E57.1 (Keep.of_wr W64).1)
     have ge71 : n0 ≤ b70 := Nat.le_trans (Nat.le_trans Z0 le72) (Nat.le_of_eq g70.symm)
     have sz73 : h0.size ≤ b70 := Nat.le_trans le72 (Nat.le_of_eq g70.symm)
     have C74 : CHr Z EL s.vm h0 s.vm h70 := C65.trans (CHr.ext E70 C65.1)
     have K75 : Keep h0 h70 [] := K68.ext E70
     have f76 : Fld Z h70 b70 kc0 "value" "[B" .null := D70 (Or.inr (wd_22 hw)) (ty := (.array .byte)) (by decide)
     have f77 : Fld Z h70 b70 kc0 "coder" "B" (.int (0 : Int32)) := D70 (Or.inr (wd_23 hw)) (ty := .byte) (by decide)
     refine w_dup X70 hx (hb hby at_146) rfl (pc' := 147) rfl ?_
     refine w_aload X70 hx (hb hby at_147) rfl rfl (pc' := 149) rfl ?_
     have f78 : Arv Z h70 b57 k57 .char (1 : Int32) [(.int c_20)] (.int (0 : Int32)) := (V67.ext E70)
     have f79 : Old Z n0 h70 := (((O0.ext E57).wr W64 ge58).ext E70)
     have le80 : h0.size ≤ h70.size := (Nat.le_trans le72 E70.1)
     refine w_special X70 hx (y := yn_2) rfl hown (mvT hZ (wd_10 hw)) (mvT hZ (wd_11 hw)) (mvT hZ (wd_12 hw)) (by decide) (backOf (W := 1) (rm_m2_9 l Z aZ hw [] b70 b57 k57 c_20 G_COMPACT_STRINGS h70 n0 (Nat.le_trans Z0 le80) f78 hP_2 g20_0 A70 f77 f76 S_COMPACT_STRINGS f79 S__assertionsDisabled S_HI_BYTE_SHIFT S_LO_BYTE_SHIFT ge71) hZ (wd_12 hw) (wd_9 hw) (by decide) (by decide)) (by rw [hml]; rfl) [(.ref b57)] (lenOf pd_2 rfl) rfl (Nat.le_of_eq rfl) (hb hby at_149) (fun _ _ => ⟨rfl, e70, (by decide : 2 + 2 ≤ _), (by decide : 5 + 3 ≤ _)⟩) (pc' := 152) rfl ?_
     rintro _ _ ⟨T81, L81, k81, n81⟩ X81 ⟨Lc81, hQ81, l81, y81, z81⟩
     dsimp only [Pt.U, Pt.locs, Pt.cells, Pt.slots] at X81 l81 y81 z81 hQ81 ⊢
     subst l81 y81 z81
     rcases hQ81 with ⟨t_81, kb_81, rfl, N81q, K81, g81_0, g81_1, g81_2, g81_3, g81_4, g81_5⟩ | ⟨t_81, kb_81, rfl, N81q, K81, g81_0, g81_1, g81_2, g81_3, g81_4, g81_5⟩
     · have N82 := Fr.app N69 N81q
       have y83 : Safe Z EL s.vm h70 b70 := (Safe.ext E70 C65.1 (Safe.new (Nat.le_of_eq g70.symm)))
       have C84 : CHr Z EL s.vm h0 s.vm T81.heap := C74.trans (CHr.keep K81 (sfS y83 sf0) C74.1)
       have K85 : Keep h0 T81.heap [] := K75.trans K81 (allS (Or.inr sz73) (all0 (P := fun x => x ∈ [] ∨ h0.size ≤ x)))
       have ge86 : n0 ≤ t_81 := Nat.le_trans (Nat.le_trans Z0 le80) g81_3
       have sz87 : h0.size ≤ t_81 := Nat.le_trans le80 g81_3
       show Runs _ _ _ _ (T81.setTop (mkF m 152 #[.val (.int p0), .val (.int p1), .val (.int p2), .val (.int p3), .val (.int p4), .val (.int ((p0 &&& (2147483647 : Int32)) % (5 : Int32))), .val (.int c_20), .val (.int c_22), .val (.int c_24), .val (.int c_26), .val (.ref b57), .unset, .unset] [(.ref b70)]))
       refine w_astore X81 hx (hb hby at_152) rfl (L' := #[.val (.int p0), .val (.int p1), .val (.int p2), .val (.int p3), .val (.int p4), .val (.int ((p0 &&& (2147483647 : Int32)) % (5 : Int32))), .val (.int c_20), .val (.int c_22), .val (.int c_24), .val (.int c_26), .val (.ref b57), .val (.ref b70), .unset]) rfl (pc' := 154) rfl ?_
       refine w_iload X81 hx (hb hby at_154) rfl (pc' := 156) rfl ?_
       refine w_iconst X81 hx (hb hby at_156) (v := (1 : Int32)) rfl (pc' := 157) rfl ?_
       refine w_icN X81 hx (hb hby at_157) (teq hc56).2 (pc' := 160) rfl ?_
       refine w_iload X81 hx (hb hby at_160) rfl (pc' := 162) rfl ?_
       refine w_bipush X81 hx (hb hby at_162) (v := (46 : Int32)) rfl (pc' := 164) rfl ?_
       by_cases hc88 : c_20 = (46 : Int32)
       · refine w_icY X81 hx (hb hby at_164) (teq hc88).1 (pc' := 187) (by decide) (by decide) ?_
         refine w_iconst X81 hx (hb hby at_187) (v := (1 : Int32)) rfl (pc' := 188) rfl ?_
         refine w_goto X81 hx (hb hby at_188) (pc' := 192) (by decide) (by decide) ?_
         refine w_istore X81 hx (hb hby at_192) (L' := #[.val (.int p0), .val (.int p1), .val (.int p2), .val (.int p3), .val (.int p4), .val (.int ((p0 &&& (2147483647 : Int32)) % (5 : Int32))), .val (.int c_20), .val (.int c_22), .val (.int c_24), .val (.int c_26), .val (.ref b57), .val (.ref b70), .val (.int (1 : Int32))]) rfl (pc' := 194) rfl ?_
         refine w_aload X81 hx (hb hby at_194) rfl rfl (pc' := 196) rfl ?_
         have f89 : Old Z n0 T81.heap := (f79.keep K81 (allS ge71 all0))
         have le90 : h0.size ≤ T81.heap.size := (Nat.le_trans le80 K81.1)
         have y92 : Safe Z EL s.vm T81.heap b70 := (Safe.keep K81 (sfS y83 sf0) C74.1 y83)
         refine w_staticS X81 hx (y := yn_5) hown (mvT hZ (wd_28 hw)) (mvT hZ (wd_29 hw)) (mvT hZ (wd_30 hw)) (mvT hZ (wd_31 hw)) (by decide) (backOfY (W := 0) (rm_m5_20 l Z aZ hw [] b70 t_81 kb_81 (c_20.toInt8.toInt32) G_COMPACT_STRINGS T81.heap n0 (Nat.le_trans Z0 le90) g81_0 hP_2 g81_1 g81_2 g81_4 (show (c_20.toInt8.toInt32) = (46 : Int32) from by rw [hc88]; decide) S_COMPACT_STRINGS f89) hZ (wd_31 hw) (wd_30 hw) (by decide) (by decide) (own_EW hw) C84.1 (sfS y92 sf0) (allS (Nat.lt_of_lt_of_le A70.lt K81.1) all0)) (by rw [hml]; rfl) [(.ref b70)] (lenOf pd_5 rfl) rfl (Nat.le_of_eq rfl) (hb hby at_196) (fun _ _ => ⟨rfl, rfl, (by decide : 4 + 2 ≤ _), (by decide : 8 + 8 ≤ _)⟩) (pc' := 199) rfl ?_
         rintro _ _ ⟨T91, L91, k91, n91⟩ XX91 hSS91 hg91 ⟨Lc91, hQ91, l91, y91, z91, A91⟩
         dsimp only [Pt.U, Pt.locs, Pt.cells, Pt.slots] at XX91 l91 y91 z91 hQ91 hSS91 hg91 A91 ⊢
         subst l91 y91 z91
         obtain ⟨X91, hS91, hZ91, hown91⟩ := rebS hS0 (Nat.le_trans (Nat.le_refl _) le90) XX91 hSS91 hg91 hZ hown
         obtain ⟨rfl, N91q, K91⟩ := hQ91
         have N93 := Fr.app N82 N91q
         have C94 : CHr Z EL s.vm h0 T91.vm T91.heap := C84.trans A91
         have K95 : Keep h0 T91.heap [] := K85.trans K91 (all0 (P := fun x => x ∈ [] ∨ h0.size ≤ x))
         show Runs _ _ _ _ (T91.setTop (mkF m 199 #[.val (.int p0), .val (.int p1), .val (.int p2), .val (.int p3), .val (.int p4), .val (.int ((p0 &&& (2147483647 : Int32)) % (5 : Int32))), .val (.int c_20), .val (.int c_22), .val (.int c_24), .val (.int c_26), .val (.ref b57), .val (.ref b70), .val (.int (1 : Int32))] [(.int (1 : Int32))]))
         refine w_iload X91 hx (hb hby at_199) rfl (pc' := 201) rfl ?_
         refine w_icN X91 hx (hb hby at_201) (teq (by decide : (1 : Int32) = (1 : Int32))).2 (pc' := 204) rfl ?_
         refine w_iconst X91 hx (hb hby at_204) (v := (1 : Int32)) rfl (pc' := 205) rfl ?_
         refine w_goto X91 hx (hb hby at_205) (pc' := 209) (by decide) (by decide) ?_
         exact w_doneH X91 hlk (v := some (.int (1 : Int32))) rfl hh hZ91 (own_EW hw) hS91 (Nat.le_refl _) C94 (fun h => by rw [hret] at h; cases h) (fun fs hr => retN X91 hx (t := .boolean) hret (by simp) (hb hby at_209) hr) (by decide) (by decide) (fun hsy => ⟨rfl, N93⟩)
       · refine w_icN X81 hx (hb hby at_164) (feq hc88).1 (pc' := 167) rfl ?_
         refine w_iload X81 hx (hb hby at_167) rfl (pc' := 169) rfl ?_
         refine w_iconst X81 hx (hb hby at_169) (v := (2 : Int32)) rfl (pc' := 170) rfl ?_
         refine w_icY X81 hx (hb hby at_170) (feq (show ¬ (((p0 &&& (2147483647 : Int32)) % (5 : Int32)) = (2 : Int32)) from by rw [hc56]; decide)).2 (pc' := 191) (by decide) (by decide) ?_
         refine w_iconst X81 hx (hb hby at_191) (v := (0 : Int32)) rfl (pc' := 192) rfl ?_
         refine w_istore X81 hx (hb hby at_192) (L' := #[.val (.int p0), .val (.int p1), .val (.int p2), .val (.int p3), .val (.int p4), .val (.int ((p0 &&& (2147483647 : Int32)) % (5 : Int32))), .val (.int c_20), .val (.int c_22), .val (.int c_24), .val (.int c_26), .val (.ref b57), .val (.ref b70), .val (.int (0 : Int32))]) rfl (pc' := 194) rfl ?_
         refine w_aload X81 hx (hb hby at_194) rfl rfl (pc' := 196) rfl ?_
         have f97 : Old Z n0 T81.heap := (f79.keep K81 (allS ge71 all0))
         have le98 : h0.size ≤ T81.heap.size := (Nat.le_trans le80 K81.1)
         have y100 : Safe Z EL s.vm T81.heap b70 := (Safe.keep K81 (sfS y83 sf0) C74.1 y83)
         refine w_staticS X81 hx (y := yn_5) hown (mvT hZ (wd_28 hw)) (mvT hZ (wd_29 hw)) (mvT hZ (wd_30 hw)) (mvT hZ (wd_31 hw)) (by decide) (backOfY (W := 0) (rm_m5_23 l Z aZ hw [] b70 t_81 kb_81 (c_20.toInt8.toInt32) G_COMPACT_STRINGS T81.heap n0 (Nat.le_trans Z0 le98) g81_0 hP_2 g81_1 g81_2 g81_4 (fun q => hc88 (own_low g20_0 g81_5 (by decide) (by decide) q)) S_COMPACT_STRINGS f97) hZ (wd_31 hw) (wd_30 hw) (by decide) (by decide) (own_EW hw) C84.1 (sfS y100 sf0) (allS (Nat.lt_of_lt_of_le A70.lt K81.1) all0)) (by rw [hml]; rfl) [(.ref b70)] (lenOf pd_5 rfl) rfl (Nat.le_of_eq rfl) (hb hby at_196) (fun _ _ => ⟨rfl, rfl, (by decide : 4 + 4 ≤ _), (by decide : 8 + 20 ≤ _)⟩) (pc' := 199) rfl ?_
         rintro _ _ ⟨T99, L99, k99, n99⟩ XX99 hSS99 hg99 ⟨Lc99, hQ99, l99, y99, z99, A99⟩
         dsimp only [Pt.U, Pt.locs, Pt.cells, Pt.slots] at XX99 l99 y99 z99 hQ99 hSS99 hg99 A99 ⊢
         subst l99 y99 z99
         obtain ⟨X99, hS99, hZ99, hown99⟩ := rebS hS0 (Nat.le_trans (Nat.le_refl _) le98) XX99 hSS99 hg99 hZ hown
         obtain ⟨rfl, N99q, K99⟩ := hQ99
         have N101 := Fr.app N82 N99q
         have C102 : CHr Z EL s.vm h0 T99.vm T99.heap := C84.trans A99
         have K103 : Keep h0 T99.heap [] := K85.trans K99 (all0 (P := fun x => x ∈ [] ∨ h0.size ≤ x))
         show Runs _ _ _ _ (T99.setTop (mkF m 199 #[.val (.int p0), .val (.int p1), .val (.int p2), .val (.int p3), .val (.int p4), .val (.int ((p0 &&& (2147483647 : Int32)) % (5 : Int32))), .val (.int c_20), .val (.int c_22), .val (.int c_24), .val (.int c_26), .val (.ref b57), .val (.ref b70), .val (.int (0 : Int32))] [(.int (0 : Int32))]))
         refine w_iload X99 hx (hb hby at_199) rfl (pc' := 201) rfl ?_
         refine w_icN X99 hx (hb hby at_201) (teq (by decide : (0 : Int32) = (0 : Int32))).2 (pc' := 204) rfl ?_
         refine w_iconst X99 hx (hb hby at_204) (v := (1 : Int32)) rfl (pc' := 205) rfl ?_
         refine w_goto X99 hx (hb hby at_205) (pc' := 209) (by decide) (by decide) ?_
         exact w_doneH X99 hlk (v := some (.int (1 : Int32))) rfl hh hZ99 (own_EW hw) hS99 (Nat.le_refl _) C102 (fun h => by rw [hret] at h; cases h) (fun fs hr => retN X99 hx (t := .boolean) hret (by simp) (hb hby at_209) hr) (by decide) (by decide) (fun hsy => ⟨rfl, N101⟩)
     · have N104 := Fr.app N69 N81q
       have y105 : Safe Z EL s.vm h70 b70 := (Safe.ext E70 C65.1 (Safe.new (Nat.le_of_eq g70.symm)))
       have C106 : CHr Z EL s.vm h0 s.vm T81.heap := C74.trans (CHr.keep K81 (sfS y105 sf0) C74.1)
       have K107 : Keep h0 T81.heap [] := K75.trans K81 (allS (Or.inr sz73) (all0 (P := fun x => x ∈ [] ∨ h0.size ≤ x)))
       have ge108 : n0 ≤ t_81 := Nat.le_trans (Nat.le_trans Z0 le80) g81_3
       have sz109 : h0.size ≤ t_81 := Nat.le_trans le80 g81_3
       show Runs _ _ _ _ (T81.setTop (mkF m 152 #[.val (.int p0), .val (.int p1), .val (.int p2), .val (.int p3), .val (.int p4), .val (.int ((p0 &&& (2147483647 : Int32)) % (5 : Int32))), .val (.int c_20), .val (.int c_22), .val (.int c_24), .val (.int c_26), .val (.ref b57), .unset, .unset] [(.ref b70)]))
       refine w_astore X81 hx (hb hby at_152) rfl (L' := #[.val (.int p0), .val (.int p1), .val (.int p2), .val (.int p3), .val (.int p4), .val (.int ((p0 &&& (2147483647 : Int32)) % (5 : Int32))), .val (.int c_20), .val (.int c_22), .val (.int c_24), .val (.int c_26), .val (.ref b57), .val (.ref b70), .unset]) rfl (pc' := 154) rfl ?_
       refine w_iload X81 hx (hb hby at_154) rfl (pc' := 156) rfl ?_
       refine w_iconst X81 hx (hb hby at_156) (v := (1 : Int32)) rfl (pc' := 157) rfl ?_
       refine w_icN X81 hx (hb hby at_157) (teq hc56).2 (pc' := 160) rfl ?_
       refine w_iload X81 hx (hb hby at_160) rfl (pc' := 162) rfl ?_
       refine w_bipush X81 hx (hb hby at_162) (v := (46 : Int32)) rfl (pc' := 164) rfl ?_
       by_cases hc110 : c_20 = (46 : Int32)
       · refine w_icY X81 hx (hb hby at_164) (teq hc110).1 (pc' := 187) (by decide) (by decide) ?_
         refine w_iconst X81 hx (hb hby at_187) (v := (1 : Int32)) rfl (pc' := 188) rfl ?_
         refine w_goto X81 hx (hb hby at_188) (pc' := 192) (by decide) (by decide) ?_
         refine w_istore X81 hx (hb hby at_192) (L' := #[.val (.int p0), .val (.int p1), .val (.int p2), .val (.int p3), .val (.int p4), .val (.int ((p0 &&& (2147483647 : Int32)) % (5 : Int32))), .val (.int c_20), .val (.int c_22), .val (.int c_24), .val (.int c_26), .val (.ref b57), .val (.ref b70), .val (.int (1 : Int32))]) rfl (pc' := 194) rfl ?_
         refine w_aload X81 hx (hb hby at_194) rfl rfl (pc' := 196) rfl ?_
         have f111 : Old Z n0 T81.heap := (f79.keep K81 (allS ge71 all0))
         have le112 : h0.size ≤ T81.heap.size := (Nat.le_trans le80 K81.1)
         have y114 : Safe Z EL s.vm T81.heap b70 := (Safe.keep K81 (sfS y105 sf0) C74.1 y105)
         refine w_staticS X81 hx (y := yn_5) hown (mvT hZ (wd_28 hw)) (mvT hZ (wd_29 hw)) (mvT hZ (wd_30 hw)) (mvT hZ (wd_31 hw)) (by decide) (backOfY (W := 0) (rm_m5_28 l Z aZ hw [] b70 G_COMPACT_STRINGS T81.heap n0 (Nat.le_trans Z0 le112) g81_0 hP_2 g81_1 S_COMPACT_STRINGS f111) hZ (wd_31 hw) (wd_30 hw) (by decide) (by decide) (own_EW hw) C106.1 (sfS y114 sf0) (allS (Nat.lt_of_lt_of_le A70.lt K81.1) all0)) (by rw [hml]; rfl) [(.ref b70)] (lenOf pd_5 rfl) rfl (Nat.le_of_eq rfl) (hb hby at_196) (fun _ _ => ⟨rfl, rfl, (by decide : 4 + 4 ≤ _), (by decide : 8 + 20 ≤ _)⟩) (pc' := 199) rfl ?_
         rintro _ _ ⟨T113, L113, k113, n113⟩ XX113 hSS113 hg113 ⟨Lc113, hQ113, l113, y113, z113, A113⟩
         dsimp only [Pt.U, Pt.locs, Pt.cells, Pt.slots] at XX113 l113 y113 z113 hQ113 hSS113 hg113 A113 ⊢
         subst l113 y113 z113
         obtain ⟨X113, hS113, hZ113, hown113⟩ := rebS hS0 (Nat.le_trans (Nat.le_refl _) le112) XX113 hSS113 hg113 hZ hown
         obtain ⟨rfl, N113q, K113⟩ := hQ113
         have N115 := Fr.app N104 N113q
         have C116 : CHr Z EL s.vm h0 T113.vm T113.heap := C106.trans A113
         have K117 : Keep h0 T113.heap [] := K107.trans K113 (all0 (P := fun x => x ∈ [] ∨ h0.size ≤ x))
         show Runs _ _ _ _ (T113.setTop (mkF m 199 #[.val (.int p0), .val (.int p1), .val (.int p2), .val (.int p3), .val (.int p4), .val (.int ((p0 &&& (2147483647 : Int32)) % (5 : Int32))), .val (.int c_20), .val (.int c_22), .val (.int c_24), .val (.int c_26), .val (.ref b57), .val (.ref b70), .val (.int (1 : Int32))] [(.int (0 : Int32))]))
         refine w_iload X113 hx (hb hby at_199) rfl (pc' := 201) rfl ?_
         refine w_icY X113 hx (hb hby at_201) (feq (by decide : ¬ ((0 : Int32) = (1 : Int32)))).2 (pc' := 208) (by decide) (by decide) ?_
         refine w_iconst X113 hx (hb hby at_208) (v := (0 : Int32)) rfl (pc' := 209) rfl ?_
         exact (absurd g81_5 (show ¬ ((255 : Int32) < c_20) from by rw [hc110]; decide))
       · refine w_icN X81 hx (hb hby at_164) (feq hc110).1 (pc' := 167) rfl ?_
         refine w_iload X81 hx (hb hby at_167) rfl (pc' := 169) rfl ?_
         refine w_iconst X81 hx (hb hby at_169) (v := (2 : Int32)) rfl (pc' := 170) rfl ?_
         refine w_icY X81 hx (hb hby at_170) (feq (show ¬ (((p0 &&& (2147483647 : Int32)) % (5 : Int32)) = (2 : Int32)) from by rw [hc56]; decide)).2 (pc' := 191) (by decide) (by decide) ?_
         refine w_iconst X81 hx (hb hby at_191) (v := (0 : Int32)) rfl (pc' := 192) rfl ?_
         refine w_istore X81 hx (hb hby at_192) (L' := #[.val (.int p0), .val (.int p1), .val (.int p2), .val (.int p3), .val (.int p4), .val (.int ((p0 &&& (2147483647 : Int32)) % (5 : Int32))), .val (.int c_20), .val (.int c_22), .val (.int c_24), .val (.int c_26), .val (.ref b57), .val (.ref b70), .val (.int (0 : Int32))]) rfl (pc' := 194) rfl ?_
         refine w_aload X81 hx (hb hby at_194) rfl rfl (pc' := 196) rfl ?_
         have f118 : Old Z n0 T81.heap := (f79.keep K81 (allS ge71 all0))
         have le119 : h0.size ≤ T81.heap.size := (Nat.le_trans le80 K81.1)
         have y121 : Safe Z EL s.vm T81.heap b70 := (Safe.keep K81 (sfS y105 sf0) C74.1 y105)
         refine w_staticS X81 hx (y := yn_5) hown (mvT hZ (wd_28 hw)) (mvT hZ (wd_29 hw)) (mvT hZ (wd_30 hw)) (mvT hZ (wd_31 hw)) (by decide) (backOfY (W := 0) (rm_m5_28 l Z aZ hw [] b70 G_COMPACT_STRINGS T81.heap n0 (Nat.le_trans Z0 le119) g81_0 hP_2 g81_1 S_COMPACT_STRINGS f118) hZ (wd_31 hw) (wd_30 hw) (by decide) (by decide) (own_EW hw) C106.1 (sfS y121 sf0) (allS (Nat.lt_of_lt_of_le A70.lt K81.1) all0)) (by rw [hml]; rfl) [(.ref b70)] (lenOf pd_5 rfl) rfl (Nat.le_of_eq rfl) (hb hby at_196) (fun _ _ => ⟨rfl, rfl, (by decide : 4 + 4 ≤ _), (by decide : 8 + 20 ≤ _)⟩) (pc' := 199) rfl ?_
         rintro _ _ ⟨T120, L120, k120, n120⟩ XX120 hSS120 hg120 ⟨Lc120, hQ120, l120, y120, z120, A120⟩
         dsimp only [Pt.U, Pt.locs, Pt.cells, Pt.slots] at XX120 l120 y120 z120 hQ120 hSS120 hg120 A120 ⊢
         subst l120 y120 z120
         obtain ⟨X120, hS120, hZ120, hown120⟩ := rebS hS0 (Nat.le_trans (Nat.le_refl _) le119) XX120 hSS120 hg120 hZ hown
         obtain ⟨rfl, N120q, K120⟩ := hQ120
         have N122 := Fr.app N104 N120q
         have C123 : CHr Z EL s.vm h0 T120.vm T120.heap := C106.trans A120
         have K124 : Keep h0 T120.heap [] := K107.trans K120 (all0 (P := fun x => x ∈ [] ∨ h0.size ≤ x))
         show Runs _ _ _ _ (T120.setTop (mkF m 199 #[.val (.int p0), .val (.int p1), .val (.int p2), .val (.int p3), .val (.int p4), .val (.int ((p0 &&& (2147483647 : Int32)) % (5 : Int32))), .val (.int c_20), .val (.int c_22), .val (.int c_24), .val (.int c_26), .val (.ref b57), .val (.ref b70), .val (.int (0 : Int32))] [(.int (0 : Int32))]))
         refine w_iload X120 hx (hb hby at_199) rfl (pc' := 201) rfl ?_
         refine w_icN X120 hx (hb hby at_201) (teq (by decide : (0 : Int32) = (0 : Int32))).2 (pc' := 204) rfl ?_
         refine w_iconst X120 hx (hb hby at_204) (v := (1 : Int32)) rfl (pc' := 205) rfl ?_
         refine w_goto X120 hx (hb hby at_205) (pc' := 209) (by decide) (by decide) ?_
         exact w_doneH X120 hlk (v := some (.int (1 : Int32))) rfl hh hZ120 (own_EW hw) hS120 (Nat.le_refl _) C123 (fun h => by rw [hret] at h; cases h) (fun fs hr => retN X120 hx (t := .boolean) hret (by simp) (hb hby at_209) hr) (by decide) (by decide) (fun hsy => ⟨rfl, N122⟩)
   · refine w_icY X26 hx (hb hby at_49) (feq hc56).2 (pc' := 65) (by decide) (by decide) ?_
     refine w_iload X26 hx (hb hby at_65) rfl (pc' := 67) rfl ?_
     refine w_iconst X26 hx (hb hby at_67) (v := (2 : Int32)) rfl (pc' := 68) rfl ?_
     by_cases hc125 : ((p0 &&& (2147483647 : Int32)) % (5 : Int32)) = (2 : Int32)
     · refine w_icN X26 hx (hb hby at_68) (teq hc125).2 (pc' := 71) rfl ?_
       refine w_iconst X26 hx (hb hby at_71) (v := (2 : Int32)) rfl (pc' := 72) rfl ?_
       refine w_newP X26 hx .char .char 2 rfl hZ (wd_6 hw) e26 (hb hby at_72) (by decide) (by decide) (by decide) (by decide) (by decide) (pc' := 74) rfl ?_
       intro T126 h126 k126 b126 X126 e126 E126 g126 A126
       have ge127 : n0 ≤ b126 := Nat.le_trans Z0 (Nat.le_of_eq g126.symm)
       have sz128 : h0.size ≤ b126 := Nat.le_trans (Nat.le_refl _) (Nat.le_of_eq g126.symm)
       have C129 : CHr Z EL s.vm h0 s.vm h126 := C0.trans (CHr.ext E126 C0.1)
       have K130 : Keep h0 h126 [] := (Keep.refl h0 []).ext E126
       have V131 : Arv Z h126 b126 k126 .char (2 : Int32) [(.int (0 : Int32)), (.int (0 : Int32))] (.int (0 : Int32)) := (Arv.new A126 (by decide)).pad (pad_rep [] (.int (0 : Int32)) 2)
       refine w_dup X126 hx (hb hby at_74) rfl (pc' := 75) rfl ?_
       refine w_iconst X126 hx (hb hby at_75) (v := (0 : Int32)) rfl (pc' := 76) rfl ?_
       refine w_iload X126 hx (hb hby at_76) rfl (pc' := 78) rfl ?_
       obtain ⟨clu132, Aru132, qu132, Su132, Nu132, Hu132, Gu132⟩ := id V131
       have hinu132 := inb_of (j := (0 : Int32)) Su132 ⟨by decide, by decide⟩
       refine w_stC X126 hx hZ e126 Aru132 hinu132 (hb hby at_78) (pc' := 79) rfl ?_
       intro T133 h133 X133 e133 W133
       have C134 : CHr Z EL s.vm h0 s.vm h133 := C129.trans (CHr.wr W133 (Safe.arv hZ.alike V131 (by decide)) C129.1)
       have V135 : Arv Z h133 b126 k126 .char (2 : Int32) [(.int (nar .char c_20)), (.int (0 : Int32))] (.int (0 : Int32)) := Arv.set Aru132 qu132 Su132 Nu132 Hu132 Gu132 (fits_nar_char _) W133 0 rfl (Nat.le_of_ble_eq_true rfl)
       have V136 : Arv Z h133 b126 k126 .char (2 : Int32) [(.int c_20), (.int (0 : Int32))] (.int (0 : Int32)) := by rw [g20_0] at V135; exact V135
       have K137 : Keep h0 h133 [] := K130.wr W133 (Or.inr sz128)
       have N138 := Fr.snoc X133 N27 ge127
       refine w_dup X133 hx (hb hby at_79) rfl (pc' := 80) rfl ?_
       refine w_iconst X133 hx (hb hby at_80) (v := (1 : Int32)) rfl (pc' := 81) rfl ?_
       refine w_iload X133 hx (hb hby at_81) rfl (pc' := 83) rfl ?_
       obtain ⟨clu139, Aru139, qu139, Su139, Nu139, Hu139, Gu139⟩ := id V136
       have hinu139 := inb_of (j := (1 : Int32)) Su139 ⟨by decide, by decide⟩
       refine w_stC X133 hx hZ e133 Aru139 hinu139 (hb hby at_83) (pc' := 84) rfl ?_
       intro T140 h140 X140 e140 W140
       have C141 : CHr Z EL s.vm h0 s.vm h140 := C134.trans (CHr.wr W140 (Safe.arv hZ.alike V136 (by decide)) C134.1)
       have V142 : Arv Z h140 b126 k126 .char (2 : Int32) [(.int c_20), (.int (nar .char c_22))] (.int (0 : Int32)) := Arv.set Aru139 qu139 Su139 Nu139 Hu139 Gu139 (fits_nar_char _) W140 1 rfl (Nat.le_of_ble_eq_true rfl)
       have V143 : Arv Z h140 b126 k126 .char (2 : Int32) [(.int c_20), (.int c_22)] (.int (0 : Int32)) := by rw [g22_0] at V142; exact V142
       have K144 : Keep h0 h140 [] := K137.wr W140 (Or.inr sz128)
       have N145 := Fr.snoc X140 N138 ge127
       refine w_astore X140 hx (hb hby at_84) rfl (L' := #[.val (.int p0), .val (.int p1), .val (.int p2), .val (.int p3), .val (.int p4), .val (.int ((p0 &&& (2147483647 : Int32)) % (5 : Int32))), .val (.int c_20), .val (.int c_22), .val (.int c_24), .val (.int c_26), .val (.ref b126), .unset, .unset]) rfl (pc' := 86) rfl ?_
       refine w_goto X140 hx (hb hby at_86) (pc' := 143) (by decide) (by decide) ?_
       refine w_new X140 hx hZ hown (wd_7 hw) (wd_8 hw) (wd_9 hw) e140 (hb hby at_143) (by decide) (by decide) (pc' := 146) rfl ?_
       intro T146 h146 b146 X146 e146 E146 g146 A146 D146
       have le148 : h0.size ≤ h133.size := (Nat.le_trans E126.1 (Keep.of_wr W133).1)
       have le149 : h0.size ≤ h140.size := (Nat.le_trans le148 (Keep.of_wr W140).1)
       have ge147 : n0 ≤ b146 := Nat.le_trans (Nat.le_trans Z0 le149) (Nat.le_of_eq g146.symm)
       have sz150 : h0.size ≤ b146 := Nat.le_trans le149 (Nat.le_of_eq g146.symm)
       have C151 : CHr Z EL s.vm h0 s.vm h146 := C141.trans (CHr.ext E146 C141.1)
       have K152 : Keep h0 h146 [] := K144.ext E146
       have f153 : Fld Z h146 b146 kc0 "value" "[B" .null := D146 (Or.inr (wd_22 hw)) (ty := (.array .byte)) (by decide)
       have f154 : Fld Z h146 b146 kc0 "coder" "B" (.int (0 : Int32)) := D146 (Or.inr (wd_23 hw)) (ty := .byte) (by decide)
       refine w_dup X146 hx (hb hby at_146) rfl (pc' := 147) rfl ?_
       refine w_aload X146 hx (hb hby at_147) rfl rfl (pc' := 149) rfl ?_
       have f155 : Arv Z h146 b126 k126 .char (2 : Int32) [(.int c_20), (.int c_22)] (.int (0 : Int32)) := (V143.ext E146)
       have f156 : Old Z n0 h146 := ((((O0.ext E126).wr W133 ge127).wr W140 ge127).ext E146)
       have le157 : h0.size ≤ h146.size := (Nat.le_trans le149 E146.1)
       refine w_special X146 hx (y := yn_2) rfl hown (mvT hZ (wd_10 hw)) (mvT hZ (wd_11 hw)) (mvT hZ (wd_12 hw)) (by decide) (backOf (W := 1) (rm_m2_30 l Z aZ hw [] b146 b126 k126 c_20 c_22 G_COMPACT_STRINGS h146 n0 (Nat.le_trans Z0 le157) f155 hP_2 g20_0 g22_0 A146 f154 f153 S_COMPACT_STRINGS f156 S__assertionsDisabled S_HI_BYTE_SHIFT S_LO_BYTE_SHIFT ge147) hZ (wd_12 hw) (wd_9 hw) (by decide) (by decide)) (by rw [hml]; rfl) [(.ref b126)] (lenOf pd_2 rfl) rfl (Nat.le_of_eq rfl) (hb hby at_149) (fun _ _ => ⟨rfl, e146, (by decide : 2 + 2 ≤ _), (by decide : 6 + 6 ≤ _)⟩) (pc' := 152) rfl ?_
       rintro _ _ ⟨T158, L158, k158, n158⟩ X158 ⟨Lc158, hQ158, l158, y158, z158⟩
       dsimp only [Pt.U, Pt.locs, Pt.cells, Pt.slots] at X158 l158 y158 z158 hQ158 ⊢
       subst l158 y158 z158
       rcases hQ158 with ⟨t_158, kb_158, rfl, N158q, K158, g158_0, g158_1, g158_2, g158_3, g158_4, g158_5, g158_6⟩ | ⟨t_158, kb_158, rfl, N158q, K158, g158_0, g158_1, g158_2, g158_3, g158_4, g158_5⟩
       · have N159 := Fr.app N145 N158q
         have y160 : Safe Z EL s.vm h146 b146 := (Safe.ext E146 C141.1 (Safe.new (Nat.le_of_eq g146.symm)))
         have C161 : CHr Z EL s.vm h0 s.vm T158.heap := C151.trans (CHr.keep K158 (sfS y160 sf0) C151.1)
         have K162 : Keep h0 T158.heap [] := K152.trans K158 (allS (Or.inr sz150) (all0 (P := fun x => x ∈ [] ∨ h0.size ≤ x)))
         have ge163 : n0 ≤ t_158 := Nat.le_trans (Nat.le_trans Z0 le157) g158_3
         have sz164 : h0.size ≤ t_158 := Nat.le_trans le157 g158_3
         show Runs _ _ _ _ (T158.setTop (mkF m 152 #[.val (.int p0), .val (.int p1), .val (.int p2), .val (.int p3), .val (.int p4), .val (.int ((p0 &&& (2147483647 : Int32)) % (5 : Int32))), .val (.int c_20), .val (.int c_22), .val (.int c_24), .val (.int c_26), .val (.ref b126), .unset, .unset] [(.ref b146)]))
         refine w_astore X158 hx (hb hby at_152) rfl (L' := #[.val (.int p0), .val (.int p1), .val (.int p2), .val (.int p3), .val (.int p4), .val (.int ((p0 &&& (2147483647 : Int32)) % (5 : Int32))), .val (.int c_20), .val (.int c_22), .val (.int c_24), .val (.int c_26), .val (.ref b126), .val (.ref b146), .unset]) rfl (pc' := 154) rfl ?_
         refine w_iload X158 hx (hb hby at_154) rfl (pc' := 156) rfl ?_
         refine w_iconst X158 hx (hb hby at_156) (v := (1 : Int32)) rfl (pc' := 157) rfl ?_
         refine w_icY X158 hx (hb hby at_157) (feq hc56).2 (pc' := 167) (by decide) (by decide) ?_
         refine w_iload X158 hx (hb hby at_167) rfl (pc' := 169) rfl ?_
         refine w_iconst X158 hx (hb hby at_169) (v := (2 : Int32)) rfl (pc' := 170) rfl ?_
         refine w_icN X158 hx (hb hby at_170) (teq hc125).2 (pc' := 173) rfl ?_
         refine w_iload X158 hx (hb hby at_173) rfl (pc' := 175) rfl ?_
         refine w_bipush X158 hx (hb hby at_175) (v := (46 : Int32)) rfl (pc' := 177) rfl ?_
         by_cases hc165 : c_20 = (46 : Int32)
         · refine w_icN X158 hx (hb hby at_177) (teq hc165).2 (pc' := 180) rfl ?_
           refine w_iload X158 hx (hb hby at_180) rfl (pc' := 182) rfl ?_
           refine w_bipush X158 hx (hb hby at_182) (v := (46 : Int32)) rfl (pc' := 184) rfl ?_
           by_cases hc166 : c_22 = (46 : Int32)
           · refine w_icN X158 hx (hb hby at_184) (teq hc166).2 (pc' := 187) rfl ?_
             refine w_iconst X158 hx (hb hby at_187) (v := (1 : Int32)) rfl (pc' := 188) rfl ?_
             refine w_goto X158 hx (hb hby at_188) (pc' := 192) (by decide) (by decide) ?_
             refine w_istore X158 hx (hb hby at_192) (L' := #[.val (.int p0), .val (.int p1), .val (.int p2), .val (.int p3), .val (.int p4), .val (.int ((p0 &&& (2147483647 : Int32)) % (5 : Int32))), .val (.int c_20), .val (.int c_22), .val (.int c_24), .val (.int c_26), .val (.ref b126), .val (.ref b146), .val (.int (1 : Int32))]) rfl (pc' := 194) rfl ?_
             refine w_aload X158 hx (hb hby at_194) rfl rfl (pc' := 196) rfl ?_
             have f167 : Old Z n0 T158.heap := (f156.keep K158 (allS ge147 all0))
             have le168 : h0.size ≤ T158.heap.size := (Nat.le_trans le157 K158.1)
             have y170 : Safe Z EL s.vm T158.heap b146 := (Safe.keep K158 (sfS y160 sf0) C151.1 y160)
             refine w_staticS X158 hx (y := yn_5) hown (mvT hZ (wd_28 hw)) (mvT hZ (wd_29 hw)) (mvT hZ (wd_30 hw)) (mvT hZ (wd_31 hw)) (by decide) (backOfY (W := 0) (rm_m5_42 l Z aZ hw [] b146 t_158 kb_158 (c_20.toInt8.toInt32) (c_22.toInt8.toInt32) G_COMPACT_STRINGS T158.heap n0 (Nat.le_trans Z0 le168) g158_0 hP_2 g158_1 g158_2 g158_4 S_COMPACT_STRINGS f167 (show (c_20.toInt8.toInt32) = (46 : Int32) from by rw [hc165]; decide) (show (c_22.toInt8.toInt32) = (46 : Int32) from by rw [hc166]; decide)) hZ (wd_31 hw) (wd_30 hw) (by decide) (by decide) (own_EW hw) C161.1 (sfS y170 sf0) (allS (Nat.lt_of_lt_of_le A146.lt K158.1) all0)) (by rw [hml]; rfl) [(.ref b146)] (lenOf pd_5 rfl) rfl (Nat.le_of_eq rfl) (hb hby at_196) (fun _ _ => ⟨rfl, rfl, (by decide : 4 + 4 ≤ _), (by decide : 12 + 20 ≤ _)⟩) (pc' := 199) rfl ?_
             rintro _ _ ⟨T169, L169, k169, n169⟩ XX169 hSS169 hg169 ⟨Lc169, hQ169, l169, y169, z169, A169⟩
             dsimp only [Pt.U, Pt.locs, Pt.cells, Pt.slots] at XX169 l169 y169 z169 hQ169 hSS169 hg169 A169 ⊢
             subst l169 y169 z169
             obtain ⟨X169, hS169, hZ169, hown169⟩ := rebS hS0 (Nat.le_trans (Nat.le_refl _) le168) XX169 hSS169 hg169 hZ hown
             obtain ⟨rfl, N169q, K169⟩ := hQ169
             have N171 := Fr.app N159 N169q
             have C172 : CHr Z EL s.vm h0 T169.vm T169.heap := C161.trans A169
             have K173 : Keep h0 T169.heap [] := K162.trans K169 (all0 (P := fun x => x ∈ [] ∨ h0.size ≤ x))
             show Runs _ _ _ _ (T169.setTop (mkF m 199 #[.val (.int p0), .val (.int p1), .val (.int p2), .val (.int p3), .val (.int p4), .val (.int ((p0 &&& (2147483647 : Int32)) % (5 : Int32))), .val (.int c_20), .val (.int c_22), .val (.int c_24), .val (.int c_26), .val (.ref b126), .val (.ref b146), .val (.int (1 : Int32))] [(.int (1 : Int32))]))
             refine w_iload X169 hx (hb hby at_199) rfl (pc' := 201) rfl ?_
             refine w_icN X169 hx (hb hby at_201) (teq (by decide : (1 : Int32) = (1 : Int32))).2 (pc' := 204) rfl ?_
             refine w_iconst X169 hx (hb hby at_204) (v := (1 : Int32)) rfl (pc' := 205) rfl ?_
             refine w_goto X169 hx (hb hby at_205) (pc' := 209) (by decide) (by decide) ?_
             exact w_doneH X169 hlk (v := some (.int (1 : Int32))) rfl hh hZ169 (own_EW hw) hS169 (Nat.le_refl _) C172 (fun h => by rw [hret] at h; cases h) (fun fs hr => retN X169 hx (t := .boolean) hret (by simp) (hb hby at_209) hr) (by decide) (by decide) (fun hsy => ⟨rfl, N171⟩)
           · refine w_icY X158 hx (hb hby at_184) (feq hc166).2 (pc' := 191) (by decide) (by decide) ?_
             refine w_iconst X158 hx (hb hby at_191) (v := (0 : Int32)) rfl (pc' := 192) rfl ?_
             refine w_istore X158 hx (hb hby at_192) (L' := #[.val (.int p0), .val (.int p1), .val (.int p2), .val (.int p3), .val (.int p4), .val (.int ((p0 &&& (2147483647 : Int32)) % (5 : Int32))), .val (.int c_20), .val (.int c_22), .val (.int c_24), .val (.int c_26), .val (.ref b126), .val (.ref b146), .val (.int (0 : Int32))]) rfl (pc' := 194) rfl ?_
             refine w_aload X158 hx (hb hby at_194) rfl rfl (pc' := 196) rfl ?_
             have f175 : Old Z n0 T158.heap := (f156.keep K158 (allS ge147 all0))
             have le176 : h0.size ≤ T158.heap.size := (Nat.le_trans le157 K158.1)
             have y178 : Safe Z EL s.vm T158.heap b146 := (Safe.keep K158 (sfS y160 sf0) C151.1 y160)
             refine w_staticS X158 hx (y := yn_5) hown (mvT hZ (wd_28 hw)) (mvT hZ (wd_29 hw)) (mvT hZ (wd_30 hw)) (mvT hZ (wd_31 hw)) (by decide) (backOfY (W := 0) (rm_m5_47 l Z aZ hw [] b146 G_COMPACT_STRINGS t_158 kb_158 (c_20.toInt8.toInt32) (c_22.toInt8.toInt32) T158.heap n0 (Nat.le_trans Z0 le176) g158_0 S_COMPACT_STRINGS f175 g158_1 g158_2 g158_4 hP_2 (show (c_20.toInt8.toInt32) = (46 : Int32) from by rw [hc165]; decide) (fun q => hc166 (own_low g22_0 g158_6 (by decide) (by decide) q))) hZ (wd_31 hw) (wd_30 hw) (by decide) (by decide) (own_EW hw) C161.1 (sfS y178 sf0) (allS (Nat.lt_of_lt_of_le A146.lt K158.1) all0)) (by rw [hml]; rfl) [(.ref b146)] (lenOf pd_5 rfl) rfl (Nat.le_of_eq rfl) (hb hby at_196) (fun _ _ => ⟨rfl, rfl, (by decide : 4 + 4 ≤ _), (by decide : 12 + 20 ≤ _)⟩) (pc' := 199) rfl ?_
             rintro _ _ ⟨T177, L177, k177, n177⟩ XX177 hSS177 hg177 ⟨Lc177, hQ177, l177, y177, z177, A177⟩
             dsimp only [Pt.U, Pt.locs, Pt.cells, Pt.slots] at XX177 l177 y177 z177 hQ177 hSS177 hg177 A177 ⊢
             subst l177 y177 z177
             obtain ⟨X177, hS177, hZ177, hown177⟩ := rebS hS0 (Nat.le_trans (Nat.le_refl _) le176) XX177 hSS177 hg177 hZ hown
             obtain ⟨rfl, N177q, K177⟩ := hQ177
             have N179 := Fr.app N159 N177q
             have C180 : CHr Z EL s.vm h0 T177.vm T177.heap := C161.trans A177
             have K181 : Keep h0 T177.heap [] := K162.trans K177 (all0 (P := fun x => x ∈ [] ∨ h0.size ≤ x))
             show Runs _ _ _ _ (T177.setTop (mkF m 199 #[.val (.int p0), .val (.int p1), .val (.int p2), .val (.int p3), .val (.int p4), .val (.int ((p0 &&& (2147483647 : Int32)) % (5 : Int32))), .val (.int c_20), .val (.int c_22), .val (.int c_24), .val (.int c_26), .val (.ref b126), .val (.ref b146), .val (.int (0 : Int32))] [(.int (0 : Int32))]))
             refine w_iload X177 hx (hb hby at_199) rfl (pc' := 201) rfl ?_
             refine w_icN X177 hx (hb hby at_201) (teq (by decide : (0 : Int32) = (0 : Int32))).2 (pc' := 204) rfl ?_
             refine w_iconst X177 hx (hb hby at_204) (v := (1 : Int32)) rfl (pc' := 205) rfl ?_
             refine w_goto X177 hx (hb hby at_205) (pc' := 209) (by decide) (by decide) ?_
             exact w_doneH X177 hlk (v := some (.int (1 : Int32))) rfl hh hZ177 (own_EW hw) hS177 (Nat.le_refl _) C180 (fun h => by rw [hret] at h; cases h) (fun fs hr => retN X177 hx (t := .boolean) hret (by simp) (hb hby at_209) hr) (by decide) (by decide) (fun hsy => ⟨rfl, N179⟩)
         · refine w_icY X158 hx (hb hby at_177) (feq hc165).2 (pc' := 191) (by decide) (by decide) ?_
           refine w_iconst X158 hx (hb hby at_191) (v := (0 : Int32)) rfl (pc' := 192) rfl ?_
           refine w_istore X158 hx (hb hby at_192) (L' := #[.val (.int p0), .val (.int p1), .val (.int p2), .val (.int p3), .val (.int p4), .val (.int ((p0 &&& (2147483647 : Int32)) % (5 : Int32))), .val (.int c_20), .val (.int c_22), .val (.int c_24), .val (.int c_26), .val (.ref b126), .val (.ref b146), .val (.int (0 : Int32))]) rfl (pc' := 194) rfl ?_
           refine w_aload X158 hx (hb hby at_194) rfl rfl (pc' := 196) rfl ?_
           have f184 : Old Z n0 T158.heap := (f156.keep K158 (allS ge147 all0))
           have le185 : h0.size ≤ T158.heap.size := (Nat.le_trans le157 K158.1)
           have y187 : Safe Z EL s.vm T158.heap b146 := (Safe.keep K158 (sfS y160 sf0) C151.1 y160)
           refine w_staticS X158 hx (y := yn_5) hown (mvT hZ (wd_28 hw)) (mvT hZ (wd_29 hw)) (mvT hZ (wd_30 hw)) (mvT hZ (wd_31 hw)) (by decide) (backOfY (W := 0) (rm_m5_50 l Z aZ hw [] b146 G_COMPACT_STRINGS t_158 kb_158 (c_20.toInt8.toInt32) (c_22.toInt8.toInt32) T158.heap n0 (Nat.le_trans Z0 le185) g158_0 S_COMPACT_STRINGS f184 g158_1 g158_2 g158_4 hP_2 (fun q => hc165 (own_low g20_0 g158_5 (by decide) (by decide) q))) hZ (wd_31 hw) (wd_30 hw) (by decide) (by decide) (own_EW hw) C161.1 (sfS y187 sf0) (allS (Nat.lt_of_lt_of_le A146.lt K158.1) all0)) (by rw [hml]; rfl) [(.ref b146)] (lenOf pd_5 rfl) rfl (Nat.le_of_eq rfl) (hb hby at_196) (fun _ _ => ⟨rfl, rfl, (by decide : 4 + 4 ≤ _), (by decide : 12 + 20 ≤ _)⟩) (pc' := 199) rfl ?_
           rintro _ _ ⟨T186, L186, k186, n186⟩ XX186 hSS186 hg186 ⟨Lc186, hQ186, l186, y186, z186, A186⟩
           dsimp only [Pt.U, Pt.locs, Pt.cells, Pt.slots] at XX186 l186 y186 z186 hQ186 hSS186 hg186 A186 ⊢
           subst l186 y186 z186
           obtain ⟨X186, hS186, hZ186, hown186⟩ := rebS hS0 (Nat.le_trans (Nat.le_refl _) le185) XX186 hSS186 hg186 hZ hown
           obtain ⟨rfl, N186q, K186⟩ := hQ186
           have N188 := Fr.app N159 N186q
           have C189 : CHr Z EL s.vm h0 T186.vm T186.heap := C161.trans A186
           have K190 : Keep h0 T186.heap [] := K162.trans K186 (all0 (P := fun x => x ∈ [] ∨ h0.size ≤ x))
           show Runs _ _ _ _ (T186.setTop (mkF m 199 #[.val (.int p0), .val (.int p1), .val (.int p2), .val (.int p3), .val (.int p4), .val (.int ((p0 &&& (2147483647 : Int32)) % (5 : Int32))), .val (.int c_20), .val (.int c_22), .val (.int c_24), .val (.int c_26), .val (.ref b126), .val (.ref b146), .val (.int (0 : Int32))] [(.int (0 : Int32))]))
           refine w_iload X186 hx (hb hby at_199) rfl (pc' := 201) rfl ?_
           refine w_icN X186 hx (hb hby at_201) (teq (by decide : (0 : Int32) = (0 : Int32))).2 (pc' := 204) rfl ?_
           refine w_iconst X186 hx (hb hby at_204) (v := (1 : Int32)) rfl (pc' := 205) rfl ?_
           refine w_goto X186 hx (hb hby at_205) (pc' := 209) (by decide) (by decide) ?_
           exact w_doneH X186 hlk (v := some (.int (1 : Int32))) rfl hh hZ186 (own_EW hw) hS186 (Nat.le_refl _) C189 (fun h => by rw [hret] at h; cases h) (fun fs hr => retN X186 hx (t := .boolean) hret (by simp) (hb hby at_209) hr) (by decide) (by decide) (fun hsy => ⟨rfl, N188⟩)
       · have N191 := Fr.app N145 N158q
         have y192 : Safe Z EL s.vm h146 b146 := (Safe.ext E146 C141.1 (Safe.new (Nat.le_of_eq g146.symm)))
         have C193 : CHr Z EL s.vm h0 s.vm T158.heap := C151.trans (CHr.keep K158 (sfS y192 sf0) C151.1)
         have K194 : Keep h0 T158.heap [] := K152.trans K158 (allS (Or.inr sz150) (all0 (P := fun x => x ∈ [] ∨ h0.size ≤ x)))
         have ge195 : n0 ≤ t_158 := Nat.le_trans (Nat.le_trans Z0 le157) g158_3
         have sz196 : h0.size ≤ t_158 := Nat.le_trans le157 g158_3
         show Runs _ _ _ _ (T158.setTop (mkF m 152 #[.val (.int p0), .val (.int p1), .val (.int p2), .val (.int p3), .val (.int p4), .val (.int ((p0 &&& (2147483647 : Int32)) % (5 : Int32))), .val (.int c_20), .val (.int c_22), .val (.int c_24), .val (.int c_26), .val (.ref b126), .unset, .unset] [(.ref b146)]))
         refine w_astore X158 hx (hb hby at_152) rfl (L' := #[.val (.int p0), .val (.int p1), .val (.int p2), .val (.int p3), .val (.int p4), .val (.int ((p0 &&& (2147483647 : Int32)) % (5 : Int32))), .val (.int c_20), .val (.int c_22), .val (.int c_24), .val (.int c_26), .val (.ref b126), .val (.ref b146), .unset]) rfl (pc' := 154) rfl ?_
         refine w_iload X158 hx (hb hby at_154) rfl (pc' := 156) rfl ?_
         refine w_iconst X158 hx (hb hby at_156) (v := (1 : Int32)) rfl (pc' := 157) rfl ?_
         refine w_icY X158 hx (hb hby at_157) (feq hc56).2 (pc' := 167) (by decide) (by decide) ?_
         refine w_iload X158 hx (hb hby at_167) rfl (pc' := 169) rfl ?_
         refine w_iconst X158 hx (hb hby at_169) (v := (2 : Int32)) rfl (pc' := 170) rfl ?_
         refine w_icN X158 hx (hb hby at_170) (teq hc125).2 (pc' := 173) rfl ?_
         refine w_iload X158 hx (hb hby at_173) rfl (pc' := 175) rfl ?_
         refine w_bipush X158 hx (hb hby at_175) (v := (46 : Int32)) rfl (pc' := 177) rfl ?_
         by_cases hc197 : c_20 = (46 : Int32)
         · refine w_icN X158 hx (hb hby at_177) (teq hc197).2 (pc' := 180) rfl ?_
           refine w_iload X158 hx (hb hby at_180) rfl (pc' := 182) rfl ?_
           refine w_bipush X158 hx (hb hby at_182) (v := (46 : Int32)) rfl (pc' := 184) rfl ?_
           by_cases hc198 : c_22 = (46 : Int32)
           · refine w_icN X158 hx (hb hby at_184) (teq hc198).2 (pc' := 187) rfl ?_
             refine w_iconst X158 hx (hb hby at_187) (v := (1 : Int32)) rfl (pc' := 188) rfl ?_
             refine w_goto X158 hx (hb hby at_188) (pc' := 192) (by decide) (by decide) ?_
             refine w_istore X158 hx (hb hby at_192) (L' := #[.val (.int p0), .val (.int p1), .val (.int p2), .val (.int p3), .val (.int p4), .val (.int ((p0 &&& (2147483647 : Int32)) % (5 : Int32))), .val (.int c_20), .val (.int c_22), .val (.int c_24), .val (.int c_26), .val (.ref b126), .val (.ref b146), .val (.int (1 : Int32))]) rfl (pc' := 194) rfl ?_
             refine w_aload X158 hx (hb hby at_194) rfl rfl (pc' := 196) rfl ?_
             have f199 : Old Z n0 T158.heap := (f156.keep K158 (allS ge147 all0))
             have le200 : h0.size ≤ T158.heap.size := (Nat.le_trans le157 K158.1)
             have y202 : Safe Z EL s.vm T158.heap b146 := (Safe.keep K158 (sfS y192 sf0) C151.1 y192)
             refine w_staticS X158 hx (y := yn_5) hown (mvT hZ (wd_28 hw)) (mvT hZ (wd_29 hw)) (mvT hZ (wd_30 hw)) (mvT hZ (wd_31 hw)) (by decide) (backOfY (W := 0) (rm_m5_28 l Z aZ hw [] b146 G_COMPACT_STRINGS T158.heap n0 (Nat.le_trans Z0 le200) g158_0 hP_2 g158_1 S_COMPACT_STRINGS f199) hZ (wd_31 hw) (wd_30 hw) (by decide) (by decide) (own_EW hw) C193.1 (sfS y202 sf0) (allS (Nat.lt_of_lt_of_le A146.lt K158.1) all0)) (by rw [hml]; rfl) [(.ref b146)] (lenOf pd_5 rfl) rfl (Nat.le_of_eq rfl) (hb hby at_196) (fun _ _ => ⟨rfl, rfl, (by decide : 4 + 4 ≤ _), (by decide : 12 + 20 ≤ _)⟩) (pc' := 199) rfl ?_
             rintro _ _ ⟨T201, L201, k201, n201⟩ XX201 hSS201 hg201 ⟨Lc201, hQ201, l201, y201, z201, A201⟩
             dsimp only [Pt.U, Pt.locs, Pt.cells, Pt.slots] at XX201 l201 y201 z201 hQ201 hSS201 hg201 A201 ⊢
             subst l201 y201 z201
             obtain ⟨X201, hS201, hZ201, hown201⟩ := rebS hS0 (Nat.le_trans (Nat.le_refl _) le200) XX201 hSS201 hg201 hZ hown
             obtain ⟨rfl, N201q, K201⟩ := hQ201
             have N203 := Fr.app N191 N201q
             have C204 : CHr Z EL s.vm h0 T201.vm T201.heap := C193.trans A201
             have K205 : Keep h0 T201.heap [] := K194.trans K201 (all0 (P := fun x => x ∈ [] ∨ h0.size ≤ x))
             show Runs _ _ _ _ (T201.setTop (mkF m 199 #[.val (.int p0), .val (.int p1), .val (.int p2), .val (.int p3), .val (.int p4), .val (.int ((p0 &&& (2147483647 : Int32)) % (5 : Int32))), .val (.int c_20), .val (.int c_22), .val (.int c_24), .val (.int c_26), .val (.ref b126), .val (.ref b146), .val (.int (1 : Int32))] [(.int (0 : Int32))]))
             refine w_iload X201 hx (hb hby at_199) rfl (pc' := 201) rfl ?_
             refine w_icY X201 hx (hb hby at_201) (feq (by decide : ¬ ((0 : Int32) = (1 : Int32)))).2 (pc' := 208) (by decide) (by decide) ?_
             refine w_iconst X201 hx (hb hby at_208) (v := (0 : Int32)) rfl (pc' := 209) rfl ?_
             exact (absurd g158_5 (fun q => q.elim (show ¬ ((255 : Int32) < c_20) from by rw [hc197]; decide) (show ¬ ((255 : Int32) < c_22) from by rw [hc198]; decide)))
           · refine w_icY X158 hx (hb hby at_184) (feq hc198).2 (pc' := 191) (by decide) (by decide) ?_
             refine w_iconst X158 hx (hb hby at_191) (v := (0 : Int32)) rfl (pc' := 192) rfl ?_
             refine w_istore X158 hx (hb hby at_192) (L' := #[.val (.int p0), .val (.int p1), .val (.int p2), .val (.int p3), .val (.int p4), .val (.int ((p0 &&& (2147483647 : Int32)) % (5 : Int32))), .val (.int c_20), .val (.int c_22), .val (.int c_24), .val (.int c_26), .val (.ref b126), .val (.ref b146), .val (.int (0 : Int32))]) rfl (pc' := 194) rfl ?_
             refine w_aload X158 hx (hb hby at_194) rfl rfl (pc' := 196) rfl ?_
             have f206 : Old Z n0 T158.heap := (f156.keep K158 (allS ge147 all0))
             have le207 : h0.size ≤ T158.heap.size := (Nat.le_trans le157 K158.1)
             have y209 : Safe Z EL s.vm T158.heap b146 := (Safe.keep K158 (sfS y192 sf0) C151.1 y192)
             refine w_staticS X158 hx (y := yn_5) hown (mvT hZ (wd_28 hw)) (mvT hZ (wd_29 hw)) (mvT hZ (wd_30 hw)) (mvT hZ (wd_31 hw)) (by decide) (backOfY (W := 0) (rm_m5_28 l Z aZ hw [] b146 G_COMPACT_STRINGS T158.heap n0 (Nat.le_trans Z0 le207) g158_0 hP_2 g158_1 S_COMPACT_STRINGS f206) hZ (wd_31 hw) (wd_30 hw) (by decide) (by decide) (own_EW hw) C193.1 (sfS y209 sf0) (allS (Nat.lt_of_lt_of_le A146.lt K158.1) all0)) (by rw [hml]; rfl) [(.ref b146)] (lenOf pd_5 rfl) rfl (Nat.le_of_eq rfl) (hb hby at_196) (fun _ _ => ⟨rfl, rfl, (by decide : 4 + 4 ≤ _), (by decide : 12 + 20 ≤ _)⟩) (pc' := 199) rfl ?_
             rintro _ _ ⟨T208, L208, k208, n208⟩ XX208 hSS208 hg208 ⟨Lc208, hQ208, l208, y208, z208, A208⟩
             dsimp only [Pt.U, Pt.locs, Pt.cells, Pt.slots] at XX208 l208 y208 z208 hQ208 hSS208 hg208 A208 ⊢
             subst l208 y208 z208
             obtain ⟨X208, hS208, hZ208, hown208⟩ := rebS hS0 (Nat.le_trans (Nat.le_refl _) le207) XX208 hSS208 hg208 hZ hown
             obtain ⟨rfl, N208q, K208⟩ := hQ208
             have N210 := Fr.app N191 N208q
             have C211 : CHr Z EL s.vm h0 T208.vm T208.heap := C193.trans A208
             have K212 : Keep h0 T208.heap [] := K194.trans K208 (all0 (P := fun x => x ∈ [] ∨ h0.size ≤ x))
             show Runs _ _ _ _ (T208.setTop (mkF m 199 #[.val (.int p0), .val (.int p1), .val (.int p2), .val (.int p3), .val (.int p4), .val (.int ((p0 &&& (2147483647 : Int32)) % (5 : Int32))), .val (.int c_20), .val (.int c_22), .val (.int c_24), .val (.int c_26), .val (.ref b126), .val (.ref b146), .val (.int (0 : Int32))] [(.int (0 : Int32))]))
             refine w_iload X208 hx (hb hby at_199) rfl (pc' := 201) rfl ?_
             refine w_icN X208 hx (hb hby at_201) (teq (by decide : (0 : Int32) = (0 : Int32))).2 (pc' := 204) rfl ?_
             refine w_iconst X208 hx (hb hby at_204) (v := (1 : Int32)) rfl (pc' := 205) rfl ?_
             refine w_goto X208 hx (hb hby at_205) (pc' := 209) (by decide) (by decide) ?_
             exact w_doneH X208 hlk (v := some (.int (1 : Int32))) rfl hh hZ208 (own_EW hw) hS208 (Nat.le_refl _) C211 (fun h => by rw [hret] at h; cases h) (fun fs hr => retN X208 hx (t := .boolean) hret (by simp) (hb hby at_209) hr) (by decide) (by decide) (fun hsy => ⟨rfl, N210⟩)
         · refine w_icY X158 hx (hb hby at_177) (feq hc197).2 (pc' := 191) (by decide) (by decide) ?_
           refine w_iconst X158 hx (hb hby at_191) (v := (0 : Int32)) rfl (pc' := 192) rfl ?_
           refine w_istore X158 hx (hb hby at_192) (L' := #[.val (.int p0), .val (.int p1), .val (.int p2), .val (.int p3), .val (.int p4), .val (.int ((p0 &&& (2147483647 : Int32)) % (5 : Int32))), .val (.int c_20), .val (.int c_22), .val (.int c_24), .val (.int c_26), .val (.ref b126), .val (.ref b146), .val (.int (0 : Int32))]) rfl (pc' := 194) rfl ?_
           refine w_aload X158 hx (hb hby at_194) rfl rfl (pc' := 196) rfl ?_
           have f213 : Old Z n0 T158.heap := (f156.keep K158 (allS ge147 all0))
           have le214 : h0.size ≤ T158.heap.size := (Nat.le_trans le157 K158.1)
           have y216 : Safe Z EL s.vm T158.heap b146 := (Safe.keep K158 (sfS y192 sf0) C151.1 y192)
           refine w_staticS X158 hx (y := yn_5) hown (mvT hZ (wd_28 hw)) (mvT hZ (wd_29 hw)) (mvT hZ (wd_30 hw)) (mvT hZ (wd_31 hw)) (by decide) (backOfY (W := 0) (rm_m5_28 l Z aZ hw [] b146 G_COMPACT_STRINGS T158.heap n0 (Nat.le_trans Z0 le214) g158_0 hP_2 g158_1 S_COMPACT_STRINGS f213) hZ (wd_31 hw) (wd_30 hw) (by decide) (by decide) (own_EW hw) C193.1 (sfS y216 sf0) (allS (Nat.lt_of_lt_of_le A146.lt K158.1) all0)) (by rw [hml]; rfl) [(.ref b146)] (lenOf pd_5 rfl) rfl (Nat.le_of_eq rfl) (hb hby at_196) (fun _ _ => ⟨rfl, rfl, (by decide : 4 + 4 ≤ _), (by decide : 12 + 20 ≤ _)⟩) (pc' := 199) rfl ?_
           rintro _ _ ⟨T215, L215, k215, n215⟩ XX215 hSS215 hg215 ⟨Lc215, hQ215, l215, y215, z215, A215⟩
           dsimp only [Pt.U, Pt.locs, Pt.cells, Pt.slots] at XX215 l215 y215 z215 hQ215 hSS215 hg215 A215 ⊢
           subst l215 y215 z215
           obtain ⟨X215, hS215, hZ215, hown215⟩ := rebS hS0 (Nat.le_trans (Nat.le_refl _) le214) XX215 hSS215 hg215 hZ hown
           obtain ⟨rfl, N215q, K215⟩ := hQ215
           have N217 := Fr.app N191 N215q
           have C218 : CHr Z EL s.vm h0 T215.vm T215.heap := C193.trans A215
           have K219 : Keep h0 T215.heap [] := K194.trans K215 (all0 (P := fun x => x ∈ [] ∨ h0.size ≤ x))
           show Runs _ _ _ _ (T215.setTop (mkF m 199 #[.val (.int p0), .val (.int p1), .val (.int p2), .val (.int p3), .val (.int p4), .val (.int ((p0 &&& (2147483647 : Int32)) % (5 : Int32))), .val (.int c_20), .val (.int c_22), .val (.int c_24), .val (.int c_26), .val (.ref b126), .val (.ref b146), .val (.int (0 : Int32))] [(.int (0 : Int32))]))
           refine w_iload X215 hx (hb hby at_199) rfl (pc' := 201) rfl ?_
           refine w_icN X215 hx (hb hby at_201) (teq (by decide : (0 : Int32) = (0 : Int32))).2 (pc' := 204) rfl ?_
           refine w_iconst X215 hx (hb hby at_204) (v := (1 : Int32)) rfl (pc' := 205) rfl ?_
           refine w_goto X215 hx (hb hby at_205) (pc' := 209) (by decide) (by decide) ?_
           exact w_doneH X215 hlk (v := some (.int (1 : Int32))) rfl hh hZ215 (own_EW hw) hS215 (Nat.le_refl _) C218 (fun h => by rw [hret] at h; cases h) (fun fs hr => retN X215 hx (t := .boolean) hret (by simp) (hb hby at_209) hr) (by decide) (by decide) (fun hsy => ⟨rfl, N217⟩)
     · refine w_icY X26 hx (hb hby at_68) (feq hc125).2 (pc' := 89) (by decide) (by decide) ?_
       refine w_iload X26 hx (hb hby at_89) rfl (pc' := 91) rfl ?_
       refine w_iconst X26 hx (hb hby at_91) (v := (3 : Int32)) rfl (pc' := 92) rfl ?_
       by_cases hc220 : ((p0 &&& (2147483647 : Int32)) % (5 : Int32)) = (3 : Int32)
       · refine w_icN X26 hx (hb hby at_92) (teq hc220).2 (pc' := 95) rfl ?_
         refine w_iconst X26 hx (hb hby at_95) (v := (3 : Int32)) rfl (pc' := 96) rfl ?_
         refine w_newP X26 hx .char .char 3 rfl hZ (wd_6 hw) e26 (hb hby at_96) (by decide) (by decide) (by decide) (by decide) (by decide) (pc' := 98) rfl ?_
         intro T221 h221 k221 b221 X221 e221 E221 g221 A221
         have ge222 : n0 ≤ b221 := Nat.le_trans Z0 (Nat.le_of_eq g221.symm)
         have sz223 : h0.size ≤ b221 := Nat.le_trans (Nat.le_refl _) (Nat.le_of_eq g221.symm)
         have C224 : CHr Z EL s.vm h0 s.vm h221 := C0.trans (CHr.ext E221 C0.1)
         have K225 : Keep h0 h221 [] := (Keep.refl h0 []).ext E221
         have V226 : Arv Z h221 b221 k221 .char (3 : Int32) [(.int (0 : Int32)), (.int (0 : Int32)), (.int (0 : Int32))] (.int (0 : Int32)) := (Arv.new A221 (by decide)).pad (pad_rep [] (.int (0 : Int32)) 3)
         refine w_dup X221 hx (hb hby at_98) rfl (pc' := 99) rfl ?_
         refine w_iconst X221 hx (hb hby at_99) (v := (0 : Int32)) rfl (pc' := 100) rfl ?_
         refine w_iload X221 hx (hb hby at_100) rfl (pc' := 102) rfl ?_
         obtain ⟨clu227, Aru227, qu227, Su227, Nu227, Hu227, Gu227⟩ := id V226
         have hinu227 := inb_of (j := (0 : Int32)) Su227 ⟨by decide, by decide⟩
         refine w_stC X221 hx hZ e221 Aru227 hinu227 (hb hby at_102) (pc' := 103) rfl ?_
         intro T228 h228 X228 e228 W228
         have C229 : CHr Z EL s.vm h0 s.vm h228 := C224.trans (CHr.wr W228 (Safe.arv hZ.alike V226 (by decide)) C224.1)
         have V230 : Arv Z h228 b221 k221 .char (3 : Int32) [(.int (nar .char c_20)), (.int (0 : Int32)), (.int (0 : Int32))] (.int (0 : Int32)) := Arv.set Aru227 qu227 Su227 Nu227 Hu227 Gu227 (fits_nar_char _) W228 0 rfl (Nat.le_of_ble_eq_true rfl)
         have V231 : Arv Z h228 b221 k221 .char (3 : Int32) [(.int c_20), (.int (0 : Int32)), (.int (0 : Int32))] (.int (0 : Int32)) := by rw [g20_0] at V230; exact V230
         have K232 : Keep h0 h228 [] := K225.wr W228 (Or.inr sz223)
         have N233 := Fr.snoc X228 N27 ge222
         refine w_dup X228 hx (hb hby at_103) rfl (pc' := 104) rfl ?_
         refine w_iconst X228 hx (hb hby at_104) (v := (1 : Int32)) rfl (pc' := 105) rfl ?_
         refine w_iload X228 hx (hb hby at_105) rfl (pc' := 107) rfl ?_
         obtain ⟨clu234, Aru234, qu234, Su234, Nu234, Hu234, Gu234⟩ := id V231
         have hinu234 := inb_of (j := (1 : Int32)) Su234 ⟨by decide, by decide⟩
         refine w_stC X228 hx hZ e228 Aru234 hinu234 (hb hby at_107) (pc' := 108) rfl ?_
         intro T235 h235 X235 e235 W235
         have C236 : CHr Z EL s.vm h0 s.vm h235 := C229.trans (CHr.wr W235 (Safe.arv hZ.alike V231 (by decide)) C229.1)
         have V237 : Arv Z h235 b221 k221 .char (3 : Int32) [(.int c_20), (.int (nar .char c_22)), (.int (0 : Int32))] (.int (0 : Int32)) := Arv.set Aru234 qu234 Su234 Nu234 Hu234 Gu234 (fits_nar_char _) W235 1 rfl (Nat.le_of_ble_eq_true rfl)
         have V238 : Arv Z h235 b221 k221 .char (3 : Int32) [(.int c_20), (.int c_22), (.int (0 : Int32))] (.int (0 : Int32)) := by rw [g22_0] at V237; exact V237
         have K239 : Keep h0 h235 [] := K232.wr W235 (Or.inr sz223)
         have N240 := Fr.snoc X235 N233 ge222
         refine w_dup X235 hx (hb hby at_108) rfl (pc' := 109) rfl ?_
         refine w_iconst X235 hx (hb hby at_109) (v := (2 : Int32)) rfl (pc' := 110) rfl ?_
         refine w_iload X235 hx (hb hby at_110) rfl (pc' := 112) rfl ?_
         obtain ⟨clu241, Aru241, qu241, Su241, Nu241, Hu241, Gu241⟩ := id V238
         have hinu241 := inb_of (j := (2 : Int32)) Su241 ⟨by decide, by decide⟩
         refine w_stC X235 hx hZ e235 Aru241 hinu241 (hb hby at_112) (pc' := 113) rfl ?_
         intro T242 h242 X242 e242 W242
         have C243 : CHr Z EL s.vm h0 s.vm h242 := C236.trans (CHr.wr W242 (Safe.arv hZ.alike V238 (by decide)) C236.1)
         have V244 : Arv Z h242 b221 k221 .char (3 : Int32) [(.int c_20), (.int c_22), (.int (nar .char c_24))] (.int (0 : Int32)) := Arv.set Aru241 qu241 Su241 Nu241 Hu241 Gu241 (fits_nar_char _) W242 2 rfl (Nat.le_of_ble_eq_true rfl)
         have V245 : Arv Z h242 b221 k221 .char (3 : Int32) [(.int c_20), (.int c_22), (.int c_24)] (.int (0 : Int32)) := by rw [g24_0] at V244; exact V244
         have K246 : Keep h0 h242 [] := K239.wr W242 (Or.inr sz223)
         have N247 := Fr.snoc X242 N240 ge222
         refine w_astore X242 hx (hb hby at_113) rfl (L' := #[.val (.int p0), .val (.int p1), .val (.int p2), .val (.int p3), .val (.int p4), .val (.int ((p0 &&& (2147483647 : Int32)) % (5 : Int32))), .val (.int c_20), .val (.int c_22), .val (.int c_24), .val (.int c_26), .val (.ref b221), .unset, .unset]) rfl (pc' := 115) rfl ?_
         refine w_goto X242 hx (hb hby at_115) (pc' := 143) (by decide) (by decide) ?_
         refine w_new X242 hx hZ hown (wd_7 hw) (wd_8 hw) (wd_9 hw) e242 (hb hby at_143) (by decide) (by decide) (pc' := 146) rfl ?_
         intro T248 h248 b248 X248 e248 E248 g248 A248 D248
         have le250 : h0.size ≤ h228.size := (Nat.le_trans E221.1 (Keep.of_wr W228).1)
         have le251 : h0.size ≤ h235.size := (Nat.le_trans le250 (Keep.of_wr W235).1)
         have le252 : h0.size ≤ h242.size := (Nat.le_trans le251 (Keep.of_wr W242).1)
         have ge249 : n0 ≤ b248 := Nat.le_trans (Nat.le_trans Z0 le252) (Nat.le_of_eq g248.symm)
         have sz253 : h0.size ≤ b248 := Nat.le_trans le252 (Nat.le_of_eq g248.symm)
         have C254 : CHr Z EL s.vm h0 s.vm h248 := C243.trans (CHr.ext E248 C243.1)
         have K255 : Keep h0 h248 [] := K246.ext E248
         have f256 : Fld Z h248 b248 kc0 "value" "[B" .null := D248 (Or.inr (wd_22 hw)) (ty := (.array .byte)) (by decide)
         have f257 : Fld Z h248 b248 kc0 "coder" "B" (.int (0 : Int32)) := D248 (Or.inr (wd_23 hw)) (ty := .byte) (by decide)
         refine w_dup X248 hx (hb hby at_146) rfl (pc' := 147) rfl ?_
         refine w_aload X248 hx (hb hby at_147) rfl rfl (pc' := 149) rfl ?_
         have f258 : Arv Z h248 b221 k221 .char (3 : Int32) [(.int c_20), (.int c_22), (.int c_24)] (.int (0 : Int32)) := (V245.ext E248)
         have f259 : Old Z n0 h248 := (((((O0.ext E221).wr W228 ge222).wr W235 ge222).wr W242 ge222).ext E248)
         have le260 : h0.size ≤ h248.size := (Nat.le_trans le252 E248.1)
         refine w_special X248 hx (y := yn_2) rfl hown (mvT hZ (wd_10 hw)) (mvT hZ (wd_11 hw)) (mvT hZ (wd_12 hw)) (by decide) (backOf (W := 1) (rm_m2_53 l Z aZ hw [] b248 b221 k221 c_20 c_22 c_24 G_COMPACT_STRINGS h248 n0 (Nat.le_trans Z0 le260) f258 hP_2 g20_0 g22_0 g24_0 A248 f257 f256 S_COMPACT_STRINGS f259 S__assertionsDisabled S_HI_BYTE_SHIFT S_LO_BYTE_SHIFT ge249) hZ (wd_12 hw) (wd_9 hw) (by decide) (by decide)) (by rw [hml]; rfl) [(.ref b221)] (lenOf pd_2 rfl) rfl (Nat.le_of_eq rfl) (hb hby at_149) (fun _ _ => ⟨rfl, e248, (by decide : 2 + 2 ≤ _), (by decide : 7 + 9 ≤ _)⟩) (pc' := 152) rfl ?_
         rintro _ _ ⟨T261, L261, k261, n261⟩ X261 ⟨Lc261, hQ261, l261, y261, z261⟩
         dsimp only [Pt.U, Pt.locs, Pt.cells, Pt.slots] at X261 l261 y261 z261 hQ261 ⊢
         subst l261 y261 z261
         rcases hQ261 with ⟨t_261, kb_261, rfl, N261q, K261, g261_0, g261_1, g261_2, g261_3, g261_4, g261_5, g261_6, g261_7⟩ | ⟨t_261, kb_261, rfl, N261q, K261, g261_0, g261_1, g261_2, g261_3, g261_4, g261_5⟩
         · have N262 := Fr.app N247 N261q
           have y263 : Safe Z EL s.vm h248 b248 := (Safe.ext E248 C243.1 (Safe.new (Nat.le_of_eq g248.symm)))
           have C264 : CHr Z EL s.vm h0 s.vm T261.heap := C254.trans (CHr.keep K261 (sfS y263 sf0) C254.1)
           have K265 : Keep h0 T261.heap [] := K255.trans K261 (allS (Or.inr sz253) (all0 (P := fun x => x ∈ [] ∨ h0.size ≤ x)))
           have ge266 : n0 ≤ t_261 := Nat.le_trans (Nat.le_trans Z0 le260) g261_3
           have sz267 : h0.size ≤ t_261 := Nat.le_trans le260 g261_3
           show Runs _ _ _ _ (T261.setTop (mkF m 152 #[.val (.int p0), .val (.int p1), .val (.int p2), .val (.int p3), .val (.int p4), .val (.int ((p0 &&& (2147483647 : Int32)) % (5 : Int32))), .val (.int c_20), .val (.int c_22), .val (.int c_24), .val (.int c_26), .val (.ref b221), .unset, .unset] [(.ref b248)]))
           refine w_astore X261 hx (hb hby at_152) rfl (L' := #[.val (.int p0), .val (.int p1), .val (.int p2), .val (.int p3), .val (.int p4), .val (.int ((p0 &&& (2147483647 : Int32)) % (5 : Int32))), .val (.int c_20), .val (.int c_22), .val (.int c_24), .val (.int c_26), .val (.ref b221), .val (.ref b248), .unset]) rfl (pc' := 154) rfl ?_
           refine w_iload X261 hx (hb hby at_154) rfl (pc' := 156) rfl ?_
           refine w_iconst X261 hx (hb hby at_156) (v := (1 : Int32)) rfl (pc' := 157) rfl ?_
           refine w_icY X261 hx (hb hby at_157) (feq hc56).2 (pc' := 167) (by decide) (by decide) ?_
           refine w_iload X261 hx (hb hby at_167) rfl (pc' := 169) rfl ?_
           refine w_iconst X261 hx (hb hby at_169) (v := (2 : Int32)) rfl (pc' := 170) rfl ?_
           refine w_icY X261 hx (hb hby at_170) (feq hc125).2 (pc' := 191) (by decide) (by decide) ?_
           refine w_iconst X261 hx (hb hby at_191) (v := (0 : Int32)) rfl (pc' := 192) rfl ?_
           refine w_istore X261 hx (hb hby at_192) (L' := #[.val (.int p0), .val (.int p1), .val (.int p2), .val (.int p3), .val (.int p4), .val (.int ((p0 &&& (2147483647 : Int32)) % (5 : Int32))), .val (.int c_20), .val (.int c_22), .val (.int c_24), .val (.int c_26), .val (.ref b221), .val (.ref b248), .val (.int (0 : Int32))]) rfl (pc' := 194) rfl ?_
           refine w_aload X261 hx (hb hby at_194) rfl rfl (pc' := 196) rfl ?_
           have f270 : Old Z n0 T261.heap := (f259.keep K261 (allS ge249 all0))
           have le271 : h0.size ≤ T261.heap.size := (Nat.le_trans le260 K261.1)
           have y273 : Safe Z EL s.vm T261.heap b248 := (Safe.keep K261 (sfS y263 sf0) C254.1 y263)
           refine w_staticS X261 hx (y := yn_5) hown (mvT hZ (wd_28 hw)) (mvT hZ (wd_29 hw)) (mvT hZ (wd_30 hw)) (mvT hZ (wd_31 hw)) (by decide) (backOfY (W := 0) (rm_m5_66 l Z aZ hw [] b248 t_261 kb_261 (c_20.toInt8.toInt32) (c_22.toInt8.toInt32) (c_24.toInt8.toInt32) G_COMPACT_STRINGS T261.heap n0 (Nat.le_trans Z0 le271) g261_0 hP_2 g261_1 g261_2 g261_4 S_COMPACT_STRINGS f270) hZ (wd_31 hw) (wd_30 hw) (by decide) (by decide) (own_EW hw) C264.1 (sfS y273 sf0) (allS (Nat.lt_of_lt_of_le A248.lt K261.1) all0)) (by rw [hml]; rfl) [(.ref b248)] (lenOf pd_5 rfl) rfl (Nat.le_of_eq rfl) (hb hby at_196) (fun _ _ => ⟨rfl, rfl, (by decide : 4 + 4 ≤ _), (by decide : 16 + 20 ≤ _)⟩) (pc' := 199) rfl ?_
           rintro _ _ ⟨T272, L272, k272, n272⟩ XX272 hSS272 hg272 ⟨Lc272, hQ272, l272, y272, z272, A272⟩
           dsimp only [Pt.U, Pt.locs, Pt.cells, Pt.slots] at XX272 l272 y272 z272 hQ272 hSS272 hg272 A272 ⊢
           subst l272 y272 z272
           obtain ⟨X272, hS272, hZ272, hown272⟩ := rebS hS0 (Nat.le_trans (Nat.le_refl _) le271) XX272 hSS272 hg272 hZ hown
           obtain ⟨rfl, N272q, K272⟩ := hQ272
           have N274 := Fr.app N262 N272q
           have C275 : CHr Z EL s.vm h0 T272.vm T272.heap := C264.trans A272
           have K276 : Keep h0 T272.heap [] := K265.trans K272 (all0 (P := fun x => x ∈ [] ∨ h0.size ≤ x))
           show Runs _ _ _ _ (T272.setTop (mkF m 199 #[.val (.int p0), .val (.int p1), .val (.int p2), .val (.int p3), .val (.int p4), .val (.int ((p0 &&& (2147483647 : Int32)) % (5 : Int32))), .val (.int c_20), .val (.int c_22), .val (.int c_24), .val (.int c_26), .val (.ref b221), .val (.ref b248), .val (.int (0 : Int32))] [(.int (0 : Int32))]))
           refine w_iload X272 hx (hb hby at_199) rfl (pc' := 201) rfl ?_
           refine w_icN X272 hx (hb hby at_201) (teq (by decide : (0 : Int32) = (0 : Int32))).2 (pc' := 204) rfl ?_
           refine w_iconst X272 hx (hb hby at_204) (v := (1 : Int32)) rfl (pc' := 205) rfl ?_
           refine w_goto X272 hx (hb hby at_205) (pc' := 209) (by decide) (by decide) ?_
           exact w_doneH X272 hlk (v := some (.int (1 : Int32))) rfl hh hZ272 (own_EW hw) hS272 (Nat.le_refl _) C275 (fun h => by rw [hret] at h; cases h) (fun fs hr => retN X272 hx (t := .boolean) hret (by simp) (hb hby at_209) hr) (by decide) (by decide) (fun hsy => ⟨rfl, N274⟩)
         · have N277 := Fr.app N247 N261q
           have y278 : Safe Z EL s.vm h248 b248 := (Safe.ext E248 C243.1 (Safe.new (Nat.le_of_eq g248.symm)))
           have C279 : CHr Z EL s.vm h0 s.vm T261.heap := C254.trans (CHr.keep K261 (sfS y278 sf0) C254.1)
           have K280 : Keep h0 T261.heap [] := K255.trans K261 (allS (Or.inr sz253) (all0 (P := fun x => x ∈ [] ∨ h0.size ≤ x)))
           have ge281 : n0 ≤ t_261 := Nat.le_trans (Nat.le_trans Z0 le260) g261_3
           have sz282 : h0.size ≤ t_261 := Nat.le_trans le260 g261_3
           show Runs _ _ _ _ (T261.setTop (mkF m 152 #[.val (.int p0), .val (.int p1), .val (.int p2), .val (.int p3), .val (.int p4), .val (.int ((p0 &&& (2147483647 : Int32)) % (5 : Int32))), .val (.int c_20), .val (.int c_22), .val (.int c_24), .val (.int c_26), .val (.ref b221), .unset, .unset] [(.ref b248)]))
           refine w_astore X261 hx (hb hby at_152) rfl (L' := #[.val (.int p0), .val (.int p1), .val (.int p2), .val (.int p3), .val (.int p4), .val (.int ((p0 &&& (2147483647 : Int32)) % (5 : Int32))), .val (.int c_20), .val (.int c_22), .val (.int c_24), .val (.int c_26), .val (.ref b221), .val (.ref b248), .unset]) rfl (pc' := 154) rfl ?_
           refine w_iload X261 hx (hb hby at_154) rfl (pc' := 156) rfl ?_
           refine w_iconst X261 hx (hb hby at_156) (v := (1 : Int32)) rfl (pc' := 157) rfl ?_
           refine w_icY X261 hx (hb hby at_157) (feq hc56).2 (pc' := 167) (by decide) (by decide) ?_
           refine w_iload X261 hx (hb hby at_167) rfl (pc' := 169) rfl ?_
           refine w_iconst X261 hx (hb hby at_169) (v := (2 : Int32)) rfl (pc' := 170) rfl ?_
           refine w_icY X261 hx (hb hby at_170) (feq hc125).2 (pc' := 191) (by decide) (by decide) ?_
           refine w_iconst X261 hx (hb hby at_191) (v := (0 : Int32)) rfl (pc' := 192) rfl ?_
           refine w_istore X261 hx (hb hby at_192) (L' := #[.val (.int p0), .val (.int p1), .val (.int p2), .val (.int p3), .val (.int p4), .val (.int ((p0 &&& (2147483647 : Int32)) % (5 : Int32))), .val (.int c_20), .val (.int c_22), .val (.int c_24), .val (.int c_26), .val (.ref b221), .val (.ref b248), .val (.int (0 : Int32))]) rfl (pc' := 194) rfl ?_
           refine w_aload X261 hx (hb hby at_194) rfl rfl (pc' := 196) rfl ?_
           have f283 : Old Z n0 T261.heap := (f259.keep K261 (allS ge249 all0))
           have le284 : h0.size ≤ T261.heap.size := (Nat.le_trans le260 K261.1)
           have y286 : Safe Z EL s.vm T261.heap b248 := (Safe.keep K261 (sfS y278 sf0) C254.1 y278)
           refine w_staticS X261 hx (y := yn_5) hown (mvT hZ (wd_28 hw)) (mvT hZ (wd_29 hw)) (mvT hZ (wd_30 hw)) (mvT hZ (wd_31 hw)) (by decide) (backOfY (W := 0) (rm_m5_28 l Z aZ hw [] b248 G_COMPACT_STRINGS T261.heap n0 (Nat.le_trans Z0 le284) g261_0 hP_2 g261_1 S_COMPACT_STRINGS f283) hZ (wd_31 hw) (wd_30 hw) (by decide) (by decide) (own_EW hw) C279.1 (sfS y286 sf0) (allS (Nat.lt_of_lt_of_le A248.lt K261.1) all0)) (by rw [hml]; rfl) [(.ref b248)] (lenOf pd_5 rfl) rfl (Nat.le_of_eq rfl) (hb hby at_196) (fun _ _ => ⟨rfl, rfl, (by decide : 4 + 4 ≤ _), (by decide : 16 + 20 ≤ _)⟩) (pc' := 199) rfl ?_
           rintro _ _ ⟨T285, L285, k285, n285⟩ XX285 hSS285 hg285 ⟨Lc285, hQ285, l285, y285, z285, A285⟩
           dsimp only [Pt.U, Pt.locs, Pt.cells, Pt.slots] at XX285 l285 y285 z285 hQ285 hSS285 hg285 A285 ⊢
           subst l285 y285 z285
           obtain ⟨X285, hS285, hZ285, hown285⟩ := rebS hS0 (Nat.le_trans (Nat.le_refl _) le284) XX285 hSS285 hg285 hZ hown
           obtain ⟨rfl, N285q, K285⟩ := hQ285
           have N287 := Fr.app N277 N285q
           have C288 : CHr Z EL s.vm h0 T285.vm T285.heap := C279.trans A285
           have K289 : Keep h0 T285.heap [] := K280.trans K285 (all0 (P := fun x => x ∈ [] ∨ h0.size ≤ x))
           show Runs _ _ _ _ (T285.setTop (mkF m 199 #[.val (.int p0), .val (.int p1), .val (.int p2), .val (.int p3), .val (.int p4), .val (.int ((p0 &&& (2147483647 : Int32)) % (5 : Int32))), .val (.int c_20), .val (.int c_22), .val (.int c_24), .val (.int c_26), .val (.ref b221), .val (.ref b248), .val (.int (0 : Int32))] [(.int (0 : Int32))]))
           refine w_iload X285 hx (hb hby at_199) rfl (pc' := 201) rfl ?_
           refine w_icN X285 hx (hb hby at_201) (teq (by decide : (0 : Int32) = (0 : Int32))).2 (pc' := 204) rfl ?_
           refine w_iconst X285 hx (hb hby at_204) (v := (1 : Int32)) rfl (pc' := 205) rfl ?_
           refine w_goto X285 hx (hb hby at_205) (pc' := 209) (by decide) (by decide) ?_
           exact w_doneH X285 hlk (v := some (.int (1 : Int32))) rfl hh hZ285 (own_EW hw) hS285 (Nat.le_refl _) C288 (fun h => by rw [hret] at h; cases h) (fun fs hr => retN X285 hx (t := .boolean) hret (by simp) (hb hby at_209) hr) (by decide) (by decide) (fun hsy => ⟨rfl, N287⟩)
       · refine w_icY X26 hx (hb hby at_92) (feq hc220).2 (pc' := 118) (by decide) (by decide) ?_
         refine w_iconst X26 hx (hb hby at_118) (v := (4 : Int32)) rfl (pc' := 119) rfl ?_
         refine w_newP X26 hx .char .char 4 rfl hZ (wd_6 hw) e26 (hb hby at_119) (by decide) (by decide) (by decide) (by decide) (by decide) (pc' := 121) rfl ?_
         intro T290 h290 k290 b290 X290 e290 E290 g290 A290
         have ge291 : n0 ≤ b290 := Nat.le_trans Z0 (Nat.le_of_eq g290.symm)
         have sz292 : h0.size ≤ b290 := Nat.le_trans (Nat.le_refl _) (Nat.le_of_eq g290.symm)
         have C293 : CHr Z EL s.vm h0 s.vm h290 := C0.trans (CHr.ext E290 C0.1)
         have K294 : Keep h0 h290 [] := (Keep.refl h0 []).ext E290
         have V295 : Arv Z h290 b290 k290 .char (4 : Int32) [(.int (0 : Int32)), (.int (0 : Int32)), (.int (0 : Int32)), (.int (0 : Int32))] (.int (0 : Int32)) := (Arv.new A290 (by decide)).pad (pad_rep [] (.int (0 : Int32)) 4)
         refine w_dup X290 hx (hb hby at_121) rfl (pc' := 122) rfl ?_
         refine w_iconst X290 hx (hb hby at_122) (v := (0 : Int32)) rfl (pc' := 123) rfl ?_
         refine w_iload X290 hx (hb hby at_123) rfl (pc' := 125) rfl ?_
         obtain ⟨clu296, Aru296, qu296, Su296, Nu296, Hu296, Gu296⟩ := id V295
         have hinu296 := inb_of (j := (0 : Int32)) Su296 ⟨by decide, by decide⟩
         refine w_stC X290 hx hZ e290 Aru296 hinu296 (hb hby at_125) (pc' := 126) rfl ?_
         intro T297 h297 X297 e297 W297
         have C298 : CHr Z EL s.vm h0 s.vm h297 := C293.trans (CHr.wr W297 (Safe.arv hZ.alike V295 (by decide)) C293.1)
         have V299 : Arv Z h297 b290 k290 .char (4 : Int32) [(.int (nar .char c_20)), (.int (0 : Int32)), (.int (0 : Int32)), (.int (0 : Int32))] (.int (0 : Int32)) := Arv.set Aru296 qu296 Su296 Nu296 Hu296 Gu296 (fits_nar_char _) W297 0 rfl (Nat.le_of_ble_eq_true rfl)
         have V300 : Arv Z h297 b290 k290 .char (4 : Int32) [(.int c_20), (.int (0 : Int32)), (.int (0 : Int32)), (.int (0 : Int32))] (.int (0 : Int32)) := by rw [g20_0] at V299; exact V299
         have K301 : Keep h0 h297 [] := K294.wr W297 (Or.inr sz292)
         have N302 := Fr.snoc X297 N27 ge291
         refine w_dup X297 hx (hb hby at_126) rfl (pc' := 127) rfl ?_
         refine w_iconst X297 hx (hb hby at_127) (v := (1 : Int32)) rfl (pc' := 128) rfl ?_
         refine w_iload X297 hx (hb hby at_128) rfl (pc' := 130) rfl ?_
         obtain ⟨clu303, Aru303, qu303, Su303, Nu303, Hu303, Gu303⟩ := id V300
         have hinu303 := inb_of (j := (1 : Int32)) Su303 ⟨by decide, by decide⟩
         refine w_stC X297 hx hZ e297 Aru303 hinu303 (hb hby at_130) (pc' := 131) rfl ?_
         intro T304 h304 X304 e304 W304
         have C305 : CHr Z EL s.vm h0 s.vm h304 := C298.trans (CHr.wr W304 (Safe.arv hZ.alike V300 (by decide)) C298.1)
         have V306 : Arv Z h304 b290 k290 .char (4 : Int32) [(.int c_20), (.int (nar .char c_22)), (.int (0 : Int32)), (.int (0 : Int32))] (.int (0 : Int32)) := Arv.set Aru303 qu303 Su303 Nu303 Hu303 Gu303 (fits_nar_char _) W304 1 rfl (Nat.le_of_ble_eq_true rfl)
         have V307 : Arv Z h304 b290 k290 .char (4 : Int32) [(.int c_20), (.int c_22), (.int (0 : Int32)), (.int (0 : Int32))] (.int (0 : Int32)) := by rw [g22_0] at V306; exact V306
         have K308 : Keep h0 h304 [] := K301.wr W304 (Or.inr sz292)
         have N309 := Fr.snoc X304 N302 ge291
         refine w_dup X304 hx (hb hby at_131) rfl (pc' := 132) rfl ?_
         refine w_iconst X304 hx (hb hby at_132) (v := (2 : Int32)) rfl (pc' := 133) rfl ?_
         refine w_iload X304 hx (hb hby at_133) rfl (pc' := 135) rfl ?_
         obtain ⟨clu310, Aru310, qu310, Su310, Nu310, Hu310, Gu310⟩ := id V307
         have hinu310 := inb_of (j := (2 : Int32)) Su310 ⟨by decide, by decide⟩
         refine w_stC X304 hx hZ e304 Aru310 hinu310 (hb hby at_135) (pc' := 136) rfl ?_
         intro T311 h311 X311 e311 W311
         have C312 : CHr Z EL s.vm h0 s.vm h311 := C305.trans (CHr.wr W311 (Safe.arv hZ.alike V307 (by decide)) C305.1)
         have V313 : Arv Z h311 b290 k290 .char (4 : Int32) [(.int c_20), (.int c_22), (.int (nar .char c_24)), (.int (0 : Int32))] (.int (0 : Int32)) := Arv.set Aru310 qu310 Su310 Nu310 Hu310 Gu310 (fits_nar_char _) W311 2 rfl (Nat.le_of_ble_eq_true rfl)
         have V314 : Arv Z h311 b290 k290 .char (4 : Int32) [(.int c_20), (.int c_22), (.int c_24), (.int (0 : Int32))] (.int (0 : Int32)) := by rw [g24_0] at V313; exact V313
         have K315 : Keep h0 h311 [] := K308.wr W311 (Or.inr sz292)
         have N316 := Fr.snoc X311 N309 ge291
         refine w_dup X311 hx (hb hby at_136) rfl (pc' := 137) rfl ?_
         refine w_iconst X311 hx (hb hby at_137) (v := (3 : Int32)) rfl (pc' := 138) rfl ?_
         refine w_iload X311 hx (hb hby at_138) rfl (pc' := 140) rfl ?_
         obtain ⟨clu317, Aru317, qu317, Su317, Nu317, Hu317, Gu317⟩ := id V314
         have hinu317 := inb_of (j := (3 : Int32)) Su317 ⟨by decide, by decide⟩
         refine w_stC X311 hx hZ e311 Aru317 hinu317 (hb hby at_140) (pc' := 141) rfl ?_
         intro T318 h318 X318 e318 W318
         have C319 : CHr Z EL s.vm h0 s.vm h318 := C312.trans (CHr.wr W318 (Safe.arv hZ.alike V314 (by decide)) C312.1)
         have V320 : Arv Z h318 b290 k290 .char (4 : Int32) [(.int c_20), (.int c_22), (.int c_24), (.int (nar .char c_26))] (.int (0 : Int32)) := Arv.set Aru317 qu317 Su317 Nu317 Hu317 Gu317 (fits_nar_char _) W318 3 rfl (Nat.le_of_ble_eq_true rfl)
         have V321 : Arv Z h318 b290 k290 .char (4 : Int32) [(.int c_20), (.int c_22), (.int c_24), (.int c_26)] (.int (0 : Int32)) := by rw [g26_0] at V320; exact V320
         have K322 : Keep h0 h318 [] := K315.wr W318 (Or.inr sz292)
         have N323 := Fr.snoc X318 N316 ge291
         refine w_astore X318 hx (hb hby at_141) rfl (L' := #[.val (.int p0), .val (.int p1), .val (.int p2), .val (.int p3), .val (.int p4), .val (.int ((p0 &&& (2147483647 : Int32)) % (5 : Int32))), .val (.int c_20), .val (.int c_22), .val (.int c_24), .val (.int c_26), .val (.ref b290), .unset, .unset]) rfl (pc' := 143) rfl ?_
         refine w_new X318 hx hZ hown (wd_7 hw) (wd_8 hw) (wd_9 hw) e318 (hb hby at_143) (by decide) (by decide) (pc' := 146) rfl ?_
         intro T324 h324 b324 X324 e324 E324 g324 A324 D324
         have le326 : h0.size ≤ h297.size := (Nat.le_trans E290.1 (Keep.of_wr W297).1)
         have le327 : h0.size ≤ h304.size := (Nat.le_trans le326 (Keep.of_wr W304).1)
         have le328 : h0.size ≤ h311.size := (Nat.le_trans le327 (Keep.of_wr W311).1)
         have le329 : h0.size ≤ h318.size := (Nat.le_trans le328 (Keep.of_wr W318).1)
         have ge325 : n0 ≤ b324 := Nat.le_trans (Nat.le_trans Z0 le329) (Nat.le_of_eq g324.symm)
         have sz330 : h0.size ≤ b324 := Nat.le_trans le329 (Nat.le_of_eq g324.symm)
         have C331 : CHr Z EL s.vm h0 s.vm h324 := C319.trans (CHr.ext E324 C319.1)
         have K332 : Keep h0 h324 [] := K322.ext E324
         have f333 : Fld Z h324 b324 kc0 "value" "[B" .null := D324 (Or.inr (wd_22 hw)) (ty := (.array .byte)) (by decide)
         have f334 : Fld Z h324 b324 kc0 "coder" "B" (.int (0 : Int32)) := D324 (Or.inr (wd_23 hw)) (ty := .byte) (by decide)
         refine w_dup X324 hx (hb hby at_146) rfl (pc' := 147) rfl ?_
         refine w_aload X324 hx (hb hby at_147) rfl rfl (pc' := 149) rfl ?_
         have f335 : Arv Z h324 b290 k290 .char (4 : Int32) [(.int c_20), (.int c_22), (.int c_24), (.int c_26)] (.int (0 : Int32)) := (V321.ext E324)
         have f336 : Old Z n0 h324 := ((((((O0.ext E290).wr W297 ge291).wr W304 ge291).wr W311 ge291).wr W318 ge291).ext E324)
         have le337 : h0.size ≤ h324.size := (Nat.le_trans le329 E324.1)
         refine w_special X324 hx (y := yn_2) rfl hown (mvT hZ (wd_10 hw)) (mvT hZ (wd_11 hw)) (mvT hZ (wd_12 hw)) (by decide) (backOf (W := 1) (rm_m2_71 l Z aZ hw [] b324 b290 k290 c_20 c_22 c_24 c_26 G_COMPACT_STRINGS h324 n0 (Nat.le_trans Z0 le337) f335 hP_2 g20_0 g22_0 g24_0 g26_0 A324 f334 f333 S_COMPACT_STRINGS f336 S__assertionsDisabled S_HI_BYTE_SHIFT S_LO_BYTE_SHIFT ge325) hZ (wd_12 hw) (wd_9 hw) (by decide) (by decide)) (by rw [hml]; rfl) [(.ref b290)] (lenOf pd_2 rfl) rfl (Nat.le_of_eq rfl) (hb hby at_149) (fun _ _ => ⟨rfl, e324, (by decide : 2 + 2 ≤ _), (by decide : 8 + 12 ≤ _)⟩) (pc' := 152) rfl ?_
         rintro _ _ ⟨T338, L338, k338, n338⟩ X338 ⟨Lc338, hQ338, l338, y338, z338⟩
         dsimp only [Pt.U, Pt.locs, Pt.cells, Pt.slots] at X338 l338 y338 z338 hQ338 ⊢
         subst l338 y338 z338
         rcases hQ338 with ⟨t_338, kb_338, rfl, N338q, K338, g338_0, g338_1, g338_2, g338_3, g338_4, g338_5, g338_6, g338_7, g338_8⟩ | ⟨t_338, kb_338, rfl, N338q, K338, g338_0, g338_1, g338_2, g338_3, g338_4, g338_5⟩
         · have N339 := Fr.app N323 N338q
           have y340 : Safe Z EL s.vm h324 b324 := (Safe.ext E324 C319.1 (Safe.new (Nat.le_of_eq g324.symm)))
           have C341 : CHr Z EL s.vm h0 s.vm T338.heap := C331.trans (CHr.keep K338 (sfS y340 sf0) C331.1)
           have K342 : Keep h0 T338.heap [] := K332.trans K338 (allS (Or.inr sz330) (all0 (P := fun x => x ∈ [] ∨ h0.size ≤ x)))
           have ge343 : n0 ≤ t_338 := Nat.le_trans (Nat.le_trans Z0 le337) g338_3
           have sz344 : h0.size ≤ t_338 := Nat.le_trans le337 g338_3
           show Runs _ _ _ _ (T338.setTop (mkF m 152 #[.val (.int p0), .val (.int p1), .val (.int p2), .val (.int p3), .val (.int p4), .val (.int ((p0 &&& (2147483647 : Int32)) % (5 : Int32))), .val (.int c_20), .val (.int c_22), .val (.int c_24), .val (.int c_26), .val (.ref b290), .unset, .unset] [(.ref b324)]))
           refine w_astore X338 hx (hb hby at_152) rfl (L' := #[.val (.int p0), .val (.int p1), .val (.int p2), .val (.int p3), .val (.int p4), .val (.int ((p0 &&& (2147483647 : Int32)) % (5 : Int32))), .val (.int c_20), .val (.int c_22), .val (.int c_24), .val (.int c_26), .val (.ref b290), .val (.ref b324), .unset]) rfl (pc' := 154) rfl ?_
           refine w_iload X338 hx (hb hby at_154) rfl (pc' := 156) rfl ?_
           refine w_iconst X338 hx (hb hby at_156) (v := (1 : Int32)) rfl (pc' := 157) rfl ?_
           refine w_icY X338 hx (hb hby at_157) (feq hc56).2 (pc' := 167) (by decide) (by decide) ?_
           refine w_iload X338 hx (hb hby at_167) rfl (pc' := 169) rfl ?_
           refine w_iconst X338 hx (hb hby at_169) (v := (2 : Int32)) rfl (pc' := 170) rfl ?_
           refine w_icY X338 hx (hb hby at_170) (feq hc125).2 (pc' := 191) (by decide) (by decide) ?_
           refine w_iconst X338 hx (hb hby at_191) (v := (0 : Int32)) rfl (pc' := 192) rfl ?_
           refine w_istore X338 hx (hb hby at_192) (L' := #[.val (.int p0), .val (.int p1), .val (.int p2), .val (.int p3), .val (.int p4), .val (.int ((p0 &&& (2147483647 : Int32)) % (5 : Int32))), .val (.int c_20), .val (.int c_22), .val (.int c_24), .val (.int c_26), .val (.ref b290), .val (.ref b324), .val (.int (0 : Int32))]) rfl (pc' := 194) rfl ?_
           refine w_aload X338 hx (hb hby at_194) rfl rfl (pc' := 196) rfl ?_
           have f347 : Old Z n0 T338.heap := (f336.keep K338 (allS ge325 all0))
           have le348 : h0.size ≤ T338.heap.size := (Nat.le_trans le337 K338.1)
           have y350 : Safe Z EL s.vm T338.heap b324 := (Safe.keep K338 (sfS y340 sf0) C331.1 y340)
           refine w_staticS X338 hx (y := yn_5) hown (mvT hZ (wd_28 hw)) (mvT hZ (wd_29 hw)) (mvT hZ (wd_30 hw)) (mvT hZ (wd_31 hw)) (by decide) (backOfY (W := 0) (rm_m5_85 l Z aZ hw [] b324 t_338 kb_338 (c_20.toInt8.toInt32) (c_22.toInt8.toInt32) (c_24.toInt8.toInt32) (c_26.toInt8.toInt32) G_COMPACT_STRINGS T338.heap n0 (Nat.le_trans Z0 le348) g338_0 hP_2 g338_1 g338_2 g338_4 S_COMPACT_STRINGS f347) hZ (wd_31 hw) (wd_30 hw) (by decide) (by decide) (own_EW hw) C341.1 (sfS y350 sf0) (allS (Nat.lt_of_lt_of_le A324.lt K338.1) all0)) (by rw [hml]; rfl) [(.ref b324)] (lenOf pd_5 rfl) rfl (Nat.le_of_eq rfl) (hb hby at_196) (fun _ _ => ⟨rfl, rfl, (by decide : 4 + 4 ≤ _), (by decide : 20 + 20 ≤ _)⟩) (pc' := 199) rfl ?_
           rintro _ _ ⟨T349, L349, k349, n349⟩ XX349 hSS349 hg349 ⟨Lc349, hQ349, l349, y349, z349, A349⟩
           dsimp only [Pt.U, Pt.locs, Pt.cells, Pt.slots] at XX349 l349 y349 z349 hQ349 hSS349 hg349 A349 ⊢
           subst l349 y349 z349
           obtain ⟨X349, hS349, hZ349, hown349⟩ := rebS hS0 (Nat.le_trans (Nat.le_refl _) le348) XX349 hSS349 hg349 hZ hown
           obtain ⟨rfl, N349q, K349⟩ := hQ349
           have N351 := Fr.app N339 N349q
           have C352 : CHr Z EL s.vm h0 T349.vm T349.heap := C341.trans A349
           have K353 : Keep h0 T349.heap [] := K342.trans K349 (all0 (P := fun x => x ∈ [] ∨ h0.size ≤ x))
           show Runs _ _ _ _ (T349.setTop (mkF m 199 #[.val (.int p0), .val (.int p1), .val (.int p2), .val (.int p3), .val (.int p4), .val (.int ((p0 &&& (2147483647 : Int32)) % (5 : Int32))), .val (.int c_20), .val (.int c_22), .val (.int c_24), .val (.int c_26), .val (.ref b290), .val (.ref b324), .val (.int (0 : Int32))] [(.int (0 : Int32))]))
           refine w_iload X349 hx (hb hby at_199) rfl (pc' := 201) rfl ?_
           refine w_icN X349 hx (hb hby at_201) (teq (by decide : (0 : Int32) = (0 : Int32))).2 (pc' := 204) rfl ?_
           refine w_iconst X349 hx (hb hby at_204) (v := (1 : Int32)) rfl (pc' := 205) rfl ?_
           refine w_goto X349 hx (hb hby at_205) (pc' := 209) (by decide) (by decide) ?_
           exact w_doneH X349 hlk (v := some (.int (1 : Int32))) rfl hh hZ349 (own_EW hw) hS349 (Nat.le_refl _) C352 (fun h => by rw [hret] at h; cases h) (fun fs hr => retN X349 hx (t := .boolean) hret (by simp) (hb hby at_209) hr) (by decide) (by decide) (fun hsy => ⟨rfl, N351⟩)
         · have N354 := Fr.app N323 N338q
           have y355 : Safe Z EL s.vm h324 b324 := (Safe.ext E324 C319.1 (Safe.new (Nat.le_of_eq g324.symm)))
           have C356 : CHr Z EL s.vm h0 s.vm T338.heap := C331.trans (CHr.keep K338 (sfS y355 sf0) C331.1)
           have K357 : Keep h0 T338.heap [] := K332.trans K338 (allS (Or.inr sz330) (all0 (P := fun x => x ∈ [] ∨ h0.size ≤ x)))
           have ge358 : n0 ≤ t_338 := Nat.le_trans (Nat.le_trans Z0 le337) g338_3
           have sz359 : h0.size ≤ t_338 := Nat.le_trans le337 g338_3
           show Runs _ _ _ _ (T338.setTop (mkF m 152 #[.val (.int p0), .val (.int p1), .val (.int p2), .val (.int p3), .val (.int p4), .val (.int ((p0 &&& (2147483647 : Int32)) % (5 : Int32))), .val (.int c_20), .val (.int c_22), .val (.int c_24), .val (.int c_26), .val (.ref b290), .unset, .unset] [(.ref b324)]))
           refine w_astore X338 hx (hb hby at_152) rfl (L' := #[.val (.int p0), .val (.int p1), .val (.int p2), .val (.int p3), .val (.int p4), .val (.int ((p0 &&& (2147483647 : Int32)) % (5 : Int32))), .val (.int c_20), .val (.int c_22), .val (.int c_24), .val (.int c_26), .val (.ref b290), .val (.ref b324), .unset]) rfl (pc' := 154) rfl ?_
           refine w_iload X338 hx (hb hby at_154) rfl (pc' := 156) rfl ?_
           refine w_iconst X338 hx (hb hby at_156) (v := (1 : Int32)) rfl (pc' := 157) rfl ?_
           refine w_icY X338 hx (hb hby at_157) (feq hc56).2 (pc' := 167) (by decide) (by decide) ?_
           refine w_iload X338 hx (hb hby at_167) rfl (pc' := 169) rfl ?_
           refine w_iconst X338 hx (hb hby at_169) (v := (2 : Int32)) rfl (pc' := 170) rfl ?_
           refine w_icY X338 hx (hb hby at_170) (feq hc125).2 (pc' := 191) (by decide) (by decide) ?_
           refine w_iconst X338 hx (hb hby at_191) (v := (0 : Int32)) rfl (pc' := 192) rfl ?_
           refine w_istore X338 hx (hb hby at_192) (L' := #[.val (.int p0), .val (.int p1), .val (.int p2), .val (.int p3), .val (.int p4), .val (.int ((p0 &&& (2147483647 : Int32)) % (5 : Int32))), .val (.int c_20), .val (.int c_22), .val (.int c_24), .val (.int c_26), .val (.ref b290), .val (.ref b324), .val (.int (0 : Int32))]) rfl (pc' := 194) rfl ?_
           refine w_aload X338 hx (hb hby at_194) rfl rfl (pc' := 196) rfl ?_
           have f360 : Old Z n0 T338.heap := (f336.keep K338 (allS ge325 all0))
           have le361 : h0.size ≤ T338.heap.size := (Nat.le_trans le337 K338.1)
           have y363 : Safe Z EL s.vm T338.heap b324 := (Safe.keep K338 (sfS y355 sf0) C331.1 y355)
           refine w_staticS X338 hx (y := yn_5) hown (mvT hZ (wd_28 hw)) (mvT hZ (wd_29 hw)) (mvT hZ (wd_30 hw)) (mvT hZ (wd_31 hw)) (by decide) (backOfY (W := 0) (rm_m5_28 l Z aZ hw [] b324 G_COMPACT_STRINGS T338.heap n0 (Nat.le_trans Z0 le361) g338_0 hP_2 g338_1 S_COMPACT_STRINGS f360) hZ (wd_31 hw) (wd_30 hw) (by decide) (by decide) (own_EW hw) C356.1 (sfS y363 sf0) (allS (Nat.lt_of_lt_of_le A324.lt K338.1) all0)) (by rw [hml]; rfl) [(.ref b324)] (lenOf pd_5 rfl) rfl (Nat.le_of_eq rfl) (hb hby at_196) (fun _ _ => ⟨rfl, rfl, (by decide : 4 + 4 ≤ _), (by decide : 20 + 20 ≤ _)⟩) (pc' := 199) rfl ?_
           rintro _ _ ⟨T362, L362, k362, n362⟩ XX362 hSS362 hg362 ⟨Lc362, hQ362, l362, y362, z362, A362⟩
           dsimp only [Pt.U, Pt.locs, Pt.cells, Pt.slots] at XX362 l362 y362 z362 hQ362 hSS362 hg362 A362 ⊢
           subst l362 y362 z362
           obtain ⟨X362, hS362, hZ362, hown362⟩ := rebS hS0 (Nat.le_trans (Nat.le_refl _) le361) XX362 hSS362 hg362 hZ hown
           obtain ⟨rfl, N362q, K362⟩ := hQ362
           have N364 := Fr.app N354 N362q
           have C365 : CHr Z EL s.vm h0 T362.vm T362.heap := C356.trans A362
           have K366 : Keep h0 T362.heap [] := K357.trans K362 (all0 (P := fun x => x ∈ [] ∨ h0.size ≤ x))
           show Runs _ _ _ _ (T362.setTop (mkF m 199 #[.val (.int p0), .val (.int p1), .val (.int p2), .val (.int p3), .val (.int p4), .val (.int ((p0 &&& (2147483647 : Int32)) % (5 : Int32))), .val (.int c_20), .val (.int c_22), .val (.int c_24), .val (.int c_26), .val (.ref b290), .val (.ref b324), .val (.int (0 : Int32))] [(.int (0 : Int32))]))
           refine w_iload X362 hx (hb hby at_199) rfl (pc' := 201) rfl ?_
           refine w_icN X362 hx (hb hby at_201) (teq (by decide : (0 : Int32) = (0 : Int32))).2 (pc' := 204) rfl ?_
           refine w_iconst X362 hx (hb hby at_204) (v := (1 : Int32)) rfl (pc' := 205) rfl ?_
           refine w_goto X362 hx (hb hby at_205) (pc' := 209) (by decide) (by decide) ?_
           exact w_doneH X362 hlk (v := some (.int (1 : Int32))) rfl hh hZ362 (own_EW hw) hS362 (Nat.le_refl _) C365 (fun h => by rw [hret] at h; cases h) (fun fs hr => retN X362 hx (t := .boolean) hret (by simp) (hb hby at_209) hr) (by decide) (by decide) (fun hsy => ⟨rfl, N364⟩)
set_option maxRecDepth 65536 in
set_option maxHeartbeats 40000000 in
theorem comes_1 {Post : Tables → Env → Array Value → State → Outcome → State → Prop} (hpost : ∀ tb e args s v u, (limb_1_1.after args s (.returned v) u = true ∧ limb_1_2.after args s (.returned v) u = true ∧ True) → ReturnedEndW s (.returned v) u (Jvm.fieldLocs frame_1_writes args s ++ Jvm.arrayLocs frame_1_arrays args s ++ Jvm.staticLocs frame_1_statics s) 24 3200 → Post tb e args s (.returned v) u) :
    ArmFor flags0 classFile x code maxLocals ret World_1 tables_1 room_1 Calls_1 rest_1 Pre_1 Post := by
  intro l hfl _ _ p e ha hc hk s m args below hf hA hF happ hP
  obtain ⟨hcalls, hrest, hpre⟩ := hP
  obtain ⟨-, -, -, hnamed, -, -, -, hat⟩ := (Spec.applies_iff hf).mp happ
  obtain ⟨hg, hn⟩ := and_e (Cond.before_iff.mp (show (Jvm.Cond.and given_1 narrow_1).before args s = true from hpre))
  obtain ⟨gv1, gv2⟩ := and_e hg
  obtain ⟨gv3, gv4⟩ := and_e gv2
  obtain ⟨gv5, gv6⟩ := and_e gv4
  obtain ⟨gv7, gv8⟩ := and_e gv6
  obtain ⟨gv9, gv10⟩ := and_e gv8
  obtain ⟨w0, w1, w2, w3, w4, rfl⟩ : ∃ w0 w1 w2 w3 w4 : Value, args = #[w0, w1, w2, w3, w4] := by
    have hs : args.size = 5 := by simpa [Cond.value, given_1] using gv1
    obtain ⟨L⟩ := args
    match L, hs with
    | [w0, w1, w2, w3, w4], _ => exact ⟨w0, w1, w2, w3, w4, rfl⟩
  have hw := fun d (hd : d ∈ tables_1) => atoms_spec (ws := Jvm.Cond.code x code maxLocals ret :: tables_1) hat d (List.mem_cons_of_mem _ hd)
  have hfit : Fit s := fun {y c} hc i hi => by
    obtain ⟨ha, rfl⟩ := Array.getElem?_eq_some_iff.mp hc
    have q := List.all_eq_true.mp ((Array.all_eq_true_iff_forall_mem.mp hF) _ (Array.getElem_mem ha)) i (List.mem_range.mpr hi)
    simpa [Array.getElem?_eq_getElem hi] using q
  obtain ⟨hsets, hown0⟩ := atoms_of _ (rest_1_c_eq ▸ (show rest_1_c.before _ s = true from hrest))
  have hr0 := Cond.before_iff.mp hown0
  obtain ⟨i0, ei0⟩ := is_v gv3
  obtain rfl : w0 = (.int i0) := Option.some.inj ei0
  obtain ⟨i1, ei1⟩ := is_v gv5
  obtain rfl : w1 = (.int i1) := Option.some.inj ei1
  obtain ⟨i2, ei2⟩ := is_v gv7
  obtain rfl : w2 = (.int i2) := Option.some.inj ei2
  obtain ⟨i3, ei3⟩ := is_v gv9
  obtain rfl : w3 = (.int i3) := Option.some.inj ei3
  obtain ⟨i4, ei4⟩ := is_v gv10
  obtain rfl : w4 = (.int i4) := Option.some.inj ei4
  obtain ⟨G_COMPACT_STRINGS, ev_G_COMPACT_STRINGS⟩ := is_v (Cond.before_iff.mp (hsets _ (List.mem_of_getElem? (i := 1) rfl)))
  have S_COMPACT_STRINGS := Sta.start ev_G_COMPACT_STRINGS (Or.inl (hsets _ (List.mem_of_getElem? (i := 0) rfl)))
  have ev__assertionsDisabled := eqv_i (Term.int_eval (1)) (Cond.before_iff.mp (hsets _ (List.mem_of_getElem? (i := 12) rfl)))
  have S__assertionsDisabled := Sta.start ev__assertionsDisabled (Or.inl (hsets _ (List.mem_of_getElem? (i := 11) rfl)))
  have ev_HI_BYTE_SHIFT := eqv_i (Term.int_eval (0)) (Cond.before_iff.mp (hsets _ (List.mem_of_getElem? (i := 15) rfl)))
  have S_HI_BYTE_SHIFT := Sta.start ev_HI_BYTE_SHIFT (Or.inl (hsets _ (List.mem_of_getElem? (i := 14) rfl)))
  have ev_LO_BYTE_SHIFT := eqv_i (Term.int_eval (8)) (Cond.before_iff.mp (hsets _ (List.mem_of_getElem? (i := 18) rfl)))
  have S_LO_BYTE_SHIFT := Sta.start ev_LO_BYTE_SHIFT (Or.inl (hsets _ (List.mem_of_getElem? (i := 17) rfl)))
  have hP_2 : ¬ (G_COMPACT_STRINGS = (0 : Int32)) := fun q => by
    have h9 := not_v (Cond.before_iff.mp (hsets _ (List.mem_of_getElem? (i := 2) rfl)))
    rw [eq_i ev_G_COMPACT_STRINGS (Term.int_eval 0) (by rw [q])] at h9
    cases h9
  have hCH : CHv s EL s.vm s.heap := CHv.start (own_EW hw) (fun p hp => hcalls.1 p hp) (hsets _ (List.mem_of_getElem? (i := 2) rfl)) (wd_21 hw) (wd_8 hw)
  obtain ⟨n, o, h1, h2, h3, _, L, rfl, ⟨rfl, N⟩, -, hq⟩ := rm_law l s _ hw tables_1 i0 i1 i2 i3 i4 G_COMPACT_STRINGS s.heap s.heap.size (Nat.le_refl _) S_COMPACT_STRINGS (Old.start s) hP_2 S__assertionsDisabled S_HI_BYTE_SHIFT S_LO_BYTE_SHIFT p e ha hc hk s m _ below hf ((Spec.applies_iff_loose hf).mp happ).1 ⟨rfl, State.Warmed39.refl s, rfl, hCH, fun x hx => nomatch hx⟩ trivial
  refine ⟨n, _, h1, h2, h3, hpost _ _ _ _ _ _ ⟨Cond.after_iff.mpr rfl, Cond.after_iff.mpr (eq_i res_at (Term.int_eval (1)) rfl), trivial⟩ ⟨hq.1, hq.2.1, hq.2.2.1, (hq.2.2.2.sift fun y hy => Or.inr (N y hy)).mono (by decide) (by decide)⟩⟩
theorem main_1_1 : Claimed_1_1 := comes_1 fun _ _ _ _ _ _ h hF => ⟨h.1, hF⟩
theorem main_1_2 : Claimed_1_2 := comes_1 fun _ _ _ _ _ _ h hF => ⟨h.2.1, hF⟩
end Jvm.Pilot.@@N@@
namespace Jvm.Pilot.@@N@@
open Jvm Jvm.ClassFile Sem Op Lib Jvm.Free Jvm.Stand Jvm.Pilot.@@N@@.Jvm.D
/-! MADE BY PROGRAM (witnessworld.py) out of the Statement's table words and the real class files: 20 classes; the members and pool entries that the words name. The judged class is class 1, her method 1. -/
namespace start1
open Jvm.ClassFile
def u (s : String) : CpInfo := .utf8 (stringToUtf16 s)
/-- a pool by its gaps: so many unusable entries, then the entry; so many at the end -/
def gap : Nat → List CpInfo → List CpInfo
  | 0, r => r
  | n + 1, r => .unusable :: gap n r
def poolList (es : List (Nat × CpInfo)) (last : Nat) : List CpInfo := es.foldr (fun e r => gap e.1 (e.2 :: r)) (gap last [])
def pool (es : List (Nat × CpInfo)) (last : Nat) : Array CpInfo := ⟨poolList es last⟩
def fileOf (pool : Array CpInfo) (this : Nat) (attrs : Array Attribute := #[]) (ms : Array MethodInfo := #[]) (fl : Nat := 33) (sup : Nat := 0) (ifs : Array Nat := #[]) (fds : Array FieldInfo := #[]) : ClassFile where
  minorVersion := 0
  majorVersion := 65
  constantPool := pool
  accessFlags := fl
  thisClass := this
  superClass := sup
  interfaces := ifs
  fields := fds
  methods := ms
  attributes := attrs
def plain (name : String) (sup : Option ClassId) : Class where
  name := name
  kind := .ordinary
  loader := none
  accessFlags := 33
  super := sup
  interfaces := #[]
  cf := none
  fields := #[]
  methods := #[]
  instanceTypes := #[]
  staticTypes := #[]
  resolved := #[]
  callSites := []
  init := .initialized
  statics := none
  mirror := none

def pool0 : Array CpInfo := pool [(5, u "<init>"), (0, u "()V"), (1, .class_ 10), (1, u "java/lang/Object")] 113

def k0c0 : Code := { maxStack := 0, maxLocals := 1, code := object_method_1_code, exceptionTable := #[], attributes := #[] }
def k0m0 : Method := { name := "<init>", desc := "()V", sig := { parameters := [], returnType := none }, accessFlags := 1, code := some k0c0 }
/-- java/lang/Object -/
def k0 : Class := { plain "java/lang/Object" none with
  accessFlags := 33
  interfaces := #[]
  cf := some (fileOf pool0 8 #[] #[{ accessFlags := 1, nameIndex := 5, descriptorIndex := 6, attributes := #[] }] 33 0 #[] #[])
  fields := #[]
  methods := #[k0m0]
  instanceTypes := #[]
  staticTypes := #[]
  resolved := Array.replicate 124 none
  statics := none }

def pool1 : Array CpInfo := pool [(2, .class_ 4), (1, u "java/lang/Object"), (0, u "<init>"), (0, u "()V"), (0, .integer 2147483647), (0, .methodref 9 10), (0, .class_ 11), (0, .nameAndType 12 13), (0, u "com/example/runnymede/runnymede/UriSyntaxIsDotSegmentPinLaw"), (0, u "pick"), (0, u "(I)C"), (0, .class_ 15), (0, u "java/lang/String"), (0, .methodref 14 17), (0, .nameAndType 5 18), (0, u "([C)V"), (0, .methodref 20 21), (0, .class_ 22), (0, .nameAndType 23 24), (0, u "com/example/runnymede/runnymede/UriSyntax"), (0, u "isDotSegment"), (0, u "(Ljava/lang/String;)Z"), (0, .integer 65535), (2, u "law"), (0, u "(IIIII)Z")] 5

def k1m0 : Method := { name := "<init>", desc := "()V", sig := { parameters := [], returnType := none }, accessFlags := 2, code := none }
def k1c1 : Code := { maxStack := 4, maxLocals := 13, code := code, exceptionTable := #[], attributes := #[] }
def k1m1 : Method := { name := "law", desc := "(IIIII)Z", sig := { parameters := [.int, .int, .int, .int, .int], returnType := some .boolean }, accessFlags := 9, code := some k1c1 }
def k1c2 : Code := { maxStack := 2, maxLocals := 1, code := method_3_code, exceptionTable := #[], attributes := #[] }
def k1m2 : Method := { name := "pick", desc := "(I)C", sig := { parameters := [.int], returnType := some .char }, accessFlags := 10, code := some k1c2 }
/-- com/example/runnymede/runnymede/UriSyntaxIsDotSegmentPinLaw -/
def k1 : Class := { plain "com/example/runnymede/runnymede/UriSyntaxIsDotSegmentPinLaw" (some 0) with
  accessFlags := 49
  interfaces := #[]
  cf := some (fileOf pool1 9 #[] #[{ accessFlags := 2, nameIndex := 5, descriptorIndex := 6, attributes := #[] }, { accessFlags := 9, nameIndex := 28, descriptorIndex := 29, attributes := #[] }, { accessFlags := 10, nameIndex := 12, descriptorIndex := 13, attributes := #[] }] 49 2 #[] #[])
  fields := #[]
  methods := #[k1m0, k1m1, k1m2]
  instanceTypes := #[]
  staticTypes := #[]
  resolved := Array.replicate 35 none
  statics := none }

def pool2 : Array CpInfo := pool [(1, .class_ 2), (0, u "java/io/Serializable"), (0, .class_ 4), (0, u "java/lang/Object")] 2

/-- java/io/Serializable -/
def k2 : Class := { plain "java/io/Serializable" (some 0) with
  accessFlags := 1537
  interfaces := #[]
  cf := some (fileOf pool2 1 #[] #[] 1537 3 #[] #[])
  fields := #[]
  methods := #[]
  instanceTypes := #[]
  staticTypes := #[]
  resolved := Array.replicate 7 none
  statics := none }

def pool3 : Array CpInfo := pool [(1, .class_ 2), (0, u "java/lang/Comparable"), (0, .class_ 4), (0, u "java/lang/Object")] 7

/-- java/lang/Comparable -/
def k3 : Class := { plain "java/lang/Comparable" (some 0) with
  accessFlags := 1537
  interfaces := #[]
  cf := some (fileOf pool3 1 #[] #[] 1537 3 #[] #[])
  fields := #[]
  methods := #[]
  instanceTypes := #[]
  staticTypes := #[]
  resolved := Array.replicate 12 none
  statics := none }

def pool4 : Array CpInfo := pool [(2, .class_ 4), (1, u "java/lang/CharSequence"), (42, .class_ 48), (0, u "java/lang/CharSequence$1CodePointIterator"), (10, .class_ 60), (0, u "java/lang/CharSequence$1CharIterator"), (5, .class_ 67), (0, u "java/lang/Object")] 63

/-- java/lang/CharSequence -/
def k4 : Class := { plain "java/lang/CharSequence" (some 0) with
  accessFlags := 1537
  interfaces := #[]
  cf := some (fileOf pool4 2 #[.nestMembers #[47, 59]] #[] 1537 66 #[] #[])
  fields := #[]
  methods := #[]
  instanceTypes := #[]
  staticTypes := #[]
  resolved := Array.replicate 131 none
  statics := none }

def pool5 : Array CpInfo := pool [(1, .class_ 2), (0, u "java/lang/constant/Constable"), (0, .class_ 4), (0, u "java/lang/Object")] 6

/-- java/lang/constant/Constable -/
def k5 : Class := { plain "java/lang/constant/Constable" (some 0) with
  accessFlags := 1537
  interfaces := #[]
  cf := some (fileOf pool5 1 #[] #[] 1537 3 #[] #[])
  fields := #[]
  methods := #[]
  instanceTypes := #[]
  staticTypes := #[]
  resolved := Array.replicate 11 none
  statics := none }

def pool6 : Array CpInfo := pool [(1, .class_ 2), (0, u "java/lang/constant/ConstantDesc"), (0, .class_ 4), (0, u "java/lang/Object")] 32

/-- java/lang/constant/ConstantDesc -/
def k6 : Class := { plain "java/lang/constant/ConstantDesc" (some 0) with
  accessFlags := 1537
  interfaces := #[]
  cf := some (fileOf pool6 1 #[] #[] 1537 3 #[] #[])
  fields := #[]
  methods := #[]
  instanceTypes := #[]
  staticTypes := #[]
  resolved := Array.replicate 37 none
  statics := none }

def pool7 : Array CpInfo := pool [(1, .methodref 2 3), (0, .class_ 4), (0, .nameAndType 5 6), (0, u "java/lang/Object"), (0, u "<init>"), (0, u "()V"), (0, .string 8), (0, u ""), (0, .fieldref 10 11), (0, .class_ 12), (0, .nameAndType 13 14), (0, u "java/lang/String"), (0, u "value"), (0, u "[B"), (0, .fieldref 10 16), (0, .nameAndType 17 18), (0, u "coder"), (0, u "B"), (2, u "hash"), (0, u "I"), (2, u "hashIsZero"), (0, u "Z"), (0, .methodref 10 28), (0, .nameAndType 5 29), (0, u "([CIILjava/lang/Void;)V"), (8, .fieldref 10 39), (0, .nameAndType 40 26), (0, u "COMPACT_STRINGS"), (1, .class_ 44), (1, u "java/lang/StringUTF16"), (0, u "compress"), (1, .methodref 42 48), (0, .nameAndType 49 50), (0, u "coderFromArrayLen"), (0, u "([BI)B"), (56, .class_ 109), (1, u "java/lang/StringLatin1"), (67, .methodref 42 178), (0, .nameAndType 45 179), (0, u "([CII)[B"), (361, .methodref 107 542), (0, .nameAndType 543 544), (0, u "equals"), (0, u "([B[B)Z"), (28, u "(Ljava/lang/Object;)Z"), (1, .class_ 576), (0, u "java/lang/CharSequence"), (22, u "CASE_INSENSITIVE_ORDER"), (0, u "Ljava/util/Comparator;"), (409, u "([C)V"), (90, u "serialPersistentFields"), (0, u "[Ljava/io/ObjectStreamField;"), (0, .class_ 1104), (0, u "java/lang/String$CaseInsensitiveComparator"), (1, .class_ 1107), (0, u "java/io/Serializable"), (0, .class_ 1109), (0, u "java/lang/Comparable"), (0, .class_ 1111), (0, u "java/lang/constant/Constable"), (0, .class_ 1113), (0, u "java/lang/constant/ConstantDesc"), (2, u "serialVersionUID"), (0, u "J"), (3, u "REPL"), (0, u "C"), (2, u "LATIN1"), (1, u "UTF16")] 323

def k7m0 : Method := { name := "<init>", desc := "()V", sig := { parameters := [], returnType := none }, accessFlags := 1, code := none }
def k7c1 : Code := { maxStack := 5, maxLocals := 2, code := jdk_42_method_3_code, exceptionTable := #[], attributes := #[] }
def k7m1 : Method := { name := "<init>", desc := "([C)V", sig := { parameters := [(.array .char)], returnType := none }, accessFlags := 1, code := some k7c1 }
def k7c2 : Code := { maxStack := 2, maxLocals := 3, code := jdk_42_method_66_code, exceptionTable := #[], attributes := #[] }
def k7m2 : Method := { name := "equals", desc := "(Ljava/lang/Object;)Z", sig := { parameters := [(.object "java/lang/Object")], returnType := some .boolean }, accessFlags := 1, code := some k7c2 }
def k7c3 : Code := { maxStack := 4, maxLocals := 6, code := jdk_42_method_149_code, exceptionTable := #[], attributes := #[] }
def k7m3 : Method := { name := "<init>", desc := "([CIILjava/lang/Void;)V", sig := { parameters := [(.array .char), .int, .int, (.object "java/lang/Void")], returnType := none }, accessFlags := 2, code := some k7c3 }
/-- java/lang/String -/
def k7 : Class := { plain "java/lang/String" (some 0) with
  accessFlags := 49
  interfaces := #[2, 3, 4, 5, 6]
  cf := some (fileOf pool7 10 #[.nestMembers #[1103]] #[{ accessFlags := 1, nameIndex := 5, descriptorIndex := 6, attributes := #[] }, { accessFlags := 1, nameIndex := 5, descriptorIndex := 1010, attributes := #[] }, { accessFlags := 1, nameIndex := 543, descriptorIndex := 573, attributes := #[] }, { accessFlags := 2, nameIndex := 5, descriptorIndex := 29, attributes := #[] }] 49 2 #[1106, 1108, 575, 1110, 1112] #[{ accessFlags := 18, nameIndex := 13, descriptorIndex := 14, attributes := #[] }, { accessFlags := 18, nameIndex := 17, descriptorIndex := 18, attributes := #[] }, { accessFlags := 2, nameIndex := 21, descriptorIndex := 22, attributes := #[] }, { accessFlags := 2, nameIndex := 25, descriptorIndex := 26, attributes := #[] }, { accessFlags := 26, nameIndex := 1116, descriptorIndex := 1117, attributes := #[] }, { accessFlags := 24, nameIndex := 40, descriptorIndex := 26, attributes := #[] }, { accessFlags := 26, nameIndex := 1101, descriptorIndex := 1102, attributes := #[] }, { accessFlags := 26, nameIndex := 1121, descriptorIndex := 1122, attributes := #[] }, { accessFlags := 25, nameIndex := 599, descriptorIndex := 600, attributes := #[] }, { accessFlags := 24, nameIndex := 1125, descriptorIndex := 18, attributes := #[] }, { accessFlags := 24, nameIndex := 1127, descriptorIndex := 18, attributes := #[] }])
  fields := #[{ name := "value", type := (.array .byte), accessFlags := 18, slot := 0, constantValue := 0 }, { name := "coder", type := .byte, accessFlags := 18, slot := 1, constantValue := 0 }, { name := "hash", type := .int, accessFlags := 2, slot := 2, constantValue := 0 }, { name := "hashIsZero", type := .boolean, accessFlags := 2, slot := 3, constantValue := 0 }, { name := "serialVersionUID", type := .long, accessFlags := 26, slot := 0, constantValue := 0 }, { name := "COMPACT_STRINGS", type := .boolean, accessFlags := 24, slot := 1, constantValue := 0 }, { name := "serialPersistentFields", type := (.array (.object "java/io/ObjectStreamField")), accessFlags := 26, slot := 2, constantValue := 0 }, { name := "REPL", type := .char, accessFlags := 26, slot := 3, constantValue := 0 }, { name := "CASE_INSENSITIVE_ORDER", type := (.object "java/util/Comparator"), accessFlags := 25, slot := 4, constantValue := 0 }, { name := "LATIN1", type := .byte, accessFlags := 24, slot := 5, constantValue := 0 }, { name := "UTF16", type := .byte, accessFlags := 24, slot := 6, constantValue := 0 }]
  methods := #[k7m0, k7m1, k7m2, k7m3]
  instanceTypes := #[(.array .byte), .byte, .int, .boolean]
  staticTypes := #[.long, .boolean, (.array (.object "java/io/ObjectStreamField")), .char, (.object "java/util/Comparator"), .byte, .byte]
  resolved := Array.replicate 1451 none
  statics := some 0 }

def pool8 : Array CpInfo := pool [(2, .class_ 4), (1, u "java/lang/Object"), (0, u "<init>"), (0, u "()V"), (7, .class_ 16), (1, u "com/example/runnymede/runnymede/UriSyntax$Components"), (3, .class_ 22), (1, u "com/example/runnymede/runnymede/UriSyntax"), (25, .class_ 50), (1, u "java/lang/String"), (7, u "(Ljava/lang/String;)Z"), (89, u "isDotSegment"), (3, .string 153), (0, u ".."), (0, .methodref 48 155), (0, .nameAndType 156 157), (0, u "equals"), (0, u "(Ljava/lang/Object;)Z"), (22, .string 181), (0, u "."), (30, .class_ 213), (0, u "com/example/runnymede/runnymede/UriSyntax$Authority"), (41, u "COMPONENTS"), (0, u "Ljava/util/regex/Pattern;")] 47

def k8m0 : Method := { name := "<init>", desc := "()V", sig := { parameters := [], returnType := none }, accessFlags := 2, code := none }
def k8c1 : Code := { maxStack := 2, maxLocals := 1, code := prog_59_method_10_code, exceptionTable := #[], attributes := #[] }
def k8m1 : Method := { name := "isDotSegment", desc := "(Ljava/lang/String;)Z", sig := { parameters := [(.object "java/lang/String")], returnType := some .boolean }, accessFlags := 8, code := some k8c1 }
/-- com/example/runnymede/runnymede/UriSyntax -/
def k8 : Class := { plain "com/example/runnymede/runnymede/UriSyntax" (some 0) with
  accessFlags := 48
  interfaces := #[]
  cf := some (fileOf pool8 20 #[.nestMembers #[14, 212]] #[{ accessFlags := 2, nameIndex := 5, descriptorIndex := 6, attributes := #[] }, { accessFlags := 8, nameIndex := 148, descriptorIndex := 58, attributes := #[] }] 48 2 #[] #[{ accessFlags := 26, nameIndex := 255, descriptorIndex := 256, attributes := #[] }])
  fields := #[{ name := "COMPONENTS", type := (.object "java/util/regex/Pattern"), accessFlags := 26, slot := 0, constantValue := 0 }]
  methods := #[k8m0, k8m1]
  instanceTypes := #[]
  staticTypes := #[(.object "java/util/regex/Pattern")]
  resolved := Array.replicate 304 none
  statics := none }

def pool9 : Array CpInfo := pool [(4, .class_ 6), (1, u "java/lang/Object"), (0, u "<init>"), (0, u "()V"), (5, .class_ 16), (1, u "java/lang/StringLatin1"), (104, u "$assertionsDisabled"), (0, u "Z"), (98, .class_ 223), (1, u "java/lang/StringLatin1$LinesSpliterator"), (57, u "equals"), (0, u "([B[B)Z"), (107, .class_ 391), (0, u "java/lang/StringLatin1$CharsSpliterator")] 3

def k9m0 : Method := { name := "<init>", desc := "()V", sig := { parameters := [], returnType := none }, accessFlags := 0, code := none }
def k9c1 : Code := { maxStack := 3, maxLocals := 3, code := jdk_43_method_13_code, exceptionTable := #[], attributes := #[] }
def k9m1 : Method := { name := "equals", desc := "([B[B)Z", sig := { parameters := [(.array .byte), (.array .byte)], returnType := some .boolean }, accessFlags := 9, code := some k9c1 }
/-- java/lang/StringLatin1 -/
def k9 : Class := { plain "java/lang/StringLatin1" (some 0) with
  accessFlags := 48
  interfaces := #[]
  cf := some (fileOf pool9 14 #[.nestMembers #[390, 221]] #[{ accessFlags := 0, nameIndex := 7, descriptorIndex := 8, attributes := #[] }, { accessFlags := 9, nameIndex := 281, descriptorIndex := 282, attributes := #[] }] 48 4 #[] #[{ accessFlags := 4120, nameIndex := 121, descriptorIndex := 122, attributes := #[] }])
  fields := #[{ name := "$assertionsDisabled", type := .boolean, accessFlags := 4120, slot := 0, constantValue := 0 }]
  methods := #[k9m0, k9m1]
  instanceTypes := #[]
  staticTypes := #[.boolean]
  resolved := Array.replicate 395 none
  statics := none }

def pool10 : Array CpInfo := pool [(6, .class_ 8), (1, u "java/lang/Object"), (0, u "<init>"), (0, u "()V"), (0, .methodref 12 13), (0, .class_ 14), (0, .nameAndType 15 16), (0, u "java/lang/StringUTF16"), (0, u "newBytesLength"), (0, u "(I)I"), (3, .integer 1073741823), (23, .fieldref 12 45), (0, .nameAndType 46 47), (0, u "$assertionsDisabled"), (0, u "Z"), (11, .fieldref 12 60), (0, .nameAndType 61 62), (0, u "HI_BYTE_SHIFT"), (0, u "I"), (0, .fieldref 12 64), (0, .nameAndType 65 62), (0, u "LO_BYTE_SHIFT"), (5, .methodref 12 72), (0, .nameAndType 73 74), (0, u "getChar"), (0, u "([BI)C"), (32, .methodref 12 108), (0, .nameAndType 109 110), (0, u "newBytesFor"), (0, u "(I)[B"), (0, .methodref 12 112), (0, .nameAndType 113 114), (0, u "putChar"), (0, u "([BII)V"), (0, .methodref 12 116), (0, .nameAndType 117 118), (0, u "compress"), (0, u "([CI[BII)I"), (0, .methodref 12 120), (0, .nameAndType 121 122), (0, u "toBytes"), (0, u "([CII)[B"), (138, u "coderFromArrayLen"), (0, u "([BI)B"), (106, .class_ 371), (1, u "java/lang/StringUTF16$LinesSpliterator"), (58, u "MAX_LENGTH"), (196, .class_ 628), (0, u "java/lang/StringUTF16$CodePointsSpliterator"), (0, .class_ 630), (0, u "java/lang/StringUTF16$CharsSpliterator")] 4

def k10m0 : Method := { name := "<init>", desc := "()V", sig := { parameters := [], returnType := none }, accessFlags := 0, code := none }
def k10c1 : Code := { maxStack := 1, maxLocals := 1, code := jdk_52_method_2_code, exceptionTable := #[], attributes := #[] }
def k10m1 : Method := { name := "newBytesFor", desc := "(I)[B", sig := { parameters := [.int], returnType := some (.array .byte) }, accessFlags := 9, code := some k10c1 }
def k10c2 : Code := { maxStack := 4, maxLocals := 1, code := jdk_52_method_3_code, exceptionTable := #[], attributes := #[] }
def k10m2 : Method := { name := "newBytesLength", desc := "(I)I", sig := { parameters := [.int], returnType := some .int }, accessFlags := 9, code := some k10c2 }
def k10c3 : Code := { maxStack := 4, maxLocals := 3, code := jdk_52_method_4_code, exceptionTable := #[], attributes := #[] }
def k10m3 : Method := { name := "putChar", desc := "([BII)V", sig := { parameters := [(.array .byte), .int, .int], returnType := none }, accessFlags := 8, code := some k10c3 }
def k10c4 : Code := { maxStack := 3, maxLocals := 2, code := jdk_52_method_5_code, exceptionTable := #[], attributes := #[] }
def k10m4 : Method := { name := "getChar", desc := "([BI)C", sig := { parameters := [(.array .byte), .int], returnType := some .char }, accessFlags := 8, code := some k10c4 }
def k10c5 : Code := { maxStack := 4, maxLocals := 5, code := jdk_52_method_14_code, exceptionTable := #[], attributes := #[] }
def k10m5 : Method := { name := "toBytes", desc := "([CII)[B", sig := { parameters := [(.array .char), .int, .int], returnType := some (.array .byte) }, accessFlags := 9, code := some k10c5 }
def k10c6 : Code := { maxStack := 2, maxLocals := 2, code := jdk_52_method_15_code, exceptionTable := #[], attributes := #[] }
def k10m6 : Method := { name := "coderFromArrayLen", desc := "([BI)B", sig := { parameters := [(.array .byte), .int], returnType := some .byte }, accessFlags := 8, code := some k10c6 }
def k10c7 : Code := { maxStack := 5, maxLocals := 6, code := jdk_52_method_16_code, exceptionTable := #[], attributes := #[] }
def k10m7 : Method := { name := "compress", desc := "([CII)[B", sig := { parameters := [(.array .char), .int, .int], returnType := some (.array .byte) }, accessFlags := 9, code := some k10c7 }
def k10c8 : Code := { maxStack := 3, maxLocals := 7, code := jdk_52_method_21_code, exceptionTable := #[], attributes := #[] }
def k10m8 : Method := { name := "compress", desc := "([CI[BII)I", sig := { parameters := [(.array .char), .int, (.array .byte), .int, .int], returnType := some .int }, accessFlags := 9, code := some k10c8 }
/-- java/lang/StringUTF16 -/
def k10 : Class := { plain "java/lang/StringUTF16" (some 0) with
  accessFlags := 48
  interfaces := #[]
  cf := some (fileOf pool10 12 #[.nestMembers #[627, 629, 369]] #[{ accessFlags := 0, nameIndex := 9, descriptorIndex := 10, attributes := #[] }, { accessFlags := 9, nameIndex := 109, descriptorIndex := 110, attributes := #[] }, { accessFlags := 9, nameIndex := 15, descriptorIndex := 16, attributes := #[] }, { accessFlags := 8, nameIndex := 113, descriptorIndex := 114, attributes := #[] }, { accessFlags := 8, nameIndex := 73, descriptorIndex := 74, attributes := #[] }, { accessFlags := 9, nameIndex := 121, descriptorIndex := 122, attributes := #[] }, { accessFlags := 8, nameIndex := 261, descriptorIndex := 262, attributes := #[] }, { accessFlags := 9, nameIndex := 117, descriptorIndex := 122, attributes := #[] }, { accessFlags := 9, nameIndex := 117, descriptorIndex := 118, attributes := #[] }] 48 6 #[] #[{ accessFlags := 26, nameIndex := 61, descriptorIndex := 62, attributes := #[] }, { accessFlags := 26, nameIndex := 65, descriptorIndex := 62, attributes := #[] }, { accessFlags := 24, nameIndex := 430, descriptorIndex := 62, attributes := #[] }, { accessFlags := 4120, nameIndex := 46, descriptorIndex := 47, attributes := #[] }])
  fields := #[{ name := "HI_BYTE_SHIFT", type := .int, accessFlags := 26, slot := 0, constantValue := 0 }, { name := "LO_BYTE_SHIFT", type := .int, accessFlags := 26, slot := 1, constantValue := 0 }, { name := "MAX_LENGTH", type := .int, accessFlags := 24, slot := 2, constantValue := 0 }, { name := "$assertionsDisabled", type := .boolean, accessFlags := 4120, slot := 3, constantValue := 0 }]
  methods := #[k10m0, k10m1, k10m2, k10m3, k10m4, k10m5, k10m6, k10m7, k10m8]
  instanceTypes := #[]
  staticTypes := #[.int, .int, .int, .boolean]
  resolved := Array.replicate 635 none
  statics := some 1 }

def pool11 : Array CpInfo := pool [(2, .class_ 4), (1, u "java/lang/Object"), (0, u "<init>"), (0, u "()V"), (17, .class_ 26), (1, u "jdk/internal/util/Preconditions"), (28, .class_ 56), (0, u "jdk/internal/util/Preconditions$4"), (57, .class_ 115), (0, u "jdk/internal/util/Preconditions$1"), (7, u "SIOOBE_FORMATTER"), (0, u "Ljava/util/function/BiFunction;"), (0, .class_ 126), (0, u "jdk/internal/util/Preconditions$2"), (3, u "AIOOBE_FORMATTER"), (0, .class_ 132), (0, u "jdk/internal/util/Preconditions$3"), (3, u "IOOBE_FORMATTER")] 57

def k11m0 : Method := { name := "<init>", desc := "()V", sig := { parameters := [], returnType := none }, accessFlags := 1, code := none }
/-- jdk/internal/util/Preconditions -/
def k11 : Class := { plain "jdk/internal/util/Preconditions" (some 0) with
  accessFlags := 33
  interfaces := #[]
  cf := some (fileOf pool11 24 #[.nestMembers #[55, 131, 125, 114]] #[{ accessFlags := 1, nameIndex := 5, descriptorIndex := 6, attributes := #[] }] 33 2 #[] #[{ accessFlags := 25, nameIndex := 123, descriptorIndex := 124, attributes := #[] }, { accessFlags := 25, nameIndex := 130, descriptorIndex := 124, attributes := #[] }, { accessFlags := 25, nameIndex := 136, descriptorIndex := 124, attributes := #[] }])
  fields := #[{ name := "SIOOBE_FORMATTER", type := (.object "java/util/function/BiFunction"), accessFlags := 25, slot := 0, constantValue := 0 }, { name := "AIOOBE_FORMATTER", type := (.object "java/util/function/BiFunction"), accessFlags := 25, slot := 1, constantValue := 0 }, { name := "IOOBE_FORMATTER", type := (.object "java/util/function/BiFunction"), accessFlags := 25, slot := 2, constantValue := 0 }]
  methods := #[k11m0]
  instanceTypes := #[]
  staticTypes := #[(.object "java/util/function/BiFunction"), (.object "java/util/function/BiFunction"), (.object "java/util/function/BiFunction")]
  resolved := Array.replicate 194 none
  statics := some 2 }

def pool12 : Array CpInfo := pool [(9, u "<init>"), (6, .class_ 18), (1, u "java/lang/Object"), (0, u "()V"), (1, .class_ 23), (1, u "jdk/internal/util/ArraysSupport"), (0, u "LOG2_ARRAY_LONG_INDEX_SCALE"), (0, u "I"), (2, u "U"), (0, u "Ljdk/internal/misc/Unsafe;"), (8, u "BIG_ENDIAN"), (0, u "Z"), (8, u "LOG2_BYTE_BIT_SIZE"), (4, u "LOG2_ARRAY_INT_INDEX_SCALE"), (54, u "JLA"), (0, u "Ljdk/internal/access/JavaLangAccess;"), (11, u "LOG2_ARRAY_BOOLEAN_INDEX_SCALE"), (9, u "LOG2_ARRAY_BYTE_INDEX_SCALE"), (5, u "LOG2_ARRAY_CHAR_INDEX_SCALE"), (5, u "LOG2_ARRAY_SHORT_INDEX_SCALE"), (18, u "LOG2_ARRAY_FLOAT_INDEX_SCALE"), (24, u "LOG2_ARRAY_DOUBLE_INDEX_SCALE"), (89, u "T_BOOLEAN"), (2, u "T_CHAR"), (1, u "T_FLOAT"), (1, u "T_DOUBLE"), (1, u "T_BYTE"), (1, u "T_SHORT"), (1, u "T_INT"), (1, u "T_LONG"), (1, u "SOFT_MAX_ARRAY_LENGTH")] 83

def k12m0 : Method := { name := "<init>", desc := "()V", sig := { parameters := [], returnType := none }, accessFlags := 2, code := none }
/-- jdk/internal/util/ArraysSupport -/
def k12 : Class := { plain "jdk/internal/util/ArraysSupport" (some 0) with
  accessFlags := 33
  interfaces := #[]
  cf := some (fileOf pool12 21 #[] #[{ accessFlags := 2, nameIndex := 9, descriptorIndex := 19, attributes := #[] }] 33 16 #[] #[{ accessFlags := 24, nameIndex := 28, descriptorIndex := 29, attributes := #[] }, { accessFlags := 26, nameIndex := 38, descriptorIndex := 39, attributes := #[] }, { accessFlags := 25, nameIndex := 121, descriptorIndex := 25, attributes := #[] }, { accessFlags := 25, nameIndex := 131, descriptorIndex := 25, attributes := #[] }, { accessFlags := 25, nameIndex := 137, descriptorIndex := 25, attributes := #[] }, { accessFlags := 25, nameIndex := 143, descriptorIndex := 25, attributes := #[] }, { accessFlags := 25, nameIndex := 53, descriptorIndex := 25, attributes := #[] }, { accessFlags := 25, nameIndex := 24, descriptorIndex := 25, attributes := #[] }, { accessFlags := 25, nameIndex := 162, descriptorIndex := 25, attributes := #[] }, { accessFlags := 25, nameIndex := 187, descriptorIndex := 25, attributes := #[] }, { accessFlags := 26, nameIndex := 48, descriptorIndex := 25, attributes := #[] }, { accessFlags := 25, nameIndex := 277, descriptorIndex := 25, attributes := #[] }, { accessFlags := 25, nameIndex := 280, descriptorIndex := 25, attributes := #[] }, { accessFlags := 25, nameIndex := 282, descriptorIndex := 25, attributes := #[] }, { accessFlags := 25, nameIndex := 284, descriptorIndex := 25, attributes := #[] }, { accessFlags := 25, nameIndex := 286, descriptorIndex := 25, attributes := #[] }, { accessFlags := 25, nameIndex := 288, descriptorIndex := 25, attributes := #[] }, { accessFlags := 25, nameIndex := 290, descriptorIndex := 25, attributes := #[] }, { accessFlags := 25, nameIndex := 292, descriptorIndex := 25, attributes := #[] }, { accessFlags := 26, nameIndex := 108, descriptorIndex := 109, attributes := #[] }, { accessFlags := 25, nameIndex := 294, descriptorIndex := 25, attributes := #[] }])
  fields := #[{ name := "U", type := (.object "jdk/internal/misc/Unsafe"), accessFlags := 24, slot := 0, constantValue := 0 }, { name := "BIG_ENDIAN", type := .boolean, accessFlags := 26, slot := 1, constantValue := 0 }, { name := "LOG2_ARRAY_BOOLEAN_INDEX_SCALE", type := .int, accessFlags := 25, slot := 2, constantValue := 0 }, { name := "LOG2_ARRAY_BYTE_INDEX_SCALE", type := .int, accessFlags := 25, slot := 3, constantValue := 0 }, { name := "LOG2_ARRAY_CHAR_INDEX_SCALE", type := .int, accessFlags := 25, slot := 4, constantValue := 0 }, { name := "LOG2_ARRAY_SHORT_INDEX_SCALE", type := .int, accessFlags := 25, slot := 5, constantValue := 0 }, { name := "LOG2_ARRAY_INT_INDEX_SCALE", type := .int, accessFlags := 25, slot := 6, constantValue := 0 }, { name := "LOG2_ARRAY_LONG_INDEX_SCALE", type := .int, accessFlags := 25, slot := 7, constantValue := 0 }, { name := "LOG2_ARRAY_FLOAT_INDEX_SCALE", type := .int, accessFlags := 25, slot := 8, constantValue := 0 }, { name := "LOG2_ARRAY_DOUBLE_INDEX_SCALE", type := .int, accessFlags := 25, slot := 9, constantValue := 0 }, { name := "LOG2_BYTE_BIT_SIZE", type := .int, accessFlags := 26, slot := 10, constantValue := 0 }, { name := "T_BOOLEAN", type := .int, accessFlags := 25, slot := 11, constantValue := 0 }, { name := "T_CHAR", type := .int, accessFlags := 25, slot := 12, constantValue := 0 }, { name := "T_FLOAT", type := .int, accessFlags := 25, slot := 13, constantValue := 0 }, { name := "T_DOUBLE", type := .int, accessFlags := 25, slot := 14, constantValue := 0 }, { name := "T_BYTE", type := .int, accessFlags := 25, slot := 15, constantValue := 0 }, { name := "T_SHORT", type := .int, accessFlags := 25, slot := 16, constantValue := 0 }, { name := "T_INT", type := .int, accessFlags := 25, slot := 17, constantValue := 0 }, { name := "T_LONG", type := .int, accessFlags := 25, slot := 18, constantValue := 0 }, { name := "JLA", type := (.object "jdk/internal/access/JavaLangAccess"), accessFlags := 26, slot := 19, constantValue := 0 }, { name := "SOFT_MAX_ARRAY_LENGTH", type := .int, accessFlags := 25, slot := 20, constantValue := 0 }]
  methods := #[k12m0]
  instanceTypes := #[]
  staticTypes := #[(.object "jdk/internal/misc/Unsafe"), .boolean, .int, .int, .int, .int, .int, .int, .int, .int, .int, .int, .int, .int, .int, .int, .int, .int, .int, (.object "jdk/internal/access/JavaLangAccess"), .int]
  resolved := Array.replicate 378 none
  statics := none }

def pool13 : Array CpInfo := pool [(1, u "java/lang/Cloneable"), (0, .class_ 1), (0, u "java/lang/Object"), (0, .class_ 3)] 3

/-- java/lang/Cloneable -/
def k13 : Class := { plain "java/lang/Cloneable" (some 0) with
  accessFlags := 1537
  interfaces := #[]
  cf := some (fileOf pool13 2 #[] #[] 1537 4 #[] #[])
  fields := #[]
  methods := #[]
  instanceTypes := #[]
  staticTypes := #[]
  resolved := Array.replicate 8 none
  statics := none }

/-- the primitive byte -/
def k14 : Class := { plain "byte" none with kind := .primitive 'B', accessFlags := 0x411 }
/-- [B -/
def k15 : Class := { plain "[B" (some 0) with kind := .array 14 .byte, interfaces := #[13, 2], accessFlags := 1041 }

/-- the primitive char -/
def k16 : Class := { plain "char" none with kind := .primitive 'C', accessFlags := 0x411 }
/-- [C -/
def k17 : Class := { plain "[C" (some 0) with kind := .array 16 .char, interfaces := #[13, 2], accessFlags := 1041 }

/-- the primitive int -/
def k18 : Class := { plain "int" none with kind := .primitive 'I', accessFlags := 0x411 }
/-- [I -/
def k19 : Class := { plain "[I" (some 0) with kind := .array 18 .int, interfaces := #[13, 2], accessFlags := 1041 }

def heap : Heap := #[{ cls := 7, slots := #[.long 0, .int 1, .null, .int 0, .null, .int 0, .int 0], vm := .statics 7 },
  { cls := 10, slots := #[.int 0, .int 8, .int 0, .int 1], vm := .statics 10 },
  { cls := 11, slots := #[.null, .null, .null], vm := .statics 11 }]
def classes : Array Class := #[k0, k1, k2, k3, k4, k5, k6, k7, k8, k9, k10, k11, k12, k13, k14, k15, k16, k17, k18, k19]
def interned : List (Array UInt16 × Addr) := []
def slotsUsed : Nat := 14
def theMethod : MethodId := ⟨1, 1⟩
def args0 : Array Value := #[.int 5, .int 5, .int 5, .int 5, .int 5]
def aboutOver (below : List Frame) : State where
  vm := { classes := classes, interned := interned.toArray }
  heap := heap
  slotsUsed := slotsUsed
  threads := #[{ frames := .invoking theMethod args0 :: below }]
def below0 : List Frame := [.native { method := ⟨0, 0⟩, args := #[] }]
def about1 : State := aboutOver below0
def p0 : Program := .bare "" "" ""
def e0 : Env := launch0.env 0 0 0
theorem w_frames : about1.frames = Frame.invoking theMethod args0 :: below0 := rfl
set_option maxRecDepth 65536 in
theorem w_args : argsFit about1.vm theMethod args0 = true := by decide +kernel
set_option maxRecDepth 65536 in
theorem w_heap : heapFits about1 = true := by decide +kernel
set_option maxRecDepth 65536 in
theorem w_runnable : about1.curStatus? = some .runnable := by decide +kernel
set_option maxRecDepth 65536 in
theorem w_alone : about1.alone = true := by decide +kernel
set_option maxRecDepth 65536 in
theorem w_named : about1.methodNamed? x = some theMethod := by decide +kernel
set_option maxRecDepth 65536 in
theorem w_hears : about1.hears theMethod below0 = true := by decide +kernel
set_option maxRecDepth 65536 in
theorem w_ripe : about1.ripe theMethod args0 below0 = true := by decide +kernel
theorem w_running : about1.status = .running := rfl
set_option maxRecDepth 65536 in
theorem w_room : about1.hasRoom e0.platform room_1 = true :=
  launch0.hasRoom_least _ room_1 (by decide +kernel) (by decide +kernel) (by decide +kernel) (by decide +kernel) (by decide +kernel) (by decide +kernel)
theorem allAtoms_all (ts : List Jvm.Cond) (a : Array Jvm.Value) (st : Jvm.State) : (allAtoms ts).before a st = ts.all (fun c => c.before a st) := by
  induction ts with
  | nil => rfl
  | cons c t ih =>
    show (Jvm.Cond.and c (allAtoms t)).before a st = _
    rw [Jvm.Cond.before_and, ih, List.all_cons]
def words1 : List Jvm.Cond := Jvm.Cond.code x code maxLocals ret :: tables_1
/-- a 'code' word, met by the world's own term for the bytes: nothing is compared byte by byte -/
theorem code_word {y : MethodName} {bytes : ByteArray} {mx : Nat} {rt : Option FieldType} {a : Array Value} {s : State} {m : MethodId} {meth : Method} {c : Code} (h1 : s.methodNamed? y = some m) (h2 : s.vm.method? m = some meth) (h3 : meth.code = some c) (h4 : c.code = bytes)
    (h5 : (c.maxLocals == mx && c.exceptionTable.isEmpty && decide (c.maxStack ≤ mostOperands) && decide (meth.sig.returnType = rt) && !meth.locks && decide (parseMethodDescriptor y.desc = some meth.sig)) = true) : (Jvm.Cond.code y bytes mx rt).before a s = true := by
  simp only [Bool.and_eq_true, beq_iff_eq, Bool.not_eq_true', decide_eq_true_eq] at h5
  obtain ⟨⟨⟨⟨⟨g1, g2⟩, g3⟩, g4⟩, g5⟩, g6⟩ := h5
  simp [Cond.before, Cond.holds, Cond.value, h1, h2, h3, h4, g1, g2, g3, g4, g5, g6]
def isCode : Jvm.Cond → Bool
  | .code _ _ _ _ => true
  | _ => false
theorem all_split {L : List Jvm.Cond} {P : Jvm.Cond → Bool} (h1 : L.all (fun c => isCode c || P c) = true) (h2 : ∀ c ∈ L.filter isCode, P c = true) : L.all P = true := by
  refine List.all_eq_true.mpr fun c hc => ?_
  have h := List.all_eq_true.mp h1 c hc
  rcases Bool.eq_false_or_eq_true (isCode c) with hi | hi
  · exact h2 c (List.mem_filter.mpr ⟨hc, hi⟩)
  · simpa [hi] using h
set_option maxRecDepth 65536 in
theorem w_c0 : (Jvm.Cond.code x code maxLocals ret).before args0 about1 = true := code_word (m := ⟨1, 1⟩) (meth := k1m1) (c := k1c1) (by decide +kernel) rfl rfl rfl (by decide +kernel)
set_option maxRecDepth 65536 in
theorem w_c1 : (Jvm.Cond.code ({ cls := "com/example/runnymede/runnymede/UriSyntaxIsDotSegmentPinLaw", name := "pick", desc := "(I)C" } : Jvm.MethodName) method_3_code (1 : Nat) (Option.some Jvm.ClassFile.FieldType.char)).before args0 about1 = true := code_word (m := ⟨1, 2⟩) (meth := k1m2) (c := k1c2) (by decide +kernel) rfl rfl rfl (by decide +kernel)
set_option maxRecDepth 65536 in
theorem w_c2 : (Jvm.Cond.code ({ cls := "java/lang/String", name := "<init>", desc := "([C)V" } : Jvm.MethodName) jdk_42_method_3_code (2 : Nat) (Option.none : Option Jvm.ClassFile.FieldType)).before args0 about1 = true := code_word (m := ⟨7, 1⟩) (meth := k7m1) (c := k7c1) (by decide +kernel) rfl rfl rfl (by decide +kernel)
set_option maxRecDepth 65536 in
theorem w_c3 : (Jvm.Cond.code ({ cls := "java/lang/String", name := "<init>", desc := "([CIILjava/lang/Void;)V" } : Jvm.MethodName) jdk_42_method_149_code (6 : Nat) (Option.none : Option Jvm.ClassFile.FieldType)).before args0 about1 = true := code_word (m := ⟨7, 3⟩) (meth := k7m3) (c := k7c3) (by decide +kernel) rfl rfl rfl (by decide +kernel)
set_option maxRecDepth 65536 in
theorem w_c4 : (Jvm.Cond.code ({ cls := "java/lang/Object", name := "<init>", desc := "()V" } : Jvm.MethodName) object_method_1_code (1 : Nat) (Option.none : Option Jvm.ClassFile.FieldType)).before args0 about1 = true := code_word (m := ⟨0, 0⟩) (meth := k0m0) (c := k0c0) (by decide +kernel) rfl rfl rfl (by decide +kernel)
set_option maxRecDepth 65536 in
theorem w_c5 : (Jvm.Cond.code ({ cls := "com/example/runnymede/runnymede/UriSyntax", name := "isDotSegment", desc := "(Ljava/lang/String;)Z" } : Jvm.MethodName) prog_59_method_10_code (1 : Nat) (Option.some Jvm.ClassFile.FieldType.boolean)).before args0 about1 = true := code_word (m := ⟨8, 1⟩) (meth := k8m1) (c := k8c1) (by decide +kernel) rfl rfl rfl (by decide +kernel)
set_option maxRecDepth 65536 in
theorem w_c6 : (Jvm.Cond.code ({ cls := "java/lang/String", name := "equals", desc := "(Ljava/lang/Object;)Z" } : Jvm.MethodName) jdk_42_method_66_code (3 : Nat) (Option.some Jvm.ClassFile.FieldType.boolean)).before args0 about1 = true := code_word (m := ⟨7, 2⟩) (meth := k7m2) (c := k7c2) (by decide +kernel) rfl rfl rfl (by decide +kernel)
set_option maxRecDepth 65536 in
theorem w_c7 : (Jvm.Cond.code ({ cls := "java/lang/StringLatin1", name := "equals", desc := "([B[B)Z" } : Jvm.MethodName) jdk_43_method_13_code (3 : Nat) (Option.some Jvm.ClassFile.FieldType.boolean)).before args0 about1 = true := code_word (m := ⟨9, 1⟩) (meth := k9m1) (c := k9c1) (by decide +kernel) rfl rfl rfl (by decide +kernel)
set_option maxRecDepth 65536 in
theorem w_c8 : (Jvm.Cond.code ({ cls := "java/lang/StringUTF16", name := "compress", desc := "([CII)[B" } : Jvm.MethodName) jdk_52_method_16_code (6 : Nat) (Option.some (Jvm.ClassFile.FieldType.array Jvm.ClassFile.FieldType.byte))).before args0 about1 = true := code_word (m := ⟨10, 7⟩) (meth := k10m7) (c := k10c7) (by decide +kernel) rfl rfl rfl (by decide +kernel)
set_option maxRecDepth 65536 in
theorem w_c9 : (Jvm.Cond.code ({ cls := "java/lang/StringUTF16", name := "compress", desc := "([CI[BII)I" } : Jvm.MethodName) jdk_52_method_21_code (7 : Nat) (Option.some Jvm.ClassFile.FieldType.int)).before args0 about1 = true := code_word (m := ⟨10, 8⟩) (meth := k10m8) (c := k10c8) (by decide +kernel) rfl rfl rfl (by decide +kernel)
set_option maxRecDepth 65536 in
theorem w_c10 : (Jvm.Cond.code ({ cls := "java/lang/StringUTF16", name := "coderFromArrayLen", desc := "([BI)B" } : Jvm.MethodName) jdk_52_method_15_code (2 : Nat) (Option.some Jvm.ClassFile.FieldType.byte)).before args0 about1 = true := code_word (m := ⟨10, 6⟩) (meth := k10m6) (c := k10c6) (by decide +kernel) rfl rfl rfl (by decide +kernel)
set_option maxRecDepth 65536 in
theorem w_c11 : (Jvm.Cond.code ({ cls := "java/lang/StringUTF16", name := "toBytes", desc := "([CII)[B" } : Jvm.MethodName) jdk_52_method_14_code (5 : Nat) (Option.some (Jvm.ClassFile.FieldType.array Jvm.ClassFile.FieldType.byte))).before args0 about1 = true := code_word (m := ⟨10, 5⟩) (meth := k10m5) (c := k10c5) (by decide +kernel) rfl rfl rfl (by decide +kernel)
set_option maxRecDepth 65536 in
theorem w_c12 : (Jvm.Cond.code ({ cls := "java/lang/StringUTF16", name := "newBytesFor", desc := "(I)[B" } : Jvm.MethodName) jdk_52_method_2_code (1 : Nat) (Option.some (Jvm.ClassFile.FieldType.array Jvm.ClassFile.FieldType.byte))).before args0 about1 = true := code_word (m := ⟨10, 1⟩) (meth := k10m1) (c := k10c1) (by decide +kernel) rfl rfl rfl (by decide +kernel)
set_option maxRecDepth 65536 in
theorem w_c13 : (Jvm.Cond.code ({ cls := "java/lang/StringUTF16", name := "newBytesLength", desc := "(I)I" } : Jvm.MethodName) jdk_52_method_3_code (1 : Nat) (Option.some Jvm.ClassFile.FieldType.int)).before args0 about1 = true := code_word (m := ⟨10, 2⟩) (meth := k10m2) (c := k10c2) (by decide +kernel) rfl rfl rfl (by decide +kernel)
set_option maxRecDepth 65536 in
theorem w_c14 : (Jvm.Cond.code ({ cls := "java/lang/StringUTF16", name := "putChar", desc := "([BII)V" } : Jvm.MethodName) jdk_52_method_4_code (3 : Nat) (Option.none : Option Jvm.ClassFile.FieldType)).before args0 about1 = true := code_word (m := ⟨10, 3⟩) (meth := k10m3) (c := k10c3) (by decide +kernel) rfl rfl rfl (by decide +kernel)
set_option maxRecDepth 65536 in
theorem w_c15 : (Jvm.Cond.code ({ cls := "java/lang/StringUTF16", name := "getChar", desc := "([BI)C" } : Jvm.MethodName) jdk_52_method_5_code (2 : Nat) (Option.some Jvm.ClassFile.FieldType.char)).before args0 about1 = true := code_word (m := ⟨10, 4⟩) (meth := k10m4) (c := k10c4) (by decide +kernel) rfl rfl rfl (by decide +kernel)
def codes1 : List Jvm.Cond := [Jvm.Cond.code x code maxLocals ret, Jvm.Cond.code ({ cls := "com/example/runnymede/runnymede/UriSyntaxIsDotSegmentPinLaw", name := "pick", desc := "(I)C" } : Jvm.MethodName) method_3_code (1 : Nat) (Option.some Jvm.ClassFile.FieldType.char), Jvm.Cond.code ({ cls := "java/lang/String", name := "<init>", desc := "([C)V" } : Jvm.MethodName) jdk_42_method_3_code (2 : Nat) (Option.none : Option Jvm.ClassFile.FieldType), Jvm.Cond.code ({ cls := "java/lang/String", name := "<init>", desc := "([CIILjava/lang/Void;)V" } : Jvm.MethodName) jdk_42_method_149_code (6 : Nat) (Option.none : Option Jvm.ClassFile.FieldType), Jvm.Cond.code ({ cls := "java/lang/Object", name := "<init>", desc := "()V" } : Jvm.MethodName) object_method_1_code (1 : Nat) (Option.none : Option Jvm.ClassFile.FieldType), Jvm.Cond.code ({ cls := "com/example/runnymede/runnymede/UriSyntax", name := "isDotSegment", desc := "(Ljava/lang/String;)Z" } : Jvm.MethodName) prog_59_method_10_code (1 : Nat) (Option.some Jvm.ClassFile.FieldType.boolean), Jvm.Cond.code ({ cls := "java/lang/String", name := "equals", desc := "(Ljava/lang/Object;)Z" } : Jvm.MethodName) jdk_42_method_66_code (3 : Nat) (Option.some Jvm.ClassFile.FieldType.boolean), Jvm.Cond.code ({ cls := "java/lang/StringLatin1", name := "equals", desc := "([B[B)Z" } : Jvm.MethodName) jdk_43_method_13_code (3 : Nat) (Option.some Jvm.ClassFile.FieldType.boolean), Jvm.Cond.code ({ cls := "java/lang/StringUTF16", name := "compress", desc := "([CII)[B" } : Jvm.MethodName) jdk_52_method_16_code (6 : Nat) (Option.some (Jvm.ClassFile.FieldType.array Jvm.ClassFile.FieldType.byte)), Jvm.Cond.code ({ cls := "java/lang/StringUTF16", name := "compress", desc := "([CI[BII)I" } : Jvm.MethodName) jdk_52_method_21_code (7 : Nat) (Option.some Jvm.ClassFile.FieldType.int), Jvm.Cond.code ({ cls := "java/lang/StringUTF16", name := "coderFromArrayLen", desc := "([BI)B" } : Jvm.MethodName) jdk_52_method_15_code (2 : Nat) (Option.some Jvm.ClassFile.FieldType.byte), Jvm.Cond.code ({ cls := "java/lang/StringUTF16", name := "toBytes", desc := "([CII)[B" } : Jvm.MethodName) jdk_52_method_14_code (5 : Nat) (Option.some (Jvm.ClassFile.FieldType.array Jvm.ClassFile.FieldType.byte)), Jvm.Cond.code ({ cls := "java/lang/StringUTF16", name := "newBytesFor", desc := "(I)[B" } : Jvm.MethodName) jdk_52_method_2_code (1 : Nat) (Option.some (Jvm.ClassFile.FieldType.array Jvm.ClassFile.FieldType.byte)), Jvm.Cond.code ({ cls := "java/lang/StringUTF16", name := "newBytesLength", desc := "(I)I" } : Jvm.MethodName) jdk_52_method_3_code (1 : Nat) (Option.some Jvm.ClassFile.FieldType.int), Jvm.Cond.code ({ cls := "java/lang/StringUTF16", name := "putChar", desc := "([BII)V" } : Jvm.MethodName) jdk_52_method_4_code (3 : Nat) (Option.none : Option Jvm.ClassFile.FieldType), Jvm.Cond.code ({ cls := "java/lang/StringUTF16", name := "getChar", desc := "([BI)C" } : Jvm.MethodName) jdk_52_method_5_code (2 : Nat) (Option.some Jvm.ClassFile.FieldType.char)]
set_option maxRecDepth 65536 in
theorem codes_eq : words1.filter isCode = codes1 := rfl
theorem w_codes : ∀ c ∈ words1.filter isCode, c.before args0 about1 = true := by
  rw [codes_eq]
  intro c hc
  simp only [codes1, List.mem_cons, List.not_mem_nil, or_false] at hc
  rcases hc with rfl | rfl | rfl | rfl | rfl | rfl | rfl | rfl | rfl | rfl | rfl | rfl | rfl | rfl | rfl | rfl
  · exact w_c0
  · exact w_c1
  · exact w_c2
  · exact w_c3
  · exact w_c4
  · exact w_c5
  · exact w_c6
  · exact w_c7
  · exact w_c8
  · exact w_c9
  · exact w_c10
  · exact w_c11
  · exact w_c12
  · exact w_c13
  · exact w_c14
  · exact w_c15
set_option maxRecDepth 65536 in
theorem w_t1 : (words1.take 24).all (fun c => isCode c || c.before args0 about1) = true := by decide +kernel
set_option maxRecDepth 65536 in
theorem w_t2 : ((words1.drop 24).take 24).all (fun c => isCode c || c.before args0 about1) = true := by decide +kernel
set_option maxRecDepth 65536 in
theorem w_t3 : (((words1.drop 24).drop 24).take 24).all (fun c => isCode c || c.before args0 about1) = true := by decide +kernel
set_option maxRecDepth 65536 in
theorem w_t4 : (((words1.drop 24).drop 24).drop 24).all (fun c => isCode c || c.before args0 about1) = true := by decide +kernel
theorem w_tables : (allAtoms (Jvm.Cond.code x code maxLocals ret :: tables_1)).before args0 about1 = true := by
  rw [allAtoms_all]
  show words1.all (fun c => c.before args0 about1) = true
  refine all_split ?_ w_codes
  rw [← List.take_append_drop 24 words1, List.all_append, w_t1, ← List.take_append_drop 24 (words1.drop 24), List.all_append, w_t2, ← List.take_append_drop 24 ((words1.drop 24).drop 24), List.all_append, w_t3, w_t4]
  rfl
set_option maxRecDepth 65536 in
theorem w_rest : rest_1_c.before args0 about1 = true := by decide +kernel
set_option maxRecDepth 65536 in
theorem w_case : (Jvm.Cond.and given_1 narrow_1).before args0 about1 = true := by decide +kernel
set_option maxRecDepth 65536 in
theorem w_consts : constsHeld consts_1 about1 := Jvm.Lit.constsHeldB_iff.mp (by decide +kernel)
theorem w_applies : (headSpec (Jvm.Cond.code x code maxLocals ret :: tables_1) room_1).applies x e0.platform about1 = true :=
  (Spec.applies_iff w_frames).mpr ⟨w_running, w_runnable, w_alone, w_named, w_hears, w_ripe, w_room, w_tables⟩
theorem atStart : AtStart classFile x code maxLocals ret World_1 tables_1 room_1 Calls_1 rest_1 Pre_1 launch0 p0 e0 about1 theMethod args0 below0 :=
  ⟨lists_1, trivial, launch0.admits_env _ _ _, launch0.least_env, fairChoices_fair.cas, fairChoices_fair.clock, w_frames, w_args, w_heap, w_applies, ⟨w_consts, trivial⟩, w_rest, w_case⟩
end start1
theorem witness_1 : WitnessClaimed_1 := ⟨start1.p0, start1.e0, start1.about1, start1.theMethod, start1.args0, start1.below0, start1.atStart⟩
end Jvm.Pilot.@@N@@
