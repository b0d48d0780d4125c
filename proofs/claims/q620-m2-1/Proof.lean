import JvmDerived
import JvmDerived.Pilot.@@N@@Statement
import JvmDerived.Pilot.@@N@@Code
set_option linter.unusedVariables false
set_option linter.unusedSimpArgs false
namespace Jvm.RoadKit
open Sem ClassFile Op Lib Jvm.Stand Jvm.Free Jvm.LawKit
section Own
variable {p : Program} {l : Launch} {e : Env} {R : Room} {s : State} {m : MethodId} {args : Array Value} {below : List Frame} {meth : Method} {c : Code} {T : State} {locs : List Loc} {cells slots : Nat}
theorem retI (X : Stand p l e R s m args below meth c T locs cells slots) (hx : p.tables.exec = Jvm.exec) {pc : Nat} {Ls : Array Slot} {z : Int32} {rest : List Value} (hret : meth.sig.returnType = some .int) (hd : decode c.code pc = .ok (.ireturn, 1)) {fs : List Frame}
    (hl : ∀ (f : JFrame) (acts : List Action), f.method = m → f.locked = none → f.entered = [] → (doReturn e (T.setTop f) acts (some (.int z))).1 = T.setFrames fs) : Steps p.tables e below (T.setTop (mkF m pc Ls (.int z :: rest))) (T.setFrames fs) :=
  retOut X hx hret rfl (Or.inl ⟨rfl, Or.inl rfl, _, rfl⟩) hd hl
variable {Q : Option Value → Heap → List Loc → Prop} {kc ks : Nat} {S S' : State}
section H
variable {Z : State} {EL : List (String × Nat)} {QH : Option Value → Heap → List Loc → (Addr → Prop) → Prop} {a0 : Array Value} {h : Heap} {vm0 : Vm}
/-- a callee that may intern, at a site: what is Safe there goes in, what is Safe at its end comes out -/
theorem backOfY {y : MethodName} {bytes : ByteArray} {maxL : Nat} {ret : Option FieldType} {rm : Room} {len W : Nat} {as' : Array Value} {sf : List Addr}
    (hM : MetFree l y (head1 [Cond.code y bytes maxL ret] rm) (fun a U => a = as' ∧ Z.Warmed39 U.vm ∧ U.heap = h ∧ CHv Z EL U.vm h ∧ ∀ x ∈ sf, Safe Z EL U.vm h x) (fun _ _ _ _ _ => True) (fun _ U o U' => ∃ v L, o = .returned v ∧ QH v U'.heap L (Safe Z EL U'.vm U'.heap) ∧ CHr Z EL U.vm U.heap U'.vm U'.heap ∧ ReturnedEndW U o U' L rm.cells rm.slots))
    (hZ : Z.Warmed39 vm0) (wc : (Cond.code y bytes maxL ret).before a0 Z = true) (wz : (Cond.initialized y.cls).before a0 Z = true) (hf : rm.frames + 1 ≤ R.frames) (hl : W + (maxL + 11) + rm.locals ≤ R.locals) (hEL : EW Z a0 EL) (H : CHv Z EL vm0 h) (hs : ∀ x ∈ sf, Safe Z EL vm0 h x) (hlt : ∀ x ∈ sf, x < h.size) :
    BackS l R p e below (s.setVm vm0) args y len W (fun A a => a = as' ∧ A.U.heap = h ∧ A.cells + rm.cells ≤ R.cells ∧ A.slots + rm.slots ≤ R.slots)
      (fun A _ v B => ∃ L, QH v B.U.heap L (Safe Z EL B.U.vm B.U.heap) ∧ B.locs = A.locs ++ L ∧ B.cells = A.cells + rm.cells ∧ B.slots = A.slots + rm.slots ∧ CHr Z EL vm0 h B.U.vm B.U.heap) := by
  refine BackS.of_freeW (bytes := bytes) (maxL := maxL) (ret := ret) (E := fun _ first o t L k n => k = rm.cells ∧ n = rm.slots ∧ (∃ v, o = .returned v ∧ QH v t.heap L (Safe Z EL t.vm t.heap)) ∧ CHr Z EL first.vm first.heap t.vm t.heap) hM hf hl ?_ ?_ (fun _ _ _ _ _ _ _ _ _ => trivial) ?_ ?_
  · intro m meth c A a Y hp
    have hU : Z.Warmed39 A.U.vm := wtrans (s := s.setVm vm0) hZ Y.warmed
    exact ⟨by show (Cond.and _ .tt).before a A.U = true; rw [Cond.before_and, mv hU wc]; rfl, mv hU wc, mv hU wz, hp.2.2.1, hp.2.2.2⟩
  · intro m meth c A a g mk Y hp
    have q := CHv.at Y hZ hEL H
    exact ⟨hp.1, wtrans (s := s.setVm vm0) hZ Y.warmed, hp.2.1, q.1, fun x hx => q.safe (hlt x hx) (hs x hx)⟩
  · rintro _ _ _ _ ⟨v, L, h1, h2, h3, h4⟩
    exact ⟨L, _, _, h4, rfl, rfl, ⟨v, h1, h2⟩, h3⟩
  · rintro m meth c A a g mk v t L k n Y hp - - ⟨e1, e2, ⟨v', e3, e4⟩, e5⟩
    cases e3; subst e1 e2
    refine ⟨L, e4, rfl, rfl, rfl, (CHv.at Y hZ hEL H).trans ?_⟩
    rw [← hp.2.1]; exact e5
end H
theorem own_len {Z : State} {args : Array Value} {t : Term} {a : Addr} {c : Cell} {ty : FieldType} {z : Int32} (ev : t.eval args Z none [] Z = some (.ref a)) (A : Arr Z Z.heap a c ty) (h : (Cond.eq (.length t) (.int z)).value args Z none Z [] = some true) : c.slots.size < 2 ^ 31 ∧ c.slots.size.toInt32 = z := by
  have ha := A.fin (U := Z) (Vm.Alike.refl _)
  by_cases q : c.slots.size < 2 ^ 31
  · exact ⟨q, gotT (Cond.eq_ints (len_f ev ha q) (Term.int_eval z)) h⟩
  · simp [Cond.value, Term.eval, ev, ha, q] at h
theorem own_narref {t : FieldType} {w : Value} (h : w.isRef = true) : narrow t w = w := by
  rcases XT.refc h with rfl | ⟨r, rfl⟩ <;> cases t <;> rfl
theorem own_fitsref {t : FieldType} {w : Value} (ht : t.isReference = true) (h : w.isRef = true) : fits t w = true := by
  rcases XT.refc h with rfl | ⟨r, rfl⟩ <;> cases t <;> first | rfl | (cases ht)
theorem nar_c (x : Int32) : nar .char x.toUInt32.toUInt16.toUInt32.toInt32 = x.toUInt32.toUInt16.toUInt32.toInt32 := by
  have := XT.narrow_c x
  simpa [narrow, nar] using this
theorem nar_b (x : Int32) : nar .byte x.toInt8.toInt32 = x.toInt8.toInt32 := by
  have := XT.narrow_b x
  simpa [narrow, nar] using this
theorem nar_ite {P : Prop} [Decidable P] : nar .boolean (if P then (1 : Int32) else 0) = (if P then (1 : Int32) else 0) := by split <;> decide
theorem nar_ite' {P : Prop} [Decidable P] : nar .boolean (if P then (0 : Int32) else 1) = (if P then (0 : Int32) else 1) := by split <;> decide
theorem narrow_nar {t : FieldType} {z : Int32} (ht : t = .boolean ∨ t = .byte ∨ t = .char ∨ t = .short) (h : nar t z = z) : narrow t (.int z) = .int z := by
  have hn : narrow t (.int z) = .int (nar t z) := by rcases ht with rfl | rfl | rfl | rfl <;> rfl
  rw [hn, h]
end Own
/-- the run that stands in S ends as E says -/
def Runs (p : Program) (e : Env) (below : List Frame) (E : State → Outcome → Prop) (S : State) : Prop :=
  ∃ s₂ o, Steps p.tables e below S s₂ ∧ s₂.status = .running ∧ Ended s₂ below o ∧ E s₂ o
theorem Runs.by {p : Program} {e : Env} {below : List Frame} {E : State → Outcome → Prop} {S S' : State} (k : Runs p e below E S') (st : ∀ t, Steps p.tables e below S' t → Steps p.tables e below S t) : Runs p e below E S := by
  obtain ⟨s₂, o, h1, h2⟩ := k
  exact ⟨s₂, o, st _ h1, h2⟩
theorem Runs.tr {p : Program} {e : Env} {below : List Frame} {E : State → Outcome → Prop} {S S' : State} (k : Runs p e below E S') (st : Steps p.tables e below S S') : Runs p e below E S := by
  obtain ⟨s₂, o, h1, h2⟩ := k
  exact ⟨s₂, o, st.trans h1, h2⟩
def EndN (s : State) (Q : Option Value → Heap → List Loc → Prop) (kc ks : Nat) : State → Outcome → Prop := fun s₂ o => ∃ v L, o = .returned v ∧ Q v s₂.heap L ∧ FrameEnd s o s₂ L kc ks
def EndH (s Z : State) (EL : List (String × Nat)) (Q : Option Value → Heap → List Loc → (Addr → Prop) → Prop) (kc ks : Nat) : State → Outcome → Prop := fun s₂ o => ∃ v L, o = .returned v ∧ Q v s₂.heap L (Safe Z EL s₂.vm s₂.heap) ∧ CHr Z EL s.vm s.heap s₂.vm s₂.heap ∧ ReturnedEndW s o s₂ L kc ks
section W
variable {p : Program} {l : Launch} {e : Env} {Rm : Room} {s : State} {m : MethodId} {args : Array Value} {below : List Frame} {meth : Method} {c : Code} {T : State} {locs : List Loc} {cells slots : Nat} {E : State → Outcome → Prop} {pc pc' : Nat} {Ls : Array Slot} {st : List Value}
theorem w_done (X : Stand p l e Rm s m args below meth c T locs cells slots) (hlk : meth.locks = false) {Q : Option Value → Heap → List Loc → Prop} {kc ks : Nat} {h : Heap} {v : Option Value} {g : JFrame} (eT : T.heap = h) (hv : meth.sig.returnType = none → v = none)
    (hr : ∀ fs, (∀ (f : JFrame) (acts : List Action), f.method = m → f.locked = none → f.entered = [] → (doReturn e (T.setTop f) acts v).1 = T.setFrames fs) → Steps p.tables e below (T.setTop g) (T.setFrames fs)) (hc : cells ≤ kc) (hn : slots ≤ ks) (hQ : Q v h locs) : Runs p e below (EndN s Q kc ks) (T.setTop g) := by
  obtain ⟨fs, h1, hrun, hended, hW, hsame⟩ := X.leave hv hlk
  subst eT
  exact ⟨_, _, hr fs h1, hrun, hended, v, locs, rfl, hQ, ⟨_, rfl⟩, hW, hsame.mono hc hn⟩
theorem w_doneH {vm₁ : Vm} (X : Stand p l e Rm (s.setVm vm₁) m args below meth c T locs cells slots) (hlk : meth.locks = false) {Z : State} {a0 : Array Value} {EL : List (String × Nat)} {Q : Option Value → Heap → List Loc → (Addr → Prop) → Prop} {kc ks k0 : Nat} {h h0 : Heap} {v : Option Value} {g : JFrame} (eT : T.heap = h) (hh : s.heap = h0) (hZ : Z.Warmed39 vm₁) (hEL : EW Z a0 EL) (hS : s.Since vm₁ k0) (hk : k0 ≤ h.size) (C : CHr Z EL s.vm h0 vm₁ h) (hv : meth.sig.returnType = none → v = none)
    (hr : ∀ fs, (∀ (f : JFrame) (acts : List Action), f.method = m → f.locked = none → f.entered = [] → (doReturn e (T.setTop f) acts v).1 = T.setFrames fs) → Steps p.tables e below (T.setTop g) (T.setFrames fs)) (hc : cells ≤ kc) (hn : slots ≤ ks) (hQ : (∀ x, x < h.size → Safe Z EL vm₁ h x → Safe Z EL T.vm h x) → Q v h locs (Safe Z EL T.vm h)) : Runs p e below (EndH s Z EL Q kc ks) (T.setTop g) := by
  subst eT hh
  obtain ⟨fs, h1, hrun, hended, q1, q2, q3, q4⟩ := X.leaveW hS hk hv hlk
  have A := CHv.at X hZ hEL C.1
  exact ⟨_, _, hr fs h1, hrun, hended, v, locs, rfl, hQ (fun x hx S => A.safe hx S), C.trans A, q1, q2, q3, q4.mono hc hn⟩
theorem w_aload (X : Stand p l e Rm s m args below meth c T locs cells slots) (hx : p.tables.exec = Jvm.exec) {k : Nat} {v : Value} (hd : decode c.code pc = .ok (.aload k, 2)) (hl : Ls[k]? = some (.val v)) (hv : v.isRef = true) (hp : pc + 2 = pc') (K : Runs p e below E (T.setTop (mkF m pc' Ls (v :: st)))) : Runs p e below E (T.setTop (mkF m pc Ls st)) := by
  subst hp; exact K.by fun _ k => XS.aload X.here hx rfl hd hl hv k
theorem w_aloadN (X : Stand p l e Rm s m args below meth c T locs cells slots) (hx : p.tables.exec = Jvm.exec) {k : Fin 4} {v : Value} (hd : decode c.code pc = .ok (.aload_n k, 1)) (hl : Ls[k.val]? = some (.val v)) (hv : v.isRef = true) (hp : pc + 1 = pc') (K : Runs p e below E (T.setTop (mkF m pc' Ls (v :: st)))) : Runs p e below E (T.setTop (mkF m pc Ls st)) := by
  subst hp; exact K.by fun _ k => XS.aloadN X.here hx rfl hd hl hv k
theorem w_iload (X : Stand p l e Rm s m args below meth c T locs cells slots) (hx : p.tables.exec = Jvm.exec) {k : Nat} {v : Int32} (hd : decode c.code pc = .ok (.iload k, 2)) (hl : Ls[k]? = some (.val (.int v))) (hp : pc + 2 = pc') (K : Runs p e below E (T.setTop (mkF m pc' Ls (.int v :: st)))) : Runs p e below E (T.setTop (mkF m pc Ls st)) := by
  subst hp; exact K.by fun _ k => XS.iload X.here hx rfl hd hl k
theorem w_iloadN (X : Stand p l e Rm s m args below meth c T locs cells slots) (hx : p.tables.exec = Jvm.exec) {k : Fin 4} {v : Int32} (hd : decode c.code pc = .ok (.iload_n k, 1)) (hl : Ls[k.val]? = some (.val (.int v))) (hp : pc + 1 = pc') (K : Runs p e below E (T.setTop (mkF m pc' Ls (.int v :: st)))) : Runs p e below E (T.setTop (mkF m pc Ls st)) := by
  subst hp; exact K.by fun _ k => XS.iloadN X.here hx rfl hd hl k
theorem w_istore (X : Stand p l e Rm s m args below meth c T locs cells slots) (hx : p.tables.exec = Jvm.exec) {k : Nat} {x : Int32} {L' : Array Slot} (hd : decode c.code pc = .ok (.istore k, 2)) (hl : storeLocals Ls k (.int x) = some L') (hp : pc + 2 = pc') (K : Runs p e below E (T.setTop (mkF m pc' L' st))) : Runs p e below E (T.setTop (mkF m pc Ls (.int x :: st))) := by
  subst hp; exact K.by fun _ k => XS.istore X.here hx rfl hd rfl hl k
theorem w_istoreN (X : Stand p l e Rm s m args below meth c T locs cells slots) (hx : p.tables.exec = Jvm.exec) {k : Fin 4} {x : Int32} {L' : Array Slot} (hd : decode c.code pc = .ok (.istore_n k, 1)) (hl : storeLocals Ls k.val (.int x) = some L') (hp : pc + 1 = pc') (K : Runs p e below E (T.setTop (mkF m pc' L' st))) : Runs p e below E (T.setTop (mkF m pc Ls (.int x :: st))) := by
  subst hp; exact K.by fun _ k => XS.istoreN X.here hx rfl hd rfl hl k
theorem w_astore (X : Stand p l e Rm s m args below meth c T locs cells slots) (hx : p.tables.exec = Jvm.exec) {k : Nat} {x : Value} {L' : Array Slot} (hd : decode c.code pc = .ok (.astore k, 2)) (hv : x.isRef = true) (hl : storeLocals Ls k x = some L') (hp : pc + 2 = pc') (K : Runs p e below E (T.setTop (mkF m pc' L' st))) : Runs p e below E (T.setTop (mkF m pc Ls (x :: st))) := by
  subst hp; exact K.by fun _ k => XS.astore X.here hx rfl hd rfl hv hl k
theorem w_astoreN (X : Stand p l e Rm s m args below meth c T locs cells slots) (hx : p.tables.exec = Jvm.exec) {k : Fin 4} {x : Value} {L' : Array Slot} (hd : decode c.code pc = .ok (.astore_n k, 1)) (hv : x.isRef = true) (hl : storeLocals Ls k.val x = some L') (hp : pc + 1 = pc') (K : Runs p e below E (T.setTop (mkF m pc' L' st))) : Runs p e below E (T.setTop (mkF m pc Ls (x :: st))) := by
  subst hp; exact K.by fun _ k => XS.astoreN X.here hx rfl hd rfl hv hl k
theorem w_iconst (X : Stand p l e Rm s m args below meth c T locs cells slots) (hx : p.tables.exec = Jvm.exec) {i : Int} {v : Int32} (hd : decode c.code pc = .ok (.iconst i, 1)) (hv : Int32.ofInt i = v) (hp : pc + 1 = pc') (K : Runs p e below E (T.setTop (mkF m pc' Ls (.int v :: st)))) : Runs p e below E (T.setTop (mkF m pc Ls st)) := by
  subst hp; exact K.by fun _ k => XT.iconstV X.here hx rfl v hd hv k
theorem w_bipush (X : Stand p l e Rm s m args below meth c T locs cells slots) (hx : p.tables.exec = Jvm.exec) {i : Int} {v : Int32} (hd : decode c.code pc = .ok (.bipush i, 2)) (hv : (Int8.ofInt i).toInt32 = v) (hp : pc + 2 = pc') (K : Runs p e below E (T.setTop (mkF m pc' Ls (.int v :: st)))) : Runs p e below E (T.setTop (mkF m pc Ls st)) := by
  subst hp; exact K.by fun _ k => XT.bipushV X.here hx rfl v hd hv k
theorem w_sipush (X : Stand p l e Rm s m args below meth c T locs cells slots) (hx : p.tables.exec = Jvm.exec) {i : Int} {v : Int32} (hd : decode c.code pc = .ok (.sipush i, 3)) (hv : (Int16.ofInt i).toInt32 = v) (hp : pc + 3 = pc') (K : Runs p e below E (T.setTop (mkF m pc' Ls (.int v :: st)))) : Runs p e below E (T.setTop (mkF m pc Ls st)) := by
  subst hp; exact K.by fun _ k => XT.sipushV X.here hx rfl v hd hv k
theorem w_null (X : Stand p l e Rm s m args below meth c T locs cells slots) (hx : p.tables.exec = Jvm.exec)  (hd : decode c.code pc = .ok (.aconst_null, 1))  (hp : pc + 1 = pc') (K : Runs p e below E (T.setTop (mkF m pc' Ls (.null :: st)))) : Runs p e below E (T.setTop (mkF m pc Ls st)) := by
  subst hp; exact K.by fun _ k => XS.aconstNull X.here hx rfl hd k
theorem w_isub (X : Stand p l e Rm s m args below meth c T locs cells slots) (hx : p.tables.exec = Jvm.exec) {x y : Int32} (hd : decode c.code pc = .ok (.isub, 1))  (hp : pc + 1 = pc') (K : Runs p e below E (T.setTop (mkF m pc' Ls (.int (x - y) :: st)))) : Runs p e below E (T.setTop (mkF m pc Ls (.int y :: .int x :: st))) := by
  subst hp; exact K.by fun _ k => XS.isub X.here hx rfl hd rfl k
theorem w_iand (X : Stand p l e Rm s m args below meth c T locs cells slots) (hx : p.tables.exec = Jvm.exec) {x y : Int32} (hd : decode c.code pc = .ok (.iand, 1))  (hp : pc + 1 = pc') (K : Runs p e below E (T.setTop (mkF m pc' Ls (.int (x &&& y) :: st)))) : Runs p e below E (T.setTop (mkF m pc Ls (.int y :: .int x :: st))) := by
  subst hp; exact K.by fun _ k => XS.iand X.here hx rfl hd rfl k
theorem w_ior (X : Stand p l e Rm s m args below meth c T locs cells slots) (hx : p.tables.exec = Jvm.exec) {x y : Int32} (hd : decode c.code pc = .ok (.ior, 1))  (hp : pc + 1 = pc') (K : Runs p e below E (T.setTop (mkF m pc' Ls (.int (x ||| y) :: st)))) : Runs p e below E (T.setTop (mkF m pc Ls (.int y :: .int x :: st))) := by
  subst hp; exact K.by fun _ k => XS.ior X.here hx rfl hd rfl k
theorem w_irem (X : Stand p l e Rm s m args below meth c T locs cells slots) (hx : p.tables.exec = Jvm.exec) {x y : Int32} (hd : decode c.code pc = .ok (.irem, 1)) (hy : ¬ y = 0) (hp : pc + 1 = pc') (K : Runs p e below E (T.setTop (mkF m pc' Ls (.int (x % y) :: st)))) : Runs p e below E (T.setTop (mkF m pc Ls (.int y :: .int x :: st))) := by
  subst hp; exact K.by fun _ k => iremM (g := mkF m pc Ls _) X hx rfl hd rfl hy k
theorem w_i2b (X : Stand p l e Rm s m args below meth c T locs cells slots) (hx : p.tables.exec = Jvm.exec) {x : Int32} (hd : decode c.code pc = .ok (.i2b, 1))  (hp : pc + 1 = pc') (K : Runs p e below E (T.setTop (mkF m pc' Ls (.int (x.toInt8.toInt32) :: st)))) : Runs p e below E (T.setTop (mkF m pc Ls (.int x :: st))) := by
  subst hp; exact K.by fun _ k => XS.i2b X.here hx rfl hd rfl k
theorem w_i2c (X : Stand p l e Rm s m args below meth c T locs cells slots) (hx : p.tables.exec = Jvm.exec) {x : Int32} (hd : decode c.code pc = .ok (.i2c, 1))  (hp : pc + 1 = pc') (K : Runs p e below E (T.setTop (mkF m pc' Ls (.int (x.toUInt32.toUInt16.toUInt32.toInt32) :: st)))) : Runs p e below E (T.setTop (mkF m pc Ls (.int x :: st))) := by
  subst hp; exact K.by fun _ k => XS.i2c X.here hx rfl hd rfl k
theorem w_ishl (X : Stand p l e Rm s m args below meth c T locs cells slots) (hx : p.tables.exec = Jvm.exec) {x y : Int32} (hd : decode c.code pc = .ok (.ishl, 1))  (hp : pc + 1 = pc') (K : Runs p e below E (T.setTop (mkF m pc' Ls (.int (x <<< (y &&& 31)) :: st)))) : Runs p e below E (T.setTop (mkF m pc Ls (.int y :: .int x :: st))) := by
  subst hp; exact K.by fun _ k => XS.ishl X.here hx rfl hd rfl k
theorem w_ishr (X : Stand p l e Rm s m args below meth c T locs cells slots) (hx : p.tables.exec = Jvm.exec) {x y : Int32} (hd : decode c.code pc = .ok (.ishr, 1))  (hp : pc + 1 = pc') (K : Runs p e below E (T.setTop (mkF m pc' Ls (.int (x >>> (y &&& 31)) :: st)))) : Runs p e below E (T.setTop (mkF m pc Ls (.int y :: .int x :: st))) := by
  subst hp; exact K.by fun _ k => XS.ishr X.here hx rfl hd rfl k
theorem w_iushr (X : Stand p l e Rm s m args below meth c T locs cells slots) (hx : p.tables.exec = Jvm.exec) {x y : Int32} (hd : decode c.code pc = .ok (.iushr, 1))  (hp : pc + 1 = pc') (K : Runs p e below E (T.setTop (mkF m pc' Ls (.int ((x.toUInt32 >>> (y &&& 31).toUInt32).toInt32) :: st)))) : Runs p e below E (T.setTop (mkF m pc Ls (.int y :: .int x :: st))) := by
  subst hp; exact K.by fun _ k => XS.iushr X.here hx rfl hd rfl k
theorem w_iinc (X : Stand p l e Rm s m args below meth c T locs cells slots) (hx : p.tables.exec = Jvm.exec) {k : Nat} {cst : Int} {x v : Int32} {L' : Array Slot} (hd : decode c.code pc = .ok (.iinc k cst, 3)) (hv : Int32.ofInt cst = v) (hl : Ls[k]? = some (.val (.int x))) (hl' : storeLocals Ls k (.int (x + v)) = some L') (hp : pc + 3 = pc') (K : Runs p e below E (T.setTop (mkF m pc' L' st))) : Runs p e below E (T.setTop (mkF m pc Ls st)) := by
  subst hp; exact K.by fun _ k => XT.iincV X.here hx rfl v hd hv hl hl' k
theorem w_dup (X : Stand p l e Rm s m args below meth c T locs cells slots) (hx : p.tables.exec = Jvm.exec) {x : Value} (hd : decode c.code pc = .ok (.dup, 1)) (hc : x.category = 1) (hp : pc + 1 = pc') (K : Runs p e below E (T.setTop (mkF m pc' Ls (x :: x :: st)))) : Runs p e below E (T.setTop (mkF m pc Ls (x :: st))) := by
  subst hp; exact K.by fun _ k => XS.dup X.here hx rfl hd rfl hc k
theorem w_pop (X : Stand p l e Rm s m args below meth c T locs cells slots) (hx : p.tables.exec = Jvm.exec) {x : Value} (hd : decode c.code pc = .ok (.pop, 1)) (hc : x.category = 1) (hp : pc + 1 = pc') (K : Runs p e below E (T.setTop (mkF m pc' Ls st))) : Runs p e below E (T.setTop (mkF m pc Ls (x :: st))) := by
  subst hp; exact K.by fun _ k => XS.pop X.here hx rfl hd rfl hc k
theorem w_goto (X : Stand p l e Rm s m args below meth c T locs cells slots) (hx : p.tables.exec = Jvm.exec) {o : Int} (hd : decode c.code pc = .ok (.goto o, 3))  (ho : 0 ≤ (pc : Int) + o) (hp : ((pc : Int) + o).toNat = pc') (K : Runs p e below E (T.setTop (mkF m pc' Ls st))) : Runs p e below E (T.setTop (mkF m pc Ls st)) := by
  exact K.by fun _ k => XS.goto X.here hx rfl rfl hd ho hp k
theorem w_ifY (X : Stand p l e Rm s m args below meth c T locs cells slots) (hx : p.tables.exec = Jvm.exec) {cd : ClassFile.Cond} {x : Int32} {o : Int} (hd : decode c.code pc = .ok (.ifCond cd o, 3)) (hc : if_icmp.holds cd x 0 = true) (ho : 0 ≤ (pc : Int) + o) (hp : ((pc : Int) + o).toNat = pc') (K : Runs p e below E (T.setTop (mkF m pc' Ls st))) : Runs p e below E (T.setTop (mkF m pc Ls (.int x :: st))) := by
  exact K.by fun _ k => XS.ifYes X.here hx rfl rfl hd rfl ((if0 _ _).trans hc) ho hp k
theorem w_ifN (X : Stand p l e Rm s m args below meth c T locs cells slots) (hx : p.tables.exec = Jvm.exec) {cd : ClassFile.Cond} {x : Int32} {o : Int} (hd : decode c.code pc = .ok (.ifCond cd o, 3)) (hc : if_icmp.holds cd x 0 = false) (hp : pc + 3 = pc') (K : Runs p e below E (T.setTop (mkF m pc' Ls st))) : Runs p e below E (T.setTop (mkF m pc Ls (.int x :: st))) := by
  subst hp; exact K.by fun _ k => XS.ifNo X.here hx rfl hd rfl ((if0 _ _).trans hc) k
theorem w_icY (X : Stand p l e Rm s m args below meth c T locs cells slots) (hx : p.tables.exec = Jvm.exec) {cd : ClassFile.Cond} {x y : Int32} {o : Int} (hd : decode c.code pc = .ok (.if_icmp cd o, 3)) (hc : if_icmp.holds cd x y = true) (ho : 0 ≤ (pc : Int) + o) (hp : ((pc : Int) + o).toNat = pc') (K : Runs p e below E (T.setTop (mkF m pc' Ls st))) : Runs p e below E (T.setTop (mkF m pc Ls (.int y :: .int x :: st))) := by
  exact K.by fun _ k => XS.icmpYes X.here hx rfl rfl hd rfl hc ho hp k
theorem w_icN (X : Stand p l e Rm s m args below meth c T locs cells slots) (hx : p.tables.exec = Jvm.exec) {cd : ClassFile.Cond} {x y : Int32} {o : Int} (hd : decode c.code pc = .ok (.if_icmp cd o, 3)) (hc : if_icmp.holds cd x y = false) (hp : pc + 3 = pc') (K : Runs p e below E (T.setTop (mkF m pc' Ls st))) : Runs p e below E (T.setTop (mkF m pc Ls (.int y :: .int x :: st))) := by
  subst hp; exact K.by fun _ k => XS.icmpNo X.here hx rfl hd rfl hc k
theorem w_acmp (X : Stand p l e Rm s m args below meth c T locs cells slots) (hx : p.tables.exec = Jvm.exec) {cd : ACond} {x y : Value} {o : Int} {same : Bool} (hd : decode c.code pc = .ok (.if_acmp cd o, 3)) (h1 : x.isRef = true) (h2 : y.isRef = true) (hq : decide (x = y) = same) (ho : 0 ≤ (pc : Int) + o) (hp : pc' = if acV cd same = true then ((pc : Int) + o).toNat else pc + 3) (K : Runs p e below E (T.setTop (mkF m pc' Ls st))) : Runs p e below E (T.setTop (mkF m pc Ls (y :: x :: st))) := by
  exact K.by fun _ k => Jvm.RoadKit.acmp (g := mkF m pc Ls _) X hx rfl h1 h2 rfl hd rfl hq ho hp k
theorem w_getF (X : Stand p l e Rm s m args below meth c T locs cells slots) (hx : p.tables.exec = Jvm.exec) {Z : State} {a0 : Array Value} {h : Heap} {own R0 O n d : String} (host : String) {index : Nat} {a : Addr} {v : Value} (hZ : Z.Warmed39 s.vm) (hown : s.vm.findClass own = some m.cls) (w : (Cond.fieldLink own index R0 n d).before a0 Z = true ∨ (Cond.fieldLinkNest own index R0 n d host).before a0 Z = true) (via : Via Z R0 O n d) (eT : T.heap = h) (F : Fld Z h a O n d v) (hd : decode c.code pc = .ok (.getfield index, 3)) (hp : pc + 3 = pc') (K : ∀ T' : State, Stand p l e Rm s m args below meth c T' locs cells slots → T'.heap = h → Runs p e below E (T'.setTop (mkF m pc' Ls (v :: st)))) : Runs p e below E (T.setTop (mkF m pc Ls (.ref a :: st))) := by
  subst hp
  obtain ⟨T1, X1, e1, st1⟩ := getF X hx hZ hown (host := host) w via eT F (g := mkF m pc Ls (.ref a :: st)) rfl rfl hd
  exact (K T1 X1 e1).by st1
theorem w_getS (X : Stand p l e Rm s m args below meth c T locs cells slots) (hx : p.tables.exec = Jvm.exec) {Z : State} {a0 : Array Value} {h : Heap} {own R0 O n d : String} (host : String) {index : Nat} {v : Value} (hZ : Z.Warmed39 s.vm) (hown : s.vm.findClass own = some m.cls) (w : (Cond.fieldLink own index R0 n d).before a0 Z = true ∨ (Cond.fieldLinkNest own index R0 n d host).before a0 Z = true) (via : Via Z R0 O n d) (eT : T.heap = h) (F : Sta Z h O n d v) (hd : decode c.code pc = .ok (.getstatic index, 3)) (hp : pc + 3 = pc') (K : ∀ T' : State, Stand p l e Rm s m args below meth c T' locs cells slots → T'.heap = h → Runs p e below E (T'.setTop (mkF m pc' Ls (v :: st)))) : Runs p e below E (T.setTop (mkF m pc Ls st)) := by
  subst hp
  obtain ⟨T1, X1, e1, st1⟩ := getS2 X hx hZ hown (host := host) w via eT F (g := mkF m pc Ls st) rfl hd
  exact (K T1 X1 e1).by st1
theorem w_putF (X : Stand p l e Rm s m args below meth c T locs cells slots) (hx : p.tables.exec = Jvm.exec) {Z : State} {a0 : Array Value} {h : Heap} {own R0 O n d C : String} (host : String) {index kk : Nat} {ty : FieldType} {a : Addr} {v old : Value} (hZ : Z.Warmed39 s.vm) (hown : s.vm.findClass own = some m.cls) (w : (Cond.fieldLink own index R0 n d).before a0 Z = true ∨ (Cond.fieldLinkNest own index R0 n d host).before a0 Z = true) (via : Via Z R0 O n d) (eT : T.heap = h) (F : Fld Z h a O n d old) (Ex : Exa Z h a C) (Ly : (Cond.lays C O n d).before a0 Z = true ∨ ((Cond.laysFinal C O n d).before a0 Z = true ∧ own = O ∧ meth.name = "<init>")) (wi : (Cond.instantiable C kk).before a0 Z = true) (hty : parseFieldDescriptor d = some ty) (hn : narrow ty v = v) (hf : fits ty v = true) (hd : decode c.code pc = .ok (.putfield index, 3)) (hp : pc + 3 = pc') (K : ∀ (T' : State) (h' : Heap), Stand p l e Rm s m args below meth c T' (locs ++ [⟨a, slotOf Z O n d⟩]) cells slots → T'.heap = h' → Wr h h' a (slotOf Z O n d) v → Runs p e below E (T'.setTop (mkF m pc' Ls st))) : Runs p e below E (T.setTop (mkF m pc Ls (v :: .ref a :: st))) := by
  subst hp
  obtain ⟨T1, h1, X1, e1, W1, st1⟩ := putF X hx hZ hown (host := host) w via eT F Ex Ly wi hty hn hf (g := mkF m pc Ls (v :: .ref a :: st)) rfl rfl hd
  exact (K T1 h1 X1 e1 W1).by st1
theorem w_new (X : Stand p l e Rm s m args below meth c T locs cells slots) (hx : p.tables.exec = Jvm.exec) {Z : State} {a0 : Array Value} {h : Heap} {own C : String} {index n : Nat} (hZ : Z.Warmed39 s.vm) (hown : s.vm.findClass own = some m.cls) (w : (Cond.classLink own index C).before a0 Z = true) (wi : (Cond.instantiable C n).before a0 Z = true) (wz : (Cond.initialized C).before a0 Z = true) (eT : T.heap = h) (hd : decode c.code pc = .ok (.new index, 3)) (hc : cells + 1 ≤ Rm.cells) (hl : slots + n ≤ Rm.slots) (hp : pc + 3 = pc') (K : ∀ (T' : State) (h' : Heap) (b : Addr), Stand p l e Rm s m args below meth c T' locs (cells + 1) (slots + n) → T'.heap = h' → Ext h h' → b = h.size → Exa Z h' b C → (∀ {O nm d : String} {ty : FieldType}, Laid Z a0 C O nm d → parseFieldDescriptor d = some ty → Fld Z h' b O nm d (defaultValue ty)) → Runs p e below E (T'.setTop (mkF m pc' Ls (.ref b :: st)))) : Runs p e below E (T.setTop (mkF m pc Ls st)) := by
  subst hp
  obtain ⟨T1, h1, X1, e1, E1, A1, D1, -, st1⟩ := newO X hx hZ hown w wi wz eT (g := mkF m pc Ls st) rfl hd hc hl
  exact (K T1 h1 _ X1 e1 E1 rfl A1 D1).by st1
theorem w_newP (X : Stand p l e Rm s m args below meth c T locs cells slots) (hx : p.tables.exec = Jvm.exec) {Z : State} {a0 : Array Value} {h : Heap} (aty : ArrayType) (ty : FieldType) {n : Int32} (cap : Nat) (hty : newarray.typeOf aty = ty) (hZ : Z.Warmed39 s.vm) (w : (Cond.arrayClass ty).before a0 Z = true) (eT : T.heap = h) (hd : decode c.code pc = .ok (.newarray aty, 2)) (hn : ¬ n < 0) (hcap : n.toNatClampNeg ≤ cap) (hb : cap * 8 ≤ 536870912) (hc : cells + 1 ≤ Rm.cells) (hl : slots + cap ≤ Rm.slots) (hp : pc + 2 = pc') (K : ∀ (T' : State) (h' : Heap) (k : ClassId) (b : Addr), Stand p l e Rm s m args below meth c T' locs (cells + 1) (slots + cap) → T'.heap = h' → Ext h h' → b = h.size → Arr Z h' b (newA k ty n) ty → Runs p e below E (T'.setTop (mkF m pc' Ls (.ref b :: st)))) : Runs p e below E (T.setTop (mkF m pc Ls (.int n :: st))) := by
  subst hp
  subst hty
  obtain ⟨T1, h1, k1, X1, e1, E1, A1, st1⟩ := newP X hx hZ w eT (g := mkF m pc Ls (.int n :: st)) rfl hd rfl hn hcap hb hc hl
  exact (K T1 h1 k1 _ X1 e1 E1 rfl A1).by st1
theorem w_stC (X : Stand p l e Rm s m args below meth c T locs cells slots) (hx : p.tables.exec = Jvm.exec) {Z : State} {h : Heap} {a : Addr} {cl : Cell} {j : Int32} {x : Int32} (hZ : Z.Warmed39 s.vm) (eT : T.heap = h) (A : Arr Z h a cl .char) (hj : ¬ (j < 0 ∨ cl.slots.size ≤ j.toNatClampNeg)) (hd : decode c.code pc = .ok (.castore, 1)) (hp : pc + 1 = pc') (K : ∀ (T' : State) (h' : Heap), Stand p l e Rm s m args below meth c T' (locs ++ [⟨a, j.toNatClampNeg⟩]) cells slots → T'.heap = h' → Wr h h' a j.toNatClampNeg (.int (nar .char x)) → Runs p e below E (T'.setTop (mkF m pc' Ls st))) : Runs p e below E (T.setTop (mkF m pc Ls (.int x :: .int j :: .ref a :: st))) := by
  subst hp
  obtain ⟨T1, h1, X1, e1, W1, st1⟩ := stC X hx hZ eT A (j := j) hj (g := mkF m pc Ls (.int x :: .int j :: .ref a :: st)) rfl rfl hd
  exact (K T1 h1 X1 e1 W1).by st1
theorem w_stB (X : Stand p l e Rm s m args below meth c T locs cells slots) (hx : p.tables.exec = Jvm.exec) {Z : State} {h : Heap} {a : Addr} {cl : Cell} {j : Int32} {x : Int32} (hZ : Z.Warmed39 s.vm) (eT : T.heap = h) (A : Arr Z h a cl .byte) (hj : ¬ (j < 0 ∨ cl.slots.size ≤ j.toNatClampNeg)) (hd : decode c.code pc = .ok (.bastore, 1)) (hp : pc + 1 = pc') (K : ∀ (T' : State) (h' : Heap), Stand p l e Rm s m args below meth c T' (locs ++ [⟨a, j.toNatClampNeg⟩]) cells slots → T'.heap = h' → Wr h h' a j.toNatClampNeg (.int (nar .byte x)) → Runs p e below E (T'.setTop (mkF m pc' Ls st))) : Runs p e below E (T.setTop (mkF m pc Ls (.int x :: .int j :: .ref a :: st))) := by
  subst hp
  obtain ⟨T1, h1, X1, e1, W1, st1⟩ := stB X hx hZ eT A (j := j) hj (g := mkF m pc Ls (.int x :: .int j :: .ref a :: st)) rfl rfl hd
  exact (K T1 h1 X1 e1 W1).by st1
theorem w_caload (X : Stand p l e Rm s m args below meth c T locs cells slots) (hx : p.tables.exec = Jvm.exec) {Z : State} {h : Heap} {a : Addr} {cl : Cell} {j : Int32} {v : Int32} (hZ : Z.Warmed39 s.vm) (eT : T.heap = h) (A : Arr Z h a cl .char) (hj : ¬ (j < 0 ∨ cl.slots.size ≤ j.toNatClampNeg)) (hv : cl.slots[j.toNatClampNeg]? = some (.int v)) (hd : decode c.code pc = .ok (.caload, 1)) (hp : pc + 1 = pc') (K : Runs p e below E (T.setTop (mkF m pc' Ls (.int v :: st)))) : Runs p e below E (T.setTop (mkF m pc Ls (.int j :: .ref a :: st))) := by
  subst hp
  exact K.by fun t k => X.caload hx (j := j) (v := .int v) (by rw [eT]; exact A.1) (State.isArrayOf_alike hZ.alike A.2.1) A.2.2 hj hv (g := mkF m pc Ls (.int j :: .ref a :: st)) rfl rfl hd t k
theorem w_baload (X : Stand p l e Rm s m args below meth c T locs cells slots) (hx : p.tables.exec = Jvm.exec) {Z : State} {h : Heap} {a : Addr} {cl : Cell} {j : Int32} {v : Int32} (hZ : Z.Warmed39 s.vm) (eT : T.heap = h) (A : Arr Z h a cl .byte) (hj : ¬ (j < 0 ∨ cl.slots.size ≤ j.toNatClampNeg)) (hv : cl.slots[j.toNatClampNeg]? = some (.int v)) (hd : decode c.code pc = .ok (.baload, 1)) (hp : pc + 1 = pc') (K : Runs p e below E (T.setTop (mkF m pc' Ls (.int v :: st)))) : Runs p e below E (T.setTop (mkF m pc Ls (.int j :: .ref a :: st))) := by
  subst hp
  exact K.by fun t k => X.baloadBytes hx (j := j) (v := .int v) (by rw [eT]; exact A.1) (State.isArrayOf_alike hZ.alike A.2.1) A.2.2 hj hv (g := mkF m pc Ls (.int j :: .ref a :: st)) rfl rfl hd t k
theorem w_alen (X : Stand p l e Rm s m args below meth c T locs cells slots) (hx : p.tables.exec = Jvm.exec) {Z : State} {h : Heap} {a : Addr} {k : ClassId} {ty : FieldType} {z : Int32} {vs : List Value} {dv : Value} (hZ : Z.Warmed39 s.vm) (eT : T.heap = h) (F : Arv Z h a k ty z vs dv) (hd : decode c.code pc = .ok (.arraylength, 1)) (hp : pc + 1 = pc') (K : Runs p e below E (T.setTop (mkF m pc' Ls (.int z :: st)))) : Runs p e below E (T.setTop (mkF m pc Ls (.ref a :: st))) := by
  subst hp
  obtain ⟨cl, A, q, S, N, H, G⟩ := F
  rw [← len_of S N] at K
  exact K.by fun t k => X.arraylength hx (by rw [eT]; exact A.1) (State.isArrayOf_alike hZ.alike A.2.1) (g := mkF m pc Ls (.ref a :: st)) rfl rfl hd t k
theorem w_ldcI (X : Stand p l e Rm s m args below meth c T locs cells slots) (hx : p.tables.exec = Jvm.exec) {Z : State} {a0 : Array Value} {own : String} {index : Nat} {v : Int32} (hZ : Z.Warmed39 s.vm) (hown : s.vm.findClass own = some m.cls) (w : (Cond.constant own index v).before a0 Z = true) (hd : decode c.code pc = .ok (.ldc index, 2)) (hp : pc + 2 = pc') (K : Runs p e below E (T.setTop (mkF m pc' Ls (.int v :: st)))) : Runs p e below E (T.setTop (mkF m pc Ls st)) := by
  subst hp
  exact K.by fun t k => X.ldcInt hx hown (mvT hZ w) (g := mkF m pc Ls st) rfl hd t k
theorem w_initO (X : Stand p l e Rm s m args below meth c T locs cells slots) (hx : p.tables.exec = Jvm.exec) {Z : State} {a0 : Array Value} {h : Heap} {own : String} {index : Nat} {a : Addr} (W : Nat) (hZ : Z.Warmed39 s.vm) (hown : s.vm.findClass own = some m.cls) (w1 : (Cond.methodLink own index Lib.objectInit).before a0 Z = true) (w2 : (Cond.instanceMethod Lib.objectInit).before a0 Z = true) (w3 : (Cond.code Lib.objectInit ⟨#[0xb1]⟩ 1 none).before a0 Z = true) (eT : T.heap = h) (hsz : Ls.size = c.maxLocals) (hd : decode c.code pc = .ok (.invokespecial index, 3)) (hf : 1 ≤ Rm.frames) (hW : (st.map fun v => v.category).sum ≤ W) (hl : W + 12 ≤ Rm.locals) (hp : pc + 3 = pc') (K : ∀ T' : State, Stand p l e Rm s m args below meth c T' locs cells slots → T'.heap = h → Runs p e below E (T'.setTop (mkF m pc' Ls st))) : Runs p e below E (T.setTop (mkF m pc Ls (.ref a :: st))) := by
  subst hp
  obtain ⟨T1, X1, e1, st1⟩ := initO X hx hZ hown w1 w2 w3 eT (g := mkF m pc Ls (.ref a :: st)) rfl hsz rfl hd hf (W := W) (by show 2 * 0 + _ ≤ _; omega) hl
  exact (K T1 X1 e1).by st1
theorem w_static (X : Stand p l e Rm s m args below meth c T locs cells slots) (hx : p.tables.exec = Jvm.exec) {stk : List Value} {own : String} {index : Nat} {y : MethodName} {bytes : ByteArray} {maxL : Nat} {ret : Option FieldType} {W : Nat} {Pre : Pt → Array Value → Prop} {Post : Pt → Array Value → Option Value → Pt → Prop} (hown : s.vm.findClass own = some m.cls) (hlink : (Cond.methodLink own index y).before args s = true) (hstat : (Cond.static y).before args s = true) (hinit : (Cond.initialized y.cls).before args s = true) (hcode : (Cond.code y bytes maxL ret).before args s = true) (hy : y.cls ≠ "java/lang/invoke/MethodHandle" ∧ y.cls ≠ "java/lang/invoke/VarHandle") (hK : Back l Rm p e below s args y 3 W Pre Post) (hsz : Ls.size = c.maxLocals) (argsL : List Value) (hlen : ∀ sig, parseMethodDescriptor y.desc = some sig → argsL.length = sig.parameters.length) (hst : stk = argsL.reverse ++ st) (hW : (st.map fun v => v.category).sum ≤ W) (hd : decode c.code pc = .ok (.invokestatic index, 3)) (hpre : ∀ vm₁, s.WarmedH vm₁ → Pre ⟨T.setVm vm₁, locs, cells, slots⟩ argsL.toArray) (hp : pc + 3 = pc') (K : ∀ (v : Option Value) (vm₁ : Vm) (B : Pt), Stand p l e Rm s m args below meth c B.U B.locs B.cells B.slots → Post ⟨T.setVm vm₁, locs, cells, slots⟩ argsL.toArray v B → Runs p e below E (B.U.setTop (mkF m pc' Ls (v.toList ++ st)))) : Runs p e below E (T.setTop (mkF m pc Ls stk)) := by
  subst hp
  obtain ⟨v1, vm1, B1, -, X1, q1, st1⟩ := Jvm.LawKit.callS X hx hown hlink hstat hinit hcode hy hK (g := mkF m pc Ls stk) rfl hsz (argsL := argsL) (rest := st) hlen hst (by show 2 * 0 + _ ≤ _; omega) hd hpre
  exact (K v1 vm1 B1 X1 q1).by st1
theorem w_special (X : Stand p l e Rm s m args below meth c T locs cells slots) (hx : p.tables.exec = Jvm.exec) {stk : List Value} {own : String} {index : Nat} {y : MethodName} {bytes : ByteArray} {maxL : Nat} {a : Addr} {W : Nat} {Pre : Pt → Array Value → Prop} {Post : Pt → Array Value → Option Value → Pt → Prop} (hy1 : y.name = "<init>") (hown : s.vm.findClass own = some m.cls) (hlink : (Cond.methodLink own index y).before args s = true) (hinst : (Cond.instanceMethod y).before args s = true) (hcode : (Cond.code y bytes maxL none).before args s = true) (hy : y.cls ≠ "java/lang/invoke/MethodHandle" ∧ y.cls ≠ "java/lang/invoke/VarHandle") (hK : Back l Rm p e below s args y 3 W Pre Post) (hsz : Ls.size = c.maxLocals) (argsL : List Value) (hlen : ∀ sig, parseMethodDescriptor y.desc = some sig → argsL.length = sig.parameters.length) (hst : stk = argsL.reverse ++ .ref a :: st) (hW : (st.map fun v => v.category).sum ≤ W) (hd : decode c.code pc = .ok (.invokespecial index, 3)) (hpre : ∀ vm₁, s.WarmedH vm₁ → Pre ⟨T.setVm vm₁, locs, cells, slots⟩ (.ref a :: argsL).toArray) (hp : pc + 3 = pc') (K : ∀ (v : Option Value) (vm₁ : Vm) (B : Pt), Stand p l e Rm s m args below meth c B.U B.locs B.cells B.slots → Post ⟨T.setVm vm₁, locs, cells, slots⟩ (.ref a :: argsL).toArray v B → Runs p e below E (B.U.setTop (mkF m pc' Ls (v.toList ++ st)))) : Runs p e below E (T.setTop (mkF m pc Ls stk)) := by
  subst hp
  obtain ⟨v1, vm1, B1, -, X1, q1, st1⟩ := X.specialBack hx hy1 hown hlink hinst hcode hy hK (g := mkF m pc Ls stk) rfl hsz (Steps.refl _) (a := a) (argsL := argsL) (rest := st) hlen hst (by show 2 * 0 + _ ≤ _; omega) hd hpre
  exact (K v1 vm1 B1 X1 q1).tr st1
theorem w_virtual (X : Stand p l e Rm s m args below meth c T locs cells slots) (hx : p.tables.exec = Jvm.exec) {stk : List Value} {own C : String} {index : Nat} {y z : MethodName} {b : Addr} {cB : ClassId} {W : Nat} {Pre : Pt → Array Value → Prop} {Post : Pt → Array Value → Option Value → Pt → Prop} (hown : s.vm.findClass own = some m.cls) (hlink : (Cond.methodLink own index y).before args s = true) (hdecl : (Cond.declares y).before args s = true) (hnf : NotFace s y) (hsel : (Cond.selects C y z).before args s = true) (hinst : (Cond.instanceMethod z).before args s = true) (hy : y.cls ≠ "java/lang/invoke/MethodHandle" ∧ y.cls ≠ "java/lang/invoke/VarHandle") (hK : Back l Rm p e below s args z 3 W Pre Post) (hcB : s.vm.findClass C = some cB) (hrecv : IsOf cB T b) (hsz : Ls.size = c.maxLocals) (argsL : List Value) (hlen : ∀ sig, parseMethodDescriptor y.desc = some sig → argsL.length = sig.parameters.length) (hst : stk = argsL.reverse ++ .ref b :: st) (hW : (st.map fun v => v.category).sum ≤ W) (hd : decode c.code pc = .ok (.invokevirtual index, 3)) (hpre : ∀ vm₁, s.WarmedH vm₁ → Pre ⟨T.setVm vm₁, locs, cells, slots⟩ (.ref b :: argsL).toArray) (hp : pc + 3 = pc') (K : ∀ (v : Option Value) (vm₁ : Vm) (B : Pt), Stand p l e Rm s m args below meth c B.U B.locs B.cells B.slots → Post ⟨T.setVm vm₁, locs, cells, slots⟩ (.ref b :: argsL).toArray v B → Runs p e below E (B.U.setTop (mkF m pc' Ls (v.toList ++ st)))) : Runs p e below E (T.setTop (mkF m pc Ls stk)) := by
  subst hp
  obtain ⟨v1, vm1, B1, -, X1, q1, st1⟩ := X.virtualBack hx hown hlink hdecl hnf hsel hinst hy hK hcB hrecv (g := mkF m pc Ls stk) rfl hsz (Steps.refl _) (argsL := argsL) (rest := st) hlen hst (by show 2 * 0 + _ ≤ _; omega) hd hpre
  exact (K v1 vm1 B1 X1 q1).tr st1
theorem w_virtualUp (X : Stand p l e Rm s m args below meth c T locs cells slots) (hx : p.tables.exec = Jvm.exec) {stk : List Value} {own C owner : String} {index : Nat} {y z : MethodName} {b : Addr} {cB : ClassId} {W : Nat} {Pre : Pt → Array Value → Prop} {Post : Pt → Array Value → Option Value → Pt → Prop} (hown : s.vm.findClass own = some m.cls) (hlink : (Cond.methodLink own index y).before args s = true) (hsame : (Cond.sameMethod y.cls owner y.name y.desc).before args s = true) (hdecl : (Cond.declares ⟨owner, y.name, y.desc⟩).before args s = true) (howner : owner ≠ "java/lang/invoke/MethodHandle" ∧ owner ≠ "java/lang/invoke/VarHandle") (hsel : (Cond.selects C y z).before args s = true) (hinst : (Cond.instanceMethod z).before args s = true) (hK : Back l Rm p e below s args z 3 W Pre Post) (hcB : s.vm.findClass C = some cB) (hrecv : IsOf cB T b) (hsz : Ls.size = c.maxLocals) (argsL : List Value) (hlen : ∀ sig, parseMethodDescriptor y.desc = some sig → argsL.length = sig.parameters.length) (hst : stk = argsL.reverse ++ .ref b :: st) (hW : (st.map fun v => v.category).sum ≤ W) (hd : decode c.code pc = .ok (.invokevirtual index, 3)) (hpre : ∀ vm₁, s.WarmedH vm₁ → Pre ⟨T.setVm vm₁, locs, cells, slots⟩ (.ref b :: argsL).toArray) (hp : pc + 3 = pc') (K : ∀ (v : Option Value) (vm₁ : Vm) (B : Pt), Stand p l e Rm s m args below meth c B.U B.locs B.cells B.slots → Post ⟨T.setVm vm₁, locs, cells, slots⟩ (.ref b :: argsL).toArray v B → Runs p e below E (B.U.setTop (mkF m pc' Ls (v.toList ++ st)))) : Runs p e below E (T.setTop (mkF m pc Ls stk)) := by
  subst hp
  obtain ⟨v1, vm1, B1, -, X1, q1, st1⟩ := X.virtualBackUp hx hown hlink hsame hdecl howner hsel hinst hK hcB hrecv (g := mkF m pc Ls stk) rfl hsz (Steps.refl _) (argsL := argsL) (rest := st) hlen hst (by show 2 * 0 + _ ≤ _; omega) hd hpre
  exact (K v1 vm1 B1 X1 q1).tr st1
theorem w_staticS (X : Stand p l e Rm s m args below meth c T locs cells slots) (hx : p.tables.exec = Jvm.exec) {stk : List Value} {own : String} {index : Nat} {y : MethodName} {bytes : ByteArray} {maxL : Nat} {ret : Option FieldType} {W : Nat} {Pre : Pt → Array Value → Prop} {Post : Pt → Array Value → Option Value → Pt → Prop} (hown : s.vm.findClass own = some m.cls) (hlink : (Cond.methodLink own index y).before args s = true) (hstat : (Cond.static y).before args s = true) (hinit : (Cond.initialized y.cls).before args s = true) (hcode : (Cond.code y bytes maxL ret).before args s = true) (hy : y.cls ≠ "java/lang/invoke/MethodHandle" ∧ y.cls ≠ "java/lang/invoke/VarHandle") (hK : BackS l Rm p e below s args y 3 W Pre Post) (hsz : Ls.size = c.maxLocals) (argsL : List Value) (hlen : ∀ sig, parseMethodDescriptor y.desc = some sig → argsL.length = sig.parameters.length) (hst : stk = argsL.reverse ++ st) (hW : (st.map fun v => v.category).sum ≤ W) (hd : decode c.code pc = .ok (.invokestatic index, 3)) (hpre : ∀ vm₁, s.WarmedH vm₁ → Pre ⟨T.setVm vm₁, locs, cells, slots⟩ argsL.toArray) (hp : pc + 3 = pc') (K : ∀ (v : Option Value) (vm₁ : Vm) (B : Pt), Stand p l e Rm (s.setVm B.U.vm) m args below meth c B.U B.locs B.cells B.slots → s.Since B.U.vm B.U.heap.size → T.heap.size ≤ B.U.heap.size → Post ⟨T.setVm vm₁, locs, cells, slots⟩ argsL.toArray v B → Runs p e below E (B.U.setTop (mkF m pc' Ls (v.toList ++ st)))) : Runs p e below E (T.setTop (mkF m pc Ls stk)) := by
  subst hp
  obtain ⟨v1, vm1, B1, -, X1, s1, g1, q1, st1⟩ := callSS X hx hown hlink hstat hinit hcode hy hK (g := mkF m pc Ls stk) rfl hsz (argsL := argsL) (rest := st) hlen hst (by show 2 * 0 + _ ≤ _; omega) hd hpre
  exact (K v1 vm1 B1 X1 s1 g1 q1).tr st1
theorem w_specialS (X : Stand p l e Rm s m args below meth c T locs cells slots) (hx : p.tables.exec = Jvm.exec) {stk : List Value} {own : String} {index : Nat} {y : MethodName} {bytes : ByteArray} {maxL : Nat} {a : Addr} {W : Nat} {Pre : Pt → Array Value → Prop} {Post : Pt → Array Value → Option Value → Pt → Prop} (hy1 : y.name = "<init>") (hown : s.vm.findClass own = some m.cls) (hlink : (Cond.methodLink own index y).before args s = true) (hinst : (Cond.instanceMethod y).before args s = true) (hcode : (Cond.code y bytes maxL none).before args s = true) (hy : y.cls ≠ "java/lang/invoke/MethodHandle" ∧ y.cls ≠ "java/lang/invoke/VarHandle") (hK : BackS l Rm p e below s args y 3 W Pre Post) (hsz : Ls.size = c.maxLocals) (argsL : List Value) (hlen : ∀ sig, parseMethodDescriptor y.desc = some sig → argsL.length = sig.parameters.length) (hst : stk = argsL.reverse ++ .ref a :: st) (hW : (st.map fun v => v.category).sum ≤ W) (hd : decode c.code pc = .ok (.invokespecial index, 3)) (hpre : ∀ vm₁, s.WarmedH vm₁ → Pre ⟨T.setVm vm₁, locs, cells, slots⟩ (.ref a :: argsL).toArray) (hp : pc + 3 = pc') (K : ∀ (v : Option Value) (vm₁ : Vm) (B : Pt), Stand p l e Rm (s.setVm B.U.vm) m args below meth c B.U B.locs B.cells B.slots → s.Since B.U.vm B.U.heap.size → T.heap.size ≤ B.U.heap.size → Post ⟨T.setVm vm₁, locs, cells, slots⟩ (.ref a :: argsL).toArray v B → Runs p e below E (B.U.setTop (mkF m pc' Ls (v.toList ++ st)))) : Runs p e below E (T.setTop (mkF m pc Ls stk)) := by
  subst hp
  obtain ⟨v1, vm1, B1, -, X1, s1, g1, q1, st1⟩ := X.specialBackS hx hy1 hown hlink hinst hcode hy hK (g := mkF m pc Ls stk) rfl hsz (Steps.refl _) (a := a) (argsL := argsL) (rest := st) hlen hst (by show 2 * 0 + _ ≤ _; omega) hd hpre
  exact (K v1 vm1 B1 X1 s1 g1 q1).tr st1
end W

/-- a body's contract, and how a walk shows it -/
abbrev MetN (l : Launch) (Z : State) (y : MethodName) (bytes : ByteArray) (maxL : Nat) (ret : Option FieldType) (ws : List Cond) (rm : Room) (as' : Array Value) (h : Heap) (Q : Option Value → Heap → List Loc → Prop) : Prop :=
  MetFree l y (head1 (Cond.code y bytes maxL ret :: ws) rm) (fun a U => a = as' ∧ Z.Warmed39 U.vm ∧ U.heap = h) (fun _ _ _ _ _ => True) (fun _ U o U' => ∃ v L, o = .returned v ∧ Q v U'.heap L ∧ FrameEnd U o U' L rm.cells rm.slots)
theorem MetN.of {l : Launch} {Z : State} {y : MethodName} {bytes : ByteArray} {maxL : Nat} {ret : Option FieldType} {ws : List Cond} {rm : Room} {as' : Array Value} {h : Heap} {Q : Option Value → Heap → List Loc → Prop} (hp : plainFor y = true)
    (H : ∀ (p : Program) (e : Env) (s : State) (m : MethodId) (below : List Frame) (meth : Method) (c : Code) (s₁ : State), meth.sig.returnType = ret → p.tables.exec = Jvm.exec → c.code = bytes → c.maxLocals = maxL → s.vm.findClass y.cls = some m.cls → meth.name = y.name → meth.locks = false → Z.Warmed39 s.vm → Stand p l e rm s m as' below meth c s₁ [] 0 0 → s₁.heap = h → Runs p e below (EndN s Q rm.cells rm.slots) (s₁.setTop (entryFrame m as' maxL))) :
    MetN l Z y bytes maxL ret ws rm as' h Q := by
  refine MetFree.of_bodySF hp hisR ?_
  intro p e s m args below meth c s₁ Bd hml hP hK
  obtain ⟨rfl, hZ, hh⟩ := hP
  exact H p e s m below meth c s₁ Bd.returns Bd.exec Bd.bytes hml (findClass_of_methodNamed Bd.named) (name_of_methodNamed Bd.named Bd.method).1 Bd.notSynchronized hZ (Stand.of_body Bd) (by rw [← hh, Bd.state]; rfl)
abbrev MetH (l : Launch) (Z : State) (EL : List (String × Nat)) (y : MethodName) (bytes : ByteArray) (maxL : Nat) (ret : Option FieldType) (ws : List Cond) (rm : Room) (as' : Array Value) (h : Heap) (Q : Option Value → Heap → List Loc → (Addr → Prop) → Prop) (sf : List Addr) : Prop :=
  MetFree l y (head1 (Cond.code y bytes maxL ret :: ws) rm) (fun a U => a = as' ∧ Z.Warmed39 U.vm ∧ U.heap = h ∧ CHv Z EL U.vm h ∧ ∀ x ∈ sf, Safe Z EL U.vm h x) (fun _ _ _ _ _ => True) (fun _ U o U' => ∃ v L, o = .returned v ∧ Q v U'.heap L (Safe Z EL U'.vm U'.heap) ∧ CHr Z EL U.vm U.heap U'.vm U'.heap ∧ ReturnedEndW U o U' L rm.cells rm.slots)
theorem MetH.of {l : Launch} {Z : State} {EL : List (String × Nat)} {y : MethodName} {bytes : ByteArray} {maxL : Nat} {ret : Option FieldType} {ws : List Cond} {rm : Room} {as' : Array Value} {h : Heap} {Q : Option Value → Heap → List Loc → (Addr → Prop) → Prop} {sf : List Addr} (hp : plainFor y = true)
    (H : ∀ (p : Program) (e : Env) (s : State) (m : MethodId) (below : List Frame) (meth : Method) (c : Code) (s₁ : State), meth.sig.returnType = ret → p.tables.exec = Jvm.exec → c.code = bytes → c.maxLocals = maxL → s.vm.findClass y.cls = some m.cls → meth.name = y.name → meth.locks = false → Z.Warmed39 s.vm → Stand p l e rm (s.setVm s.vm) m as' below meth c s₁ [] 0 0 → s₁.heap = h → s.heap = h → CHv Z EL s.vm h → (∀ x ∈ sf, Safe Z EL s.vm h x) → s.Since s.vm h.size → CHr Z EL s.vm h s.vm h → Runs p e below (EndH s Z EL Q rm.cells rm.slots) (s₁.setTop (entryFrame m as' maxL))) :
    MetH l Z EL y bytes maxL ret ws rm as' h Q sf := by
  refine MetFree.of_bodySF hp hisR ?_
  intro p e s m args below meth c s₁ Bd hml hP hK
  obtain ⟨rfl, hZ, hh, hH, hsf⟩ := hP
  exact H p e s m below meth c s₁ Bd.returns Bd.exec Bd.bytes hml (findClass_of_methodNamed Bd.named) (name_of_methodNamed Bd.named Bd.method).1 Bd.notSynchronized hZ (Stand.of_body Bd) (by rw [← hh, Bd.state]; rfl) hh hH hsf ((State.WarmedH.refl s).since _) (CHr.refl hH)
end Jvm.RoadKit
namespace Jvm.Pilot.@@N@@
open Jvm Jvm.ClassFile Sem Op Lib Jvm.Free Jvm.Stand Jvm.LawKit Jvm.RoadKit Bundle Jvm.Pilot.@@N@@.Jvm.D
set_option maxRecDepth 65536
set_option maxHeartbeats 40000000
abbrev kc0 : String := "java/lang/String"
abbrev kc1 : String := "java/lang/StringUTF16"
abbrev kc2 : String := "com/example/runnymede/runnymede/TextReader"
abbrev kc3 : String := "com/example/runnymede/runnymede/TextReaderLookingAtPinLaw"
abbrev EL : List (String × Nat) := [("com/example/runnymede/runnymede/TextReaderLookingAtPinLaw", 19), ("java/lang/String", 7)]
theorem own_and255 (x : Int32) : ¬ ((x &&& (255 : Int32)).toUInt32.toUInt16.toUInt32.toInt32) < 0 ∧ ¬ (255 : Int32) < ((x &&& (255 : Int32)).toUInt32.toUInt16.toUInt32.toInt32) := by
  have t : ∀ k : Fin 256, ¬ ((Int32.ofNat k.val).toUInt32.toUInt16.toUInt32.toInt32) < 0 ∧ ¬ (255 : Int32) < ((Int32.ofNat k.val).toUInt32.toUInt16.toUInt32.toInt32) := by decide +kernel
  have h : (x &&& 255).toBitVec.toNat < 256 := by
    rw [Int32.toBitVec_and, BitVec.toNat_and]
    exact Nat.lt_succ_of_le Nat.and_le_right
  have e : (x &&& 255) = Int32.ofNat (x &&& 255).toBitVec.toNat := by
    apply Int32.toBitVec_inj.mp
    show _ = BitVec.ofNat 32 _
    rw [BitVec.ofNat_toNat]; simp
  rw [e]
  exact t ⟨_, h⟩
theorem own_lat (x : Int32) : (((((x &&& (255 : Int32)).toUInt32.toUInt16.toUInt32.toInt32).toInt8.toInt32) &&& (255 : Int32)).toUInt32.toUInt16.toUInt32.toInt32) = ((x &&& (255 : Int32)).toUInt32.toUInt16.toUInt32.toInt32) := by
  have t : ∀ k : Fin 256, (((((Int32.ofNat k.val).toUInt32.toUInt16.toUInt32.toInt32).toInt8.toInt32) &&& (255 : Int32)).toUInt32.toUInt16.toUInt32.toInt32) = ((Int32.ofNat k.val).toUInt32.toUInt16.toUInt32.toInt32) := by decide +kernel
  have h : (x &&& 255).toBitVec.toNat < 256 := by
    rw [Int32.toBitVec_and, BitVec.toNat_and]
    exact Nat.lt_succ_of_le Nat.and_le_right
  have e : (x &&& 255) = Int32.ofNat (x &&& 255).toBitVec.toNat := by
    apply Int32.toBitVec_inj.mp
    show _ = BitVec.ofNat 32 _
    rw [BitVec.ofNat_toNat]; simp
  rw [e]
  exact t ⟨_, h⟩
theorem own_ch0 (x : Int32) : ¬ (x.toUInt32.toUInt16.toUInt32.toInt32) < 0 := by
  have q := (c_i2c x).2.1
  rw [Int32.lt_iff_toInt_lt]
  have e0 : (0 : Int32).toInt = 0 := rfl
  omega
theorem own_le127 {x : Int32} (h : ¬ (127 : Int32) < x) : x < (128 : Int32) := by
  rw [Int32.lt_iff_toInt_lt] at h ⊢
  have e1 : (127 : Int32).toInt = 127 := rfl
  have e2 : (128 : Int32).toInt = 128 := rfl
  omega
theorem own_charI {c : Int32} (h : nar .char c = c) : 0 ≤ c.toInt ∧ c.toInt < 65536 := by
  have q := c_i2c c
  rw [show c.toUInt32.toUInt16.toUInt32.toInt32 = c from h] at q
  exact ⟨q.2.1, q.2.2⟩
theorem own_char0 {c : Int32} (h : nar .char c = c) : ¬ c < 0 := by
  have q := own_charI h
  rw [Int32.lt_iff_toInt_lt]
  have e0 : (0 : Int32).toInt = 0 := rfl
  omega
theorem own_low {c k : Int32} (h : nar .char c = c) (h2 : ¬ (255 : Int32) < c) (k0 : ¬ k < 0) (k1 : ¬ (127 : Int32) < k) (q : c.toInt8.toInt32 = k) : c = k := by
  have q1 := own_charI h
  have q2 := c_i2b c
  rw [q] at q2
  rw [Int32.lt_iff_toInt_lt] at h2 k0 k1
  have e0 : (0 : Int32).toInt = 0 := rfl
  have e1 : (255 : Int32).toInt = 255 := rfl
  have e2 : (127 : Int32).toInt = 127 := rfl
  exact Int32.toInt_inj.mp (by omega)
theorem own_utf {c : Int32} (h : nar .char c = c) : ((((((c >>> ((0 : Int32) &&& 31)).toInt8.toInt32) &&& (255 : Int32)) <<< ((0 : Int32) &&& 31)) ||| ((((c >>> ((8 : Int32) &&& 31)).toInt8.toInt32) &&& (255 : Int32)) <<< ((8 : Int32) &&& 31))).toUInt32.toUInt16.toUInt32.toInt32) = c := by
  have q1 := own_charI h
  have a1 := c_ishr c 0 0 (by decide)
  have a2 := c_i2b (c >>> ((0 : Int32) &&& 31))
  have a3 := c_mask ((c >>> ((0 : Int32) &&& 31)).toInt8.toInt32) 255 8 (by decide) (by decide)
  have a4 := c_ishl (((c >>> ((0 : Int32) &&& 31)).toInt8.toInt32) &&& 255) 0 0 (by decide)
  have b1 := c_ishr c 8 8 (by decide)
  have b2 := c_i2b (c >>> ((8 : Int32) &&& 31))
  have b3 := c_mask ((c >>> ((8 : Int32) &&& 31)).toInt8.toInt32) 255 8 (by decide) (by decide)
  have b4 := c_ishl (((c >>> ((8 : Int32) &&& 31)).toInt8.toInt32) &&& 255) 8 8 (by decide)
  have p0 : ((2 ^ 0 : Nat) : Int) = 1 := rfl
  have p8 : ((2 ^ 8 : Nat) : Int) = 256 := rfl
  rw [p0] at a1 a4
  rw [p8] at a3 b1 b3 b4
  obtain ⟨A, hA⟩ : ∃ A, A = (((c >>> ((0 : Int32) &&& 31)).toInt8.toInt32) &&& (255 : Int32)) := ⟨_, rfl⟩
  obtain ⟨B, hB⟩ : ∃ B, B = (((c >>> ((8 : Int32) &&& 31)).toInt8.toInt32) &&& (255 : Int32)) := ⟨_, rfl⟩
  rw [← hA] at a3 a4 ⊢
  rw [← hB] at b3 b4 ⊢
  obtain ⟨A2, hA2⟩ : ∃ A2, A2 = (A <<< ((0 : Int32) &&& 31)) := ⟨_, rfl⟩
  obtain ⟨B2, hB2⟩ : ∃ B2, B2 = (B <<< ((8 : Int32) &&& 31)) := ⟨_, rfl⟩
  rw [← hA2] at a4 ⊢
  rw [← hB2] at b4 ⊢
  have r1 := rng32 A2
  have r2 := rng32 B2
  have r3 := rng32 (A2 ||| B2)
  have cc := c_or' A2 B2 8 (by decide) 256 (by decide)
  have d1 := c_i2c (A2 ||| B2)
  have s1 : A2.toInt = c.toInt % 256 := by omega
  have s2 : B2.toInt = (c.toInt / 256) % 256 * 256 := by omega
  have s3 := cc (by omega) (by omega) (by omega)
  exact Int32.toInt_inj.mp (by omega)
theorem own_utf_t {c : Int32} (h : nar .char c = c) (q : (255 : Int32) < c) : (255 : Int32) < ((((((c >>> ((0 : Int32) &&& 31)).toInt8.toInt32) &&& (255 : Int32)) <<< ((0 : Int32) &&& 31)) ||| ((((c >>> ((8 : Int32) &&& 31)).toInt8.toInt32) &&& (255 : Int32)) <<< ((8 : Int32) &&& 31))).toUInt32.toUInt16.toUInt32.toInt32) := by rw [own_utf h]; exact q
theorem own_utf_f {c : Int32} (h : nar .char c = c) (q : ¬ (255 : Int32) < c) : ¬ (255 : Int32) < ((((((c >>> ((0 : Int32) &&& 31)).toInt8.toInt32) &&& (255 : Int32)) <<< ((0 : Int32) &&& 31)) ||| ((((c >>> ((8 : Int32) &&& 31)).toInt8.toInt32) &&& (255 : Int32)) <<< ((8 : Int32) &&& 31))).toUInt32.toUInt16.toUInt32.toInt32) := by rw [own_utf h]; exact q
theorem own_latx {c : Int32} (h : nar .char c = c) (q : ¬ (255 : Int32) < c) : (((c.toInt8.toInt32) &&& (255 : Int32)).toUInt32.toUInt16.toUInt32.toInt32) = c := by
  have h1 := own_charI h
  have a1 := c_i2b c
  have a2 := c_mask (c.toInt8.toInt32) 255 8 (by decide) (by decide)
  have a3 := c_i2c ((c.toInt8.toInt32) &&& (255 : Int32))
  rw [Int32.lt_iff_toInt_lt] at q
  have e1 : (255 : Int32).toInt = 255 := rfl
  have p8 : ((2 ^ 8 : Nat) : Int) = 256 := rfl
  exact Int32.toInt_inj.mp (by omega)
def gI (l : List Int32) (j : Int32) : Int32 := l.getD j.toNatClampNeg 0
def mI (l : List Int32) : List Value := l.map Value.int
def lowL (l : List Int32) : List Int32 := l.map fun c => (c.toInt8.toInt32)
def utfL : List Int32 → List Int32
  | [] => []
  | c :: l => ((c >>> ((0 : Int32) &&& 31)).toInt8.toInt32) :: ((c >>> ((8 : Int32) &&& 31)).toInt8.toInt32) :: utfL l
def cl4 (n a b c d : Int32) : List Int32 := if n = 0 then [] else if n = 1 then [a] else if n = 2 then [a, b] else if n = 3 then [a, b, c] else [a, b, c, d]
theorem own_gI (l : List Int32) (j : Int32) : (mI l).getD j.toNatClampNeg (.int 0) = .int (gI l j) := by
  unfold gI mI
  generalize j.toNatClampNeg = i
  induction l generalizing i with
  | nil => rfl
  | cons a l ih => cases i with
    | zero => rfl
    | succ i => exact ih i
theorem own_cl4_0 {a b c d : Int32} : cl4 0 a b c d = [] := rfl
theorem own_cl4_1 {a b c d : Int32} : cl4 1 a b c d = [a] := rfl
theorem own_cl4_2 {a b c d : Int32} : cl4 2 a b c d = [a, b] := rfl
theorem own_cl4_3 {a b c d : Int32} : cl4 3 a b c d = [a, b, c] := rfl
theorem own_cl4_4 {a b c d : Int32} : cl4 4 a b c d = [a, b, c, d] := rfl
theorem own_is4 {n : Int32} (h5 : n < 5) (hz : ¬ n < 0) (h0 : ¬ n = 0) (h1 : ¬ n = 1) (h2 : ¬ n = 2) (h3 : ¬ n = 3) : n = 4 := by
  rw [Int32.lt_iff_toInt_lt] at h5 hz
  rw [← Int32.toInt_inj] at h0 h1 h2 h3 ⊢
  have e0 : (0 : Int32).toInt = 0 := rfl
  have e1 : (1 : Int32).toInt = 1 := rfl
  have e2 : (2 : Int32).toInt = 2 := rfl
  have e3 : (3 : Int32).toInt = 3 := rfl
  have e4 : (4 : Int32).toInt = 4 := rfl
  have e5 : (5 : Int32).toInt = 5 := rfl
  omega
theorem own_5 {n : Int32} (h5 : n < 5) (hz : ¬ n < 0) : n = 0 ∨ n = 1 ∨ n = 2 ∨ n = 3 ∨ n = 4 := by
  by_cases h0 : n = 0
  · exact Or.inl h0
  by_cases h1 : n = 1
  · exact Or.inr (Or.inl h1)
  by_cases h2 : n = 2
  · exact Or.inr (Or.inr (Or.inl h2))
  by_cases h3 : n = 3
  · exact Or.inr (Or.inr (Or.inr (Or.inl h3)))
  exact Or.inr (Or.inr (Or.inr (Or.inr (own_is4 h5 hz h0 h1 h2 h3))))
theorem own_shr0 (x : Int32) : x >>> ((0 : Int32) &&& 31) = x := by
  have a1 := c_ishr x 0 0 (by decide)
  exact Int32.toInt_inj.mp (by have e : ((2 ^ 0 : Nat) : Int) = 1 := rfl; omega)
theorem own_shlr {n : Int32} (h5 : n < 5) (hz : ¬ n < 0) : (n <<< ((1 : Int32) &&& 31)) >>> ((1 : Int32) &&& 31) = n := by
  rcases own_5 h5 hz with rfl | rfl | rfl | rfl | rfl <;> decide
theorem own_p4 {p n : Int32} (h5 : n < 5) (pz : ¬ p < 0) (hp : p < n) : p = 0 ∨ p = 1 ∨ p = 2 ∨ p = 3 := by
  rw [Int32.lt_iff_toInt_lt] at h5 pz hp
  simp only [← Int32.toInt_inj]
  have e0 : (0 : Int32).toInt = 0 := rfl
  have e1 : (1 : Int32).toInt = 1 := rfl
  have e2 : (2 : Int32).toInt = 2 := rfl
  have e3 : (3 : Int32).toInt = 3 := rfl
  have e5 : (5 : Int32).toInt = 5 := rfl
  omega
theorem own_shl_in {p n : Int32} (h5 : n < 5) (hz : ¬ n < 0) (pz : ¬ p < 0) (hp : p < n) : (¬ (p <<< ((1 : Int32) &&& 31)) < 0 ∧ (p <<< ((1 : Int32) &&& 31)) < (n <<< ((1 : Int32) &&& 31))) ∧ (¬ ((p <<< ((1 : Int32) &&& 31)) + 1) < 0 ∧ ((p <<< ((1 : Int32) &&& 31)) + 1) < (n <<< ((1 : Int32) &&& 31))) := by
  rcases own_5 h5 hz with rfl | rfl | rfl | rfl | rfl <;> rcases own_p4 h5 pz hp with rfl | rfl | rfl | rfl <;> revert hp <;> decide
theorem own_gIl {l : List Int32} {j : Int32} (i : Nat) (h : j.toNatClampNeg = i) : gI l j = l.getD i 0 := by
  unfold gI
  rw [h]
theorem own_latG {p n a b c d : Int32} (h5 : n < 5) (hz : ¬ n < 0) (pz : ¬ p < 0) (hp : p < n) (ha : nar .char a = a) (hb : nar .char b = b) (hc : nar .char c = c) (hd : nar .char d = d) (h : ∀ x ∈ cl4 n a b c d, ¬ (255 : Int32) < x) :
    (((gI (lowL (cl4 n a b c d)) p) &&& (255 : Int32)).toUInt32.toUInt16.toUInt32.toInt32) = gI [a, b, c, d] p := by
  rcases own_5 h5 hz with rfl | rfl | rfl | rfl | rfl
  · exact absurd hp pz
  · simp only [own_cl4_1, List.forall_mem_cons] at h ⊢
    rcases own_p4 h5 pz hp with rfl | rfl | rfl | rfl
    · rw [own_gIl (l := lowL [a]) (j := 0) 0 (by decide), own_gIl (l := [a, b, c, d]) (j := 0) 0 (by decide)]
      exact own_latx ha h.1
    · exact absurd hp (by decide)
    · exact absurd hp (by decide)
    · exact absurd hp (by decide)
  · simp only [own_cl4_2, List.forall_mem_cons] at h ⊢
    rcases own_p4 h5 pz hp with rfl | rfl | rfl | rfl
    · rw [own_gIl (l := lowL [a, b]) (j := 0) 0 (by decide), own_gIl (l := [a, b, c, d]) (j := 0) 0 (by decide)]
      exact own_latx ha h.1
    · rw [own_gIl (l := lowL [a, b]) (j := 1) 1 (by decide), own_gIl (l := [a, b, c, d]) (j := 1) 1 (by decide)]
      exact own_latx hb h.2.1
    · exact absurd hp (by decide)
    · exact absurd hp (by decide)
  · simp only [own_cl4_3, List.forall_mem_cons] at h ⊢
    rcases own_p4 h5 pz hp with rfl | rfl | rfl | rfl
    · rw [own_gIl (l := lowL [a, b, c]) (j := 0) 0 (by decide), own_gIl (l := [a, b, c, d]) (j := 0) 0 (by decide)]
      exact own_latx ha h.1
    · rw [own_gIl (l := lowL [a, b, c]) (j := 1) 1 (by decide), own_gIl (l := [a, b, c, d]) (j := 1) 1 (by decide)]
      exact own_latx hb h.2.1
    · rw [own_gIl (l := lowL [a, b, c]) (j := 2) 2 (by decide), own_gIl (l := [a, b, c, d]) (j := 2) 2 (by decide)]
      exact own_latx hc h.2.2.1
    · exact absurd hp (by decide)
  · simp only [own_cl4_4, List.forall_mem_cons] at h ⊢
    rcases own_p4 h5 pz hp with rfl | rfl | rfl | rfl
    · rw [own_gIl (l := lowL [a, b, c, d]) (j := 0) 0 (by decide), own_gIl (l := [a, b, c, d]) (j := 0) 0 (by decide)]
      exact own_latx ha h.1
    · rw [own_gIl (l := lowL [a, b, c, d]) (j := 1) 1 (by decide), own_gIl (l := [a, b, c, d]) (j := 1) 1 (by decide)]
      exact own_latx hb h.2.1
    · rw [own_gIl (l := lowL [a, b, c, d]) (j := 2) 2 (by decide), own_gIl (l := [a, b, c, d]) (j := 2) 2 (by decide)]
      exact own_latx hc h.2.2.1
    · rw [own_gIl (l := lowL [a, b, c, d]) (j := 3) 3 (by decide), own_gIl (l := [a, b, c, d]) (j := 3) 3 (by decide)]
      exact own_latx hd h.2.2.2.1
theorem own_utfG {p n a b c d : Int32} (h5 : n < 5) (hz : ¬ n < 0) (pz : ¬ p < 0) (hp : p < n) (ha : nar .char a = a) (hb : nar .char b = b) (hc : nar .char c = c) (hd : nar .char d = d) :
    (((((gI (utfL (cl4 n a b c d)) (p <<< ((1 : Int32) &&& 31))) &&& (255 : Int32)) <<< ((0 : Int32) &&& 31)) ||| (((gI (utfL (cl4 n a b c d)) ((p <<< ((1 : Int32) &&& 31)) + (1 : Int32))) &&& (255 : Int32)) <<< ((8 : Int32) &&& 31))).toUInt32.toUInt16.toUInt32.toInt32) = gI [a, b, c, d] p := by
  rcases own_5 h5 hz with rfl | rfl | rfl | rfl | rfl
  · exact absurd hp pz
  · simp only [own_cl4_1]
    rcases own_p4 h5 pz hp with rfl | rfl | rfl | rfl
    · rw [own_gIl (l := utfL [a]) (j := (0 : Int32) <<< ((1 : Int32) &&& 31)) 0 (by decide), own_gIl (l := utfL [a]) (j := ((0 : Int32) <<< ((1 : Int32) &&& 31)) + (1 : Int32)) 1 (by decide), own_gIl (l := [a, b, c, d]) (j := 0) 0 (by decide)]
      exact own_utf ha
    · exact absurd hp (by decide)
    · exact absurd hp (by decide)
    · exact absurd hp (by decide)
  · simp only [own_cl4_2]
    rcases own_p4 h5 pz hp with rfl | rfl | rfl | rfl
    · rw [own_gIl (l := utfL [a, b]) (j := (0 : Int32) <<< ((1 : Int32) &&& 31)) 0 (by decide), own_gIl (l := utfL [a, b]) (j := ((0 : Int32) <<< ((1 : Int32) &&& 31)) + (1 : Int32)) 1 (by decide), own_gIl (l := [a, b, c, d]) (j := 0) 0 (by decide)]
      exact own_utf ha
    · rw [own_gIl (l := utfL [a, b]) (j := (1 : Int32) <<< ((1 : Int32) &&& 31)) 2 (by decide), own_gIl (l := utfL [a, b]) (j := ((1 : Int32) <<< ((1 : Int32) &&& 31)) + (1 : Int32)) 3 (by decide), own_gIl (l := [a, b, c, d]) (j := 1) 1 (by decide)]
      exact own_utf hb
    · exact absurd hp (by decide)
    · exact absurd hp (by decide)
  · simp only [own_cl4_3]
    rcases own_p4 h5 pz hp with rfl | rfl | rfl | rfl
    · rw [own_gIl (l := utfL [a, b, c]) (j := (0 : Int32) <<< ((1 : Int32) &&& 31)) 0 (by decide), own_gIl (l := utfL [a, b, c]) (j := ((0 : Int32) <<< ((1 : Int32) &&& 31)) + (1 : Int32)) 1 (by decide), own_gIl (l := [a, b, c, d]) (j := 0) 0 (by decide)]
      exact own_utf ha
    · rw [own_gIl (l := utfL [a, b, c]) (j := (1 : Int32) <<< ((1 : Int32) &&& 31)) 2 (by decide), own_gIl (l := utfL [a, b, c]) (j := ((1 : Int32) <<< ((1 : Int32) &&& 31)) + (1 : Int32)) 3 (by decide), own_gIl (l := [a, b, c, d]) (j := 1) 1 (by decide)]
      exact own_utf hb
    · rw [own_gIl (l := utfL [a, b, c]) (j := (2 : Int32) <<< ((1 : Int32) &&& 31)) 4 (by decide), own_gIl (l := utfL [a, b, c]) (j := ((2 : Int32) <<< ((1 : Int32) &&& 31)) + (1 : Int32)) 5 (by decide), own_gIl (l := [a, b, c, d]) (j := 2) 2 (by decide)]
      exact own_utf hc
    · exact absurd hp (by decide)
  · simp only [own_cl4_4]
    rcases own_p4 h5 pz hp with rfl | rfl | rfl | rfl
    · rw [own_gIl (l := utfL [a, b, c, d]) (j := (0 : Int32) <<< ((1 : Int32) &&& 31)) 0 (by decide), own_gIl (l := utfL [a, b, c, d]) (j := ((0 : Int32) <<< ((1 : Int32) &&& 31)) + (1 : Int32)) 1 (by decide), own_gIl (l := [a, b, c, d]) (j := 0) 0 (by decide)]
      exact own_utf ha
    · rw [own_gIl (l := utfL [a, b, c, d]) (j := (1 : Int32) <<< ((1 : Int32) &&& 31)) 2 (by decide), own_gIl (l := utfL [a, b, c, d]) (j := ((1 : Int32) <<< ((1 : Int32) &&& 31)) + (1 : Int32)) 3 (by decide), own_gIl (l := [a, b, c, d]) (j := 1) 1 (by decide)]
      exact own_utf hb
    · rw [own_gIl (l := utfL [a, b, c, d]) (j := (2 : Int32) <<< ((1 : Int32) &&& 31)) 4 (by decide), own_gIl (l := utfL [a, b, c, d]) (j := ((2 : Int32) <<< ((1 : Int32) &&& 31)) + (1 : Int32)) 5 (by decide), own_gIl (l := [a, b, c, d]) (j := 2) 2 (by decide)]
      exact own_utf hc
    · rw [own_gIl (l := utfL [a, b, c, d]) (j := (3 : Int32) <<< ((1 : Int32) &&& 31)) 6 (by decide), own_gIl (l := utfL [a, b, c, d]) (j := ((3 : Int32) <<< ((1 : Int32) &&& 31)) + (1 : Int32)) 7 (by decide), own_gIl (l := [a, b, c, d]) (j := 3) 3 (by decide)]
      exact own_utf hd
theorem own_uj1 {j a : Int32} (pz : ¬ j < 0) (hp : j < 1) (ha : nar .char a = a) : (((((gI [((a >>> ((0 : Int32) &&& 31)).toInt8.toInt32), ((a >>> ((8 : Int32) &&& 31)).toInt8.toInt32)] (j <<< ((1 : Int32) &&& 31))) &&& (255 : Int32)) <<< ((0 : Int32) &&& 31)) ||| (((gI [((a >>> ((0 : Int32) &&& 31)).toInt8.toInt32), ((a >>> ((8 : Int32) &&& 31)).toInt8.toInt32)] ((j <<< ((1 : Int32) &&& 31)) + (1 : Int32))) &&& (255 : Int32)) <<< ((8 : Int32) &&& 31))).toUInt32.toUInt16.toUInt32.toInt32) = gI [a, (0 : Int32), (0 : Int32), (0 : Int32)] j := by
  rcases own_p4 (n := 1) (by decide) pz hp with rfl | rfl | rfl | rfl
  · rw [own_gIl (l := [((a >>> ((0 : Int32) &&& 31)).toInt8.toInt32), ((a >>> ((8 : Int32) &&& 31)).toInt8.toInt32)]) (j := (0 : Int32) <<< ((1 : Int32) &&& 31)) 0 (by decide), own_gIl (l := [((a >>> ((0 : Int32) &&& 31)).toInt8.toInt32), ((a >>> ((8 : Int32) &&& 31)).toInt8.toInt32)]) (j := ((0 : Int32) <<< ((1 : Int32) &&& 31)) + (1 : Int32)) 1 (by decide), own_gIl (l := [a, (0 : Int32), (0 : Int32), (0 : Int32)]) (j := 0) 0 (by decide)]
    exact own_utf ha
  · exact absurd hp (by decide)
  · exact absurd hp (by decide)
  · exact absurd hp (by decide)
theorem own_or1 {j a : Int32} (pz : ¬ j < 0) (hp : j < 1) (h : (255 : Int32) < (gI [a, (0 : Int32), (0 : Int32), (0 : Int32)] j)) : (255 : Int32) < a := by
  rcases own_p4 (n := 1) (by decide) pz hp with rfl | rfl | rfl | rfl <;> first | exact absurd hp (by decide) | exact h
theorem own_uj2 {j a b : Int32} (pz : ¬ j < 0) (hp : j < 2) (ha : nar .char a = a) (hb : nar .char b = b) : (((((gI [((a >>> ((0 : Int32) &&& 31)).toInt8.toInt32), ((a >>> ((8 : Int32) &&& 31)).toInt8.toInt32), ((b >>> ((0 : Int32) &&& 31)).toInt8.toInt32), ((b >>> ((8 : Int32) &&& 31)).toInt8.toInt32)] (j <<< ((1 : Int32) &&& 31))) &&& (255 : Int32)) <<< ((0 : Int32) &&& 31)) ||| (((gI [((a >>> ((0 : Int32) &&& 31)).toInt8.toInt32), ((a >>> ((8 : Int32) &&& 31)).toInt8.toInt32), ((b >>> ((0 : Int32) &&& 31)).toInt8.toInt32), ((b >>> ((8 : Int32) &&& 31)).toInt8.toInt32)] ((j <<< ((1 : Int32) &&& 31)) + (1 : Int32))) &&& (255 : Int32)) <<< ((8 : Int32) &&& 31))).toUInt32.toUInt16.toUInt32.toInt32) = gI [a, b, (0 : Int32), (0 : Int32)] j := by
  rcases own_p4 (n := 2) (by decide) pz hp with rfl | rfl | rfl | rfl
  · rw [own_gIl (l := [((a >>> ((0 : Int32) &&& 31)).toInt8.toInt32), ((a >>> ((8 : Int32) &&& 31)).toInt8.toInt32), ((b >>> ((0 : Int32) &&& 31)).toInt8.toInt32), ((b >>> ((8 : Int32) &&& 31)).toInt8.toInt32)]) (j := (0 : Int32) <<< ((1 : Int32) &&& 31)) 0 (by decide), own_gIl (l := [((a >>> ((0 : Int32) &&& 31)).toInt8.toInt32), ((a >>> ((8 : Int32) &&& 31)).toInt8.toInt32), ((b >>> ((0 : Int32) &&& 31)).toInt8.toInt32), ((b >>> ((8 : Int32) &&& 31)).toInt8.toInt32)]) (j := ((0 : Int32) <<< ((1 : Int32) &&& 31)) + (1 : Int32)) 1 (by decide), own_gIl (l := [a, b, (0 : Int32), (0 : Int32)]) (j := 0) 0 (by decide)]
    exact own_utf ha
  · rw [own_gIl (l := [((a >>> ((0 : Int32) &&& 31)).toInt8.toInt32), ((a >>> ((8 : Int32) &&& 31)).toInt8.toInt32), ((b >>> ((0 : Int32) &&& 31)).toInt8.toInt32), ((b >>> ((8 : Int32) &&& 31)).toInt8.toInt32)]) (j := (1 : Int32) <<< ((1 : Int32) &&& 31)) 2 (by decide), own_gIl (l := [((a >>> ((0 : Int32) &&& 31)).toInt8.toInt32), ((a >>> ((8 : Int32) &&& 31)).toInt8.toInt32), ((b >>> ((0 : Int32) &&& 31)).toInt8.toInt32), ((b >>> ((8 : Int32) &&& 31)).toInt8.toInt32)]) (j := ((1 : Int32) <<< ((1 : Int32) &&& 31)) + (1 : Int32)) 3 (by decide), own_gIl (l := [a, b, (0 : Int32), (0 : Int32)]) (j := 1) 1 (by decide)]
    exact own_utf hb
  · exact absurd hp (by decide)
  · exact absurd hp (by decide)
theorem own_or2 {j a b : Int32} (pz : ¬ j < 0) (hp : j < 2) (h : (255 : Int32) < (gI [a, b, (0 : Int32), (0 : Int32)] j)) : (255 : Int32) < a ∨ (255 : Int32) < b := by
  rcases own_p4 (n := 2) (by decide) pz hp with rfl | rfl | rfl | rfl <;> first | exact absurd hp (by decide) | exact Or.inl h | exact Or.inr (h)
theorem own_uj3 {j a b c : Int32} (pz : ¬ j < 0) (hp : j < 3) (ha : nar .char a = a) (hb : nar .char b = b) (hc : nar .char c = c) : (((((gI [((a >>> ((0 : Int32) &&& 31)).toInt8.toInt32), ((a >>> ((8 : Int32) &&& 31)).toInt8.toInt32), ((b >>> ((0 : Int32) &&& 31)).toInt8.toInt32), ((b >>> ((8 : Int32) &&& 31)).toInt8.toInt32), ((c >>> ((0 : Int32) &&& 31)).toInt8.toInt32), ((c >>> ((8 : Int32) &&& 31)).toInt8.toInt32)] (j <<< ((1 : Int32) &&& 31))) &&& (255 : Int32)) <<< ((0 : Int32) &&& 31)) ||| (((gI [((a >>> ((0 : Int32) &&& 31)).toInt8.toInt32), ((a >>> ((8 : Int32) &&& 31)).toInt8.toInt32), ((b >>> ((0 : Int32) &&& 31)).toInt8.toInt32), ((b >>> ((8 : Int32) &&& 31)).toInt8.toInt32), ((c >>> ((0 : Int32) &&& 31)).toInt8.toInt32), ((c >>> ((8 : Int32) &&& 31)).toInt8.toInt32)] ((j <<< ((1 : Int32) &&& 31)) + (1 : Int32))) &&& (255 : Int32)) <<< ((8 : Int32) &&& 31))).toUInt32.toUInt16.toUInt32.toInt32) = gI [a, b, c, (0 : Int32)] j := by
  rcases own_p4 (n := 3) (by decide) pz hp with rfl | rfl | rfl | rfl
  · rw [own_gIl (l := [((a >>> ((0 : Int32) &&& 31)).toInt8.toInt32), ((a >>> ((8 : Int32) &&& 31)).toInt8.toInt32), ((b >>> ((0 : Int32) &&& 31)).toInt8.toInt32), ((b >>> ((8 : Int32) &&& 31)).toInt8.toInt32), ((c >>> ((0 : Int32) &&& 31)).toInt8.toInt32), ((c >>> ((8 : Int32) &&& 31)).toInt8.toInt32)]) (j := (0 : Int32) <<< ((1 : Int32) &&& 31)) 0 (by decide), own_gIl (l := [((a >>> ((0 : Int32) &&& 31)).toInt8.toInt32), ((a >>> ((8 : Int32) &&& 31)).toInt8.toInt32), ((b >>> ((0 : Int32) &&& 31)).toInt8.toInt32), ((b >>> ((8 : Int32) &&& 31)).toInt8.toInt32), ((c >>> ((0 : Int32) &&& 31)).toInt8.toInt32), ((c >>> ((8 : Int32) &&& 31)).toInt8.toInt32)]) (j := ((0 : Int32) <<< ((1 : Int32) &&& 31)) + (1 : Int32)) 1 (by decide), own_gIl (l := [a, b, c, (0 : Int32)]) (j := 0) 0 (by decide)]
    exact own_utf ha
  · rw [own_gIl (l := [((a >>> ((0 : Int32) &&& 31)).toInt8.toInt32), ((a >>> ((8 : Int32) &&& 31)).toInt8.toInt32), ((b >>> ((0 : Int32) &&& 31)).toInt8.toInt32), ((b >>> ((8 : Int32) &&& 31)).toInt8.toInt32), ((c >>> ((0 : Int32) &&& 31)).toInt8.toInt32), ((c >>> ((8 : Int32) &&& 31)).toInt8.toInt32)]) (j := (1 : Int32) <<< ((1 : Int32) &&& 31)) 2 (by decide), own_gIl (l := [((a >>> ((0 : Int32) &&& 31)).toInt8.toInt32), ((a >>> ((8 : Int32) &&& 31)).toInt8.toInt32), ((b >>> ((0 : Int32) &&& 31)).toInt8.toInt32), ((b >>> ((8 : Int32) &&& 31)).toInt8.toInt32), ((c >>> ((0 : Int32) &&& 31)).toInt8.toInt32), ((c >>> ((8 : Int32) &&& 31)).toInt8.toInt32)]) (j := ((1 : Int32) <<< ((1 : Int32) &&& 31)) + (1 : Int32)) 3 (by decide), own_gIl (l := [a, b, c, (0 : Int32)]) (j := 1) 1 (by decide)]
    exact own_utf hb
  · rw [own_gIl (l := [((a >>> ((0 : Int32) &&& 31)).toInt8.toInt32), ((a >>> ((8 : Int32) &&& 31)).toInt8.toInt32), ((b >>> ((0 : Int32) &&& 31)).toInt8.toInt32), ((b >>> ((8 : Int32) &&& 31)).toInt8.toInt32), ((c >>> ((0 : Int32) &&& 31)).toInt8.toInt32), ((c >>> ((8 : Int32) &&& 31)).toInt8.toInt32)]) (j := (2 : Int32) <<< ((1 : Int32) &&& 31)) 4 (by decide), own_gIl (l := [((a >>> ((0 : Int32) &&& 31)).toInt8.toInt32), ((a >>> ((8 : Int32) &&& 31)).toInt8.toInt32), ((b >>> ((0 : Int32) &&& 31)).toInt8.toInt32), ((b >>> ((8 : Int32) &&& 31)).toInt8.toInt32), ((c >>> ((0 : Int32) &&& 31)).toInt8.toInt32), ((c >>> ((8 : Int32) &&& 31)).toInt8.toInt32)]) (j := ((2 : Int32) <<< ((1 : Int32) &&& 31)) + (1 : Int32)) 5 (by decide), own_gIl (l := [a, b, c, (0 : Int32)]) (j := 2) 2 (by decide)]
    exact own_utf hc
  · exact absurd hp (by decide)
theorem own_or3 {j a b c : Int32} (pz : ¬ j < 0) (hp : j < 3) (h : (255 : Int32) < (gI [a, b, c, (0 : Int32)] j)) : (255 : Int32) < a ∨ (255 : Int32) < b ∨ (255 : Int32) < c := by
  rcases own_p4 (n := 3) (by decide) pz hp with rfl | rfl | rfl | rfl <;> first | exact absurd hp (by decide) | exact Or.inl h | exact Or.inr (Or.inl h) | exact Or.inr (Or.inr (h))
theorem own_uj4 {j a b c d : Int32} (pz : ¬ j < 0) (hp : j < 4) (ha : nar .char a = a) (hb : nar .char b = b) (hc : nar .char c = c) (hd : nar .char d = d) : (((((gI [((a >>> ((0 : Int32) &&& 31)).toInt8.toInt32), ((a >>> ((8 : Int32) &&& 31)).toInt8.toInt32), ((b >>> ((0 : Int32) &&& 31)).toInt8.toInt32), ((b >>> ((8 : Int32) &&& 31)).toInt8.toInt32), ((c >>> ((0 : Int32) &&& 31)).toInt8.toInt32), ((c >>> ((8 : Int32) &&& 31)).toInt8.toInt32), ((d >>> ((0 : Int32) &&& 31)).toInt8.toInt32), ((d >>> ((8 : Int32) &&& 31)).toInt8.toInt32)] (j <<< ((1 : Int32) &&& 31))) &&& (255 : Int32)) <<< ((0 : Int32) &&& 31)) ||| (((gI [((a >>> ((0 : Int32) &&& 31)).toInt8.toInt32), ((a >>> ((8 : Int32) &&& 31)).toInt8.toInt32), ((b >>> ((0 : Int32) &&& 31)).toInt8.toInt32), ((b >>> ((8 : Int32) &&& 31)).toInt8.toInt32), ((c >>> ((0 : Int32) &&& 31)).toInt8.toInt32), ((c >>> ((8 : Int32) &&& 31)).toInt8.toInt32), ((d >>> ((0 : Int32) &&& 31)).toInt8.toInt32), ((d >>> ((8 : Int32) &&& 31)).toInt8.toInt32)] ((j <<< ((1 : Int32) &&& 31)) + (1 : Int32))) &&& (255 : Int32)) <<< ((8 : Int32) &&& 31))).toUInt32.toUInt16.toUInt32.toInt32) = gI [a, b, c, d] j := by
  rcases own_p4 (n := 4) (by decide) pz hp with rfl | rfl | rfl | rfl
  · rw [own_gIl (l := [((a >>> ((0 : Int32) &&& 31)).toInt8.toInt32), ((a >>> ((8 : Int32) &&& 31)).toInt8.toInt32), ((b >>> ((0 : Int32) &&& 31)).toInt8.toInt32), ((b >>> ((8 : Int32) &&& 31)).toInt8.toInt32), ((c >>> ((0 : Int32) &&& 31)).toInt8.toInt32), ((c >>> ((8 : Int32) &&& 31)).toInt8.toInt32), ((d >>> ((0 : Int32) &&& 31)).toInt8.toInt32), ((d >>> ((8 : Int32) &&& 31)).toInt8.toInt32)]) (j := (0 : Int32) <<< ((1 : Int32) &&& 31)) 0 (by decide), own_gIl (l := [((a >>> ((0 : Int32) &&& 31)).toInt8.toInt32), ((a >>> ((8 : Int32) &&& 31)).toInt8.toInt32), ((b >>> ((0 : Int32) &&& 31)).toInt8.toInt32), ((b >>> ((8 : Int32) &&& 31)).toInt8.toInt32), ((c >>> ((0 : Int32) &&& 31)).toInt8.toInt32), ((c >>> ((8 : Int32) &&& 31)).toInt8.toInt32), ((d >>> ((0 : Int32) &&& 31)).toInt8.toInt32), ((d >>> ((8 : Int32) &&& 31)).toInt8.toInt32)]) (j := ((0 : Int32) <<< ((1 : Int32) &&& 31)) + (1 : Int32)) 1 (by decide), own_gIl (l := [a, b, c, d]) (j := 0) 0 (by decide)]
    exact own_utf ha
  · rw [own_gIl (l := [((a >>> ((0 : Int32) &&& 31)).toInt8.toInt32), ((a >>> ((8 : Int32) &&& 31)).toInt8.toInt32), ((b >>> ((0 : Int32) &&& 31)).toInt8.toInt32), ((b >>> ((8 : Int32) &&& 31)).toInt8.toInt32), ((c >>> ((0 : Int32) &&& 31)).toInt8.toInt32), ((c >>> ((8 : Int32) &&& 31)).toInt8.toInt32), ((d >>> ((0 : Int32) &&& 31)).toInt8.toInt32), ((d >>> ((8 : Int32) &&& 31)).toInt8.toInt32)]) (j := (1 : Int32) <<< ((1 : Int32) &&& 31)) 2 (by decide), own_gIl (l := [((a >>> ((0 : Int32) &&& 31)).toInt8.toInt32), ((a >>> ((8 : Int32) &&& 31)).toInt8.toInt32), ((b >>> ((0 : Int32) &&& 31)).toInt8.toInt32), ((b >>> ((8 : Int32) &&& 31)).toInt8.toInt32), ((c >>> ((0 : Int32) &&& 31)).toInt8.toInt32), ((c >>> ((8 : Int32) &&& 31)).toInt8.toInt32), ((d >>> ((0 : Int32) &&& 31)).toInt8.toInt32), ((d >>> ((8 : Int32) &&& 31)).toInt8.toInt32)]) (j := ((1 : Int32) <<< ((1 : Int32) &&& 31)) + (1 : Int32)) 3 (by decide), own_gIl (l := [a, b, c, d]) (j := 1) 1 (by decide)]
    exact own_utf hb
  · rw [own_gIl (l := [((a >>> ((0 : Int32) &&& 31)).toInt8.toInt32), ((a >>> ((8 : Int32) &&& 31)).toInt8.toInt32), ((b >>> ((0 : Int32) &&& 31)).toInt8.toInt32), ((b >>> ((8 : Int32) &&& 31)).toInt8.toInt32), ((c >>> ((0 : Int32) &&& 31)).toInt8.toInt32), ((c >>> ((8 : Int32) &&& 31)).toInt8.toInt32), ((d >>> ((0 : Int32) &&& 31)).toInt8.toInt32), ((d >>> ((8 : Int32) &&& 31)).toInt8.toInt32)]) (j := (2 : Int32) <<< ((1 : Int32) &&& 31)) 4 (by decide), own_gIl (l := [((a >>> ((0 : Int32) &&& 31)).toInt8.toInt32), ((a >>> ((8 : Int32) &&& 31)).toInt8.toInt32), ((b >>> ((0 : Int32) &&& 31)).toInt8.toInt32), ((b >>> ((8 : Int32) &&& 31)).toInt8.toInt32), ((c >>> ((0 : Int32) &&& 31)).toInt8.toInt32), ((c >>> ((8 : Int32) &&& 31)).toInt8.toInt32), ((d >>> ((0 : Int32) &&& 31)).toInt8.toInt32), ((d >>> ((8 : Int32) &&& 31)).toInt8.toInt32)]) (j := ((2 : Int32) <<< ((1 : Int32) &&& 31)) + (1 : Int32)) 5 (by decide), own_gIl (l := [a, b, c, d]) (j := 2) 2 (by decide)]
    exact own_utf hc
  · rw [own_gIl (l := [((a >>> ((0 : Int32) &&& 31)).toInt8.toInt32), ((a >>> ((8 : Int32) &&& 31)).toInt8.toInt32), ((b >>> ((0 : Int32) &&& 31)).toInt8.toInt32), ((b >>> ((8 : Int32) &&& 31)).toInt8.toInt32), ((c >>> ((0 : Int32) &&& 31)).toInt8.toInt32), ((c >>> ((8 : Int32) &&& 31)).toInt8.toInt32), ((d >>> ((0 : Int32) &&& 31)).toInt8.toInt32), ((d >>> ((8 : Int32) &&& 31)).toInt8.toInt32)]) (j := (3 : Int32) <<< ((1 : Int32) &&& 31)) 6 (by decide), own_gIl (l := [((a >>> ((0 : Int32) &&& 31)).toInt8.toInt32), ((a >>> ((8 : Int32) &&& 31)).toInt8.toInt32), ((b >>> ((0 : Int32) &&& 31)).toInt8.toInt32), ((b >>> ((8 : Int32) &&& 31)).toInt8.toInt32), ((c >>> ((0 : Int32) &&& 31)).toInt8.toInt32), ((c >>> ((8 : Int32) &&& 31)).toInt8.toInt32), ((d >>> ((0 : Int32) &&& 31)).toInt8.toInt32), ((d >>> ((8 : Int32) &&& 31)).toInt8.toInt32)]) (j := ((3 : Int32) <<< ((1 : Int32) &&& 31)) + (1 : Int32)) 7 (by decide), own_gIl (l := [a, b, c, d]) (j := 3) 3 (by decide)]
    exact own_utf hd
theorem own_or4 {j a b c d : Int32} (pz : ¬ j < 0) (hp : j < 4) (h : (255 : Int32) < (gI [a, b, c, d] j)) : (255 : Int32) < a ∨ (255 : Int32) < b ∨ (255 : Int32) < c ∨ (255 : Int32) < d := by
  rcases own_p4 (n := 4) (by decide) pz hp with rfl | rfl | rfl | rfl <;> first | exact absurd hp (by decide) | exact Or.inl h | exact Or.inr (Or.inl h) | exact Or.inr (Or.inr (Or.inl h)) | exact Or.inr (Or.inr (Or.inr (h)))
theorem own_andP (x M : Int32) (n : Nat) (hM : M.toBitVec.toNat < n) (P : Int32 → Prop) (t : ∀ k : Fin n, P (Int32.ofNat k.val)) : P (x &&& M) := by
  have h : (x &&& M).toBitVec.toNat < n := by
    rw [Int32.toBitVec_and, BitVec.toNat_and]
    exact Nat.lt_of_le_of_lt Nat.and_le_right hM
  have e : (x &&& M) = Int32.ofNat (x &&& M).toBitVec.toNat := by
    apply Int32.toBitVec_inj.mp
    show _ = BitVec.ofNat 32 _
    rw [BitVec.ofNat_toNat]; simp
  rw [e]
  exact t ⟨_, h⟩
theorem own_n5 (x : Int32) : ¬ (x &&& 7) % 5 < 0 ∧ (x &&& 7) % 5 < 5 := by
  have t : ∀ k : Fin 8, ¬ (Int32.ofNat k.val) % 5 < 0 ∧ (Int32.ofNat k.val) % 5 < 5 := by decide +kernel
  exact own_andP x 7 8 (by decide) (fun y => ¬ y % 5 < 0 ∧ y % 5 < 5) t
theorem own_and3 (x : Int32) : ¬ (x &&& 3) < 0 ∧ (x &&& 3) < 4 := by
  have t : ∀ k : Fin 4, ¬ (Int32.ofNat k.val) < 0 ∧ (Int32.ofNat k.val) < 4 := by decide +kernel
  exact own_andP x 3 4 (by decide) (fun y => ¬ y < 0 ∧ y < 4) t
theorem own_and7 (x : Int32) : ¬ (x &&& 7) < 0 := by
  have t : ∀ k : Fin 8, ¬ (Int32.ofNat k.val) < 0 := by decide +kernel
  exact own_andP x 7 8 (by decide) (fun y => ¬ y < 0) t
theorem own_lt4 {p n : Int32} (h5 : n < 5) (h : p < n) : p < 4 := by
  rw [Int32.lt_iff_toInt_lt] at h5 h ⊢
  have e4 : (4 : Int32).toInt = 4 := rfl
  have e5 : (5 : Int32).toInt = 5 := rfl
  omega
abbrev DC (b : ByteArray) (p : Nat) (i : Instr) (n : Nat) : Prop := ∀ {c : Code}, c.code = b → decode c.code p = .ok (i, n)
abbrev WD (w : Jvm.Cond) : Prop := ∀ {Z : State} {a0 : Array Value}, (∀ d ∈ tables_1, d.before a0 Z = true) → w.before a0 Z = true
theorem own_wd (i : Nat) {w : Jvm.Cond} (h : tables_1[i]? = some w) {Z : State} {a0 : Array Value} (hw : ∀ d ∈ tables_1, d.before a0 Z = true) : w.before a0 Z = true := hw _ (List.mem_of_getElem? h)
abbrev yn_1 : MethodName := ⟨"com/example/runnymede/runnymede/TextReaderLookingAtPinLaw", "make", "(ICCCC)Ljava/lang/String;"⟩
abbrev yn_2 : MethodName := ⟨"java/lang/String", "<init>", "([C)V"⟩
abbrev yn_3 : MethodName := ⟨"java/lang/String", "<init>", "([CIILjava/lang/Void;)V"⟩
abbrev yn_5 : MethodName := ⟨"com/example/runnymede/runnymede/TextReaderLookingAtPinLaw", "<init>", "(Ljava/lang/String;Ljava/lang/String;)V"⟩
abbrev yn_6 : MethodName := ⟨"com/example/runnymede/runnymede/TextReader", "<init>", "(Ljava/lang/String;Ljava/lang/String;)V"⟩
abbrev yn_7 : MethodName := ⟨"com/example/runnymede/runnymede/TextReader", "lookingAt", "(C)Z"⟩
abbrev yn_8 : MethodName := ⟨"java/lang/String", "length", "()I"⟩
abbrev yn_9 : MethodName := ⟨"java/lang/String", "coder", "()B"⟩
abbrev yn_10 : MethodName := ⟨"java/lang/StringUTF16", "compress", "([CII)[B"⟩
abbrev yn_11 : MethodName := ⟨"java/lang/StringUTF16", "compress", "([CI[BII)I"⟩
abbrev yn_12 : MethodName := ⟨"java/lang/StringUTF16", "coderFromArrayLen", "([BI)B"⟩
abbrev yn_13 : MethodName := ⟨"java/lang/String", "charAt", "(I)C"⟩
abbrev yn_14 : MethodName := ⟨"java/lang/String", "isLatin1", "()Z"⟩
abbrev yn_15 : MethodName := ⟨"java/lang/StringLatin1", "charAt", "([BI)C"⟩
abbrev yn_16 : MethodName := ⟨"java/lang/String", "checkIndex", "(II)V"⟩
abbrev yn_17 : MethodName := ⟨"jdk/internal/util/Preconditions", "checkIndex", "(IILjava/util/function/BiFunction;)I"⟩
abbrev yn_18 : MethodName := ⟨"java/lang/StringUTF16", "toBytes", "([CII)[B"⟩
abbrev yn_19 : MethodName := ⟨"java/lang/StringUTF16", "newBytesFor", "(I)[B"⟩
abbrev yn_20 : MethodName := ⟨"java/lang/StringUTF16", "newBytesLength", "(I)I"⟩
abbrev yn_21 : MethodName := ⟨"java/lang/StringUTF16", "putChar", "([BII)V"⟩
abbrev yn_22 : MethodName := ⟨"java/lang/StringUTF16", "getChar", "([BI)C"⟩
abbrev yn_23 : MethodName := ⟨"java/lang/StringUTF16", "charAt", "([BI)C"⟩
abbrev yn_24 : MethodName := ⟨"java/lang/StringUTF16", "checkIndex", "(I[B)V"⟩
abbrev yn_25 : MethodName := ⟨"java/lang/StringUTF16", "length", "([B)I"⟩
theorem d17_0 : DC jdk_41_method_11_code 0 (.iload_n 0) 1 := fun h => hb h (by decide +kernel)
theorem d17_1 : DC jdk_41_method_11_code 1 (.ifCond .lt 8) 3 := fun h => hb h (by decide +kernel)
theorem d17_4 : DC jdk_41_method_11_code 4 (.iload_n 0) 1 := fun h => hb h (by decide +kernel)
theorem d17_5 : DC jdk_41_method_11_code 5 (.iload_n 1) 1 := fun h => hb h (by decide +kernel)
theorem d17_6 : DC jdk_41_method_11_code 6 (.if_icmp .lt 10) 3 := fun h => hb h (by decide +kernel)
theorem d17_16 : DC jdk_41_method_11_code 16 (.iload_n 0) 1 := fun h => hb h (by decide +kernel)
theorem d17_17 : DC jdk_41_method_11_code 17 (.ireturn) 1 := fun h => hb h (by decide +kernel)
theorem d3_0 : DC jdk_42_method_149_code 0 (.aload_n 0) 1 := fun h => hb h (by decide +kernel)
theorem d3_1 : DC jdk_42_method_149_code 1 (.invokespecial 1) 3 := fun h => hb h (by decide +kernel)
theorem d3_4 : DC jdk_42_method_149_code 4 (.iload_n 3) 1 := fun h => hb h (by decide +kernel)
theorem d3_5 : DC jdk_42_method_149_code 5 (.ifCond .ne 22) 3 := fun h => hb h (by decide +kernel)
theorem d3_8 : DC jdk_42_method_149_code 8 (.aload_n 0) 1 := fun h => hb h (by decide +kernel)
theorem d3_9 : DC jdk_42_method_149_code 9 (.ldc 7) 2 := fun h => hb h (by decide +kernel)
theorem d3_11 : DC jdk_42_method_149_code 11 (.getfield 9) 3 := fun h => hb h (by decide +kernel)
theorem d3_14 : DC jdk_42_method_149_code 14 (.putfield 9) 3 := fun h => hb h (by decide +kernel)
theorem d3_17 : DC jdk_42_method_149_code 17 (.aload_n 0) 1 := fun h => hb h (by decide +kernel)
theorem d3_18 : DC jdk_42_method_149_code 18 (.ldc 7) 2 := fun h => hb h (by decide +kernel)
theorem d3_20 : DC jdk_42_method_149_code 20 (.getfield 15) 3 := fun h => hb h (by decide +kernel)
theorem d3_23 : DC jdk_42_method_149_code 23 (.putfield 15) 3 := fun h => hb h (by decide +kernel)
theorem d3_26 : DC jdk_42_method_149_code 26 (.return_) 1 := fun h => hb h (by decide +kernel)
theorem d3_27 : DC jdk_42_method_149_code 27 (.getstatic 38) 3 := fun h => hb h (by decide +kernel)
theorem d3_30 : DC jdk_42_method_149_code 30 (.ifCond .eq 28) 3 := fun h => hb h (by decide +kernel)
theorem d3_33 : DC jdk_42_method_149_code 33 (.aload_n 1) 1 := fun h => hb h (by decide +kernel)
theorem d3_34 : DC jdk_42_method_149_code 34 (.iload_n 2) 1 := fun h => hb h (by decide +kernel)
theorem d3_35 : DC jdk_42_method_149_code 35 (.iload_n 3) 1 := fun h => hb h (by decide +kernel)
theorem d3_36 : DC jdk_42_method_149_code 36 (.invokestatic 177) 3 := fun h => hb h (by decide +kernel)
theorem d3_39 : DC jdk_42_method_149_code 39 (.astore 5) 2 := fun h => hb h (by decide +kernel)
theorem d3_41 : DC jdk_42_method_149_code 41 (.aload_n 0) 1 := fun h => hb h (by decide +kernel)
theorem d3_42 : DC jdk_42_method_149_code 42 (.aload 5) 2 := fun h => hb h (by decide +kernel)
theorem d3_44 : DC jdk_42_method_149_code 44 (.iload_n 3) 1 := fun h => hb h (by decide +kernel)
theorem d3_45 : DC jdk_42_method_149_code 45 (.invokestatic 47) 3 := fun h => hb h (by decide +kernel)
theorem d3_48 : DC jdk_42_method_149_code 48 (.putfield 15) 3 := fun h => hb h (by decide +kernel)
theorem d3_51 : DC jdk_42_method_149_code 51 (.aload_n 0) 1 := fun h => hb h (by decide +kernel)
theorem d3_52 : DC jdk_42_method_149_code 52 (.aload 5) 2 := fun h => hb h (by decide +kernel)
theorem d3_54 : DC jdk_42_method_149_code 54 (.putfield 9) 3 := fun h => hb h (by decide +kernel)
theorem d3_57 : DC jdk_42_method_149_code 57 (.return_) 1 := fun h => hb h (by decide +kernel)
theorem d9_0 : DC jdk_42_method_152_code 0 (.getstatic 38) 3 := fun h => hb h (by decide +kernel)
theorem d9_3 : DC jdk_42_method_152_code 3 (.ifCond .eq 10) 3 := fun h => hb h (by decide +kernel)
theorem d9_6 : DC jdk_42_method_152_code 6 (.aload_n 0) 1 := fun h => hb h (by decide +kernel)
theorem d9_7 : DC jdk_42_method_152_code 7 (.getfield 15) 3 := fun h => hb h (by decide +kernel)
theorem d9_10 : DC jdk_42_method_152_code 10 (.goto 4) 3 := fun h => hb h (by decide +kernel)
theorem d9_14 : DC jdk_42_method_152_code 14 (.ireturn) 1 := fun h => hb h (by decide +kernel)
theorem d14_0 : DC jdk_42_method_154_code 0 (.getstatic 38) 3 := fun h => hb h (by decide +kernel)
theorem d14_3 : DC jdk_42_method_154_code 3 (.ifCond .eq 14) 3 := fun h => hb h (by decide +kernel)
theorem d14_6 : DC jdk_42_method_154_code 6 (.aload_n 0) 1 := fun h => hb h (by decide +kernel)
theorem d14_7 : DC jdk_42_method_154_code 7 (.getfield 15) 3 := fun h => hb h (by decide +kernel)
theorem d14_10 : DC jdk_42_method_154_code 10 (.ifCond .ne 7) 3 := fun h => hb h (by decide +kernel)
theorem d14_13 : DC jdk_42_method_154_code 13 (.iconst 1) 1 := fun h => hb h (by decide +kernel)
theorem d14_14 : DC jdk_42_method_154_code 14 (.goto 4) 3 := fun h => hb h (by decide +kernel)
theorem d14_17 : DC jdk_42_method_154_code 17 (.iconst 0) 1 := fun h => hb h (by decide +kernel)
theorem d14_18 : DC jdk_42_method_154_code 18 (.ireturn) 1 := fun h => hb h (by decide +kernel)
theorem d16_0 : DC jdk_42_method_155_code 0 (.iload_n 0) 1 := fun h => hb h (by decide +kernel)
theorem d16_1 : DC jdk_42_method_155_code 1 (.iload_n 1) 1 := fun h => hb h (by decide +kernel)
theorem d16_2 : DC jdk_42_method_155_code 2 (.getstatic 1053) 3 := fun h => hb h (by decide +kernel)
theorem d16_5 : DC jdk_42_method_155_code 5 (.invokestatic 1059) 3 := fun h => hb h (by decide +kernel)
theorem d16_8 : DC jdk_42_method_155_code 8 (.pop) 1 := fun h => hb h (by decide +kernel)
theorem d16_9 : DC jdk_42_method_155_code 9 (.return_) 1 := fun h => hb h (by decide +kernel)
theorem d2_0 : DC jdk_42_method_3_code 0 (.aload_n 0) 1 := fun h => hb h (by decide +kernel)
theorem d2_1 : DC jdk_42_method_3_code 1 (.aload_n 1) 1 := fun h => hb h (by decide +kernel)
theorem d2_2 : DC jdk_42_method_3_code 2 (.iconst 0) 1 := fun h => hb h (by decide +kernel)
theorem d2_3 : DC jdk_42_method_3_code 3 (.aload_n 1) 1 := fun h => hb h (by decide +kernel)
theorem d2_4 : DC jdk_42_method_3_code 4 (.arraylength) 1 := fun h => hb h (by decide +kernel)
theorem d2_5 : DC jdk_42_method_3_code 5 (.aconst_null) 1 := fun h => hb h (by decide +kernel)
theorem d2_6 : DC jdk_42_method_3_code 6 (.invokespecial 27) 3 := fun h => hb h (by decide +kernel)
theorem d2_9 : DC jdk_42_method_3_code 9 (.return_) 1 := fun h => hb h (by decide +kernel)
theorem d8_0 : DC jdk_42_method_54_code 0 (.aload_n 0) 1 := fun h => hb h (by decide +kernel)
theorem d8_1 : DC jdk_42_method_54_code 1 (.getfield 9) 3 := fun h => hb h (by decide +kernel)
theorem d8_4 : DC jdk_42_method_54_code 4 (.arraylength) 1 := fun h => hb h (by decide +kernel)
theorem d8_5 : DC jdk_42_method_54_code 5 (.aload_n 0) 1 := fun h => hb h (by decide +kernel)
theorem d8_6 : DC jdk_42_method_54_code 6 (.invokevirtual 335) 3 := fun h => hb h (by decide +kernel)
theorem d8_9 : DC jdk_42_method_54_code 9 (.ishr) 1 := fun h => hb h (by decide +kernel)
theorem d8_10 : DC jdk_42_method_54_code 10 (.ireturn) 1 := fun h => hb h (by decide +kernel)
theorem d13_0 : DC jdk_42_method_56_code 0 (.aload_n 0) 1 := fun h => hb h (by decide +kernel)
theorem d13_1 : DC jdk_42_method_56_code 1 (.invokevirtual 492) 3 := fun h => hb h (by decide +kernel)
theorem d13_4 : DC jdk_42_method_56_code 4 (.ifCond .eq 12) 3 := fun h => hb h (by decide +kernel)
theorem d13_7 : DC jdk_42_method_56_code 7 (.aload_n 0) 1 := fun h => hb h (by decide +kernel)
theorem d13_8 : DC jdk_42_method_56_code 8 (.getfield 9) 3 := fun h => hb h (by decide +kernel)
theorem d13_11 : DC jdk_42_method_56_code 11 (.iload_n 1) 1 := fun h => hb h (by decide +kernel)
theorem d13_12 : DC jdk_42_method_56_code 12 (.invokestatic 495) 3 := fun h => hb h (by decide +kernel)
theorem d13_15 : DC jdk_42_method_56_code 15 (.ireturn) 1 := fun h => hb h (by decide +kernel)
theorem d13_16 : DC jdk_42_method_56_code 16 (.aload_n 0) 1 := fun h => hb h (by decide +kernel)
theorem d13_17 : DC jdk_42_method_56_code 17 (.getfield 9) 3 := fun h => hb h (by decide +kernel)
theorem d13_20 : DC jdk_42_method_56_code 20 (.iload_n 1) 1 := fun h => hb h (by decide +kernel)
theorem d13_21 : DC jdk_42_method_56_code 21 (.invokestatic 498) 3 := fun h => hb h (by decide +kernel)
theorem d13_24 : DC jdk_42_method_56_code 24 (.ireturn) 1 := fun h => hb h (by decide +kernel)
theorem d15_0 : DC jdk_43_method_2_code 0 (.iload_n 1) 1 := fun h => hb h (by decide +kernel)
theorem d15_1 : DC jdk_43_method_2_code 1 (.aload_n 0) 1 := fun h => hb h (by decide +kernel)
theorem d15_2 : DC jdk_43_method_2_code 2 (.arraylength) 1 := fun h => hb h (by decide +kernel)
theorem d15_3 : DC jdk_43_method_2_code 3 (.invokestatic 9) 3 := fun h => hb h (by decide +kernel)
theorem d15_6 : DC jdk_43_method_2_code 6 (.aload_n 0) 1 := fun h => hb h (by decide +kernel)
theorem d15_7 : DC jdk_43_method_2_code 7 (.iload_n 1) 1 := fun h => hb h (by decide +kernel)
theorem d15_8 : DC jdk_43_method_2_code 8 (.baload) 1 := fun h => hb h (by decide +kernel)
theorem d15_9 : DC jdk_43_method_2_code 9 (.sipush 255) 3 := fun h => hb h (by decide +kernel)
theorem d15_12 : DC jdk_43_method_2_code 12 (.iand) 1 := fun h => hb h (by decide +kernel)
theorem d15_13 : DC jdk_43_method_2_code 13 (.i2c) 1 := fun h => hb h (by decide +kernel)
theorem d15_14 : DC jdk_43_method_2_code 14 (.ireturn) 1 := fun h => hb h (by decide +kernel)
theorem d18_0 : DC jdk_52_method_14_code 0 (.iload_n 2) 1 := fun h => hb h (by decide +kernel)
theorem d18_1 : DC jdk_52_method_14_code 1 (.invokestatic 107) 3 := fun h => hb h (by decide +kernel)
theorem d18_4 : DC jdk_52_method_14_code 4 (.astore_n 3) 1 := fun h => hb h (by decide +kernel)
theorem d18_5 : DC jdk_52_method_14_code 5 (.iconst 0) 1 := fun h => hb h (by decide +kernel)
theorem d18_6 : DC jdk_52_method_14_code 6 (.istore 4) 2 := fun h => hb h (by decide +kernel)
theorem d18_8 : DC jdk_52_method_14_code 8 (.iload 4) 2 := fun h => hb h (by decide +kernel)
theorem d18_10 : DC jdk_52_method_14_code 10 (.iload_n 2) 1 := fun h => hb h (by decide +kernel)
theorem d18_11 : DC jdk_52_method_14_code 11 (.if_icmp .ge 21) 3 := fun h => hb h (by decide +kernel)
theorem d18_14 : DC jdk_52_method_14_code 14 (.aload_n 3) 1 := fun h => hb h (by decide +kernel)
theorem d18_15 : DC jdk_52_method_14_code 15 (.iload 4) 2 := fun h => hb h (by decide +kernel)
theorem d18_17 : DC jdk_52_method_14_code 17 (.aload_n 0) 1 := fun h => hb h (by decide +kernel)
theorem d18_18 : DC jdk_52_method_14_code 18 (.iload_n 1) 1 := fun h => hb h (by decide +kernel)
theorem d18_19 : DC jdk_52_method_14_code 19 (.caload) 1 := fun h => hb h (by decide +kernel)
theorem d18_20 : DC jdk_52_method_14_code 20 (.invokestatic 111) 3 := fun h => hb h (by decide +kernel)
theorem d18_23 : DC jdk_52_method_14_code 23 (.iinc 1 1) 3 := fun h => hb h (by decide +kernel)
theorem d18_26 : DC jdk_52_method_14_code 26 (.iinc 4 1) 3 := fun h => hb h (by decide +kernel)
theorem d18_29 : DC jdk_52_method_14_code 29 (.goto (-21)) 3 := fun h => hb h (by decide +kernel)
theorem d18_32 : DC jdk_52_method_14_code 32 (.aload_n 3) 1 := fun h => hb h (by decide +kernel)
theorem d18_33 : DC jdk_52_method_14_code 33 (.areturn) 1 := fun h => hb h (by decide +kernel)
theorem d12_0 : DC jdk_52_method_15_code 0 (.iload_n 1) 1 := fun h => hb h (by decide +kernel)
theorem d12_1 : DC jdk_52_method_15_code 1 (.aload_n 0) 1 := fun h => hb h (by decide +kernel)
theorem d12_2 : DC jdk_52_method_15_code 2 (.arraylength) 1 := fun h => hb h (by decide +kernel)
theorem d12_3 : DC jdk_52_method_15_code 3 (.isub) 1 := fun h => hb h (by decide +kernel)
theorem d12_4 : DC jdk_52_method_15_code 4 (.bipush 31) 2 := fun h => hb h (by decide +kernel)
theorem d12_6 : DC jdk_52_method_15_code 6 (.iushr) 1 := fun h => hb h (by decide +kernel)
theorem d12_7 : DC jdk_52_method_15_code 7 (.i2b) 1 := fun h => hb h (by decide +kernel)
theorem d12_8 : DC jdk_52_method_15_code 8 (.ireturn) 1 := fun h => hb h (by decide +kernel)
theorem d10_0 : DC jdk_52_method_16_code 0 (.iload_n 2) 1 := fun h => hb h (by decide +kernel)
theorem d10_1 : DC jdk_52_method_16_code 1 (.newarray .byte) 2 := fun h => hb h (by decide +kernel)
theorem d10_3 : DC jdk_52_method_16_code 3 (.astore_n 3) 1 := fun h => hb h (by decide +kernel)
theorem d10_4 : DC jdk_52_method_16_code 4 (.aload_n 0) 1 := fun h => hb h (by decide +kernel)
theorem d10_5 : DC jdk_52_method_16_code 5 (.iload_n 1) 1 := fun h => hb h (by decide +kernel)
theorem d10_6 : DC jdk_52_method_16_code 6 (.aload_n 3) 1 := fun h => hb h (by decide +kernel)
theorem d10_7 : DC jdk_52_method_16_code 7 (.iconst 0) 1 := fun h => hb h (by decide +kernel)
theorem d10_8 : DC jdk_52_method_16_code 8 (.iload_n 2) 1 := fun h => hb h (by decide +kernel)
theorem d10_9 : DC jdk_52_method_16_code 9 (.invokestatic 115) 3 := fun h => hb h (by decide +kernel)
theorem d10_12 : DC jdk_52_method_16_code 12 (.istore 4) 2 := fun h => hb h (by decide +kernel)
theorem d10_14 : DC jdk_52_method_16_code 14 (.iload 4) 2 := fun h => hb h (by decide +kernel)
theorem d10_16 : DC jdk_52_method_16_code 16 (.iload_n 2) 1 := fun h => hb h (by decide +kernel)
theorem d10_17 : DC jdk_52_method_16_code 17 (.if_icmp .eq 40) 3 := fun h => hb h (by decide +kernel)
theorem d10_20 : DC jdk_52_method_16_code 20 (.aload_n 0) 1 := fun h => hb h (by decide +kernel)
theorem d10_21 : DC jdk_52_method_16_code 21 (.iload_n 1) 1 := fun h => hb h (by decide +kernel)
theorem d10_22 : DC jdk_52_method_16_code 22 (.iload_n 2) 1 := fun h => hb h (by decide +kernel)
theorem d10_23 : DC jdk_52_method_16_code 23 (.invokestatic 119) 3 := fun h => hb h (by decide +kernel)
theorem d10_26 : DC jdk_52_method_16_code 26 (.astore 5) 2 := fun h => hb h (by decide +kernel)
theorem d10_28 : DC jdk_52_method_16_code 28 (.aload 5) 2 := fun h => hb h (by decide +kernel)
theorem d10_30 : DC jdk_52_method_16_code 30 (.iload 4) 2 := fun h => hb h (by decide +kernel)
theorem d10_32 : DC jdk_52_method_16_code 32 (.invokestatic 71) 3 := fun h => hb h (by decide +kernel)
theorem d10_35 : DC jdk_52_method_16_code 35 (.sipush 255) 3 := fun h => hb h (by decide +kernel)
theorem d10_38 : DC jdk_52_method_16_code 38 (.if_icmp .gt 16) 3 := fun h => hb h (by decide +kernel)
theorem d10_54 : DC jdk_52_method_16_code 54 (.aload 5) 2 := fun h => hb h (by decide +kernel)
theorem d10_56 : DC jdk_52_method_16_code 56 (.areturn) 1 := fun h => hb h (by decide +kernel)
theorem d10_57 : DC jdk_52_method_16_code 57 (.aload_n 3) 1 := fun h => hb h (by decide +kernel)
theorem d10_58 : DC jdk_52_method_16_code 58 (.areturn) 1 := fun h => hb h (by decide +kernel)
theorem d11_0 : DC jdk_52_method_21_code 0 (.iconst 0) 1 := fun h => hb h (by decide +kernel)
theorem d11_1 : DC jdk_52_method_21_code 1 (.istore 5) 2 := fun h => hb h (by decide +kernel)
theorem d11_3 : DC jdk_52_method_21_code 3 (.iload 5) 2 := fun h => hb h (by decide +kernel)
theorem d11_5 : DC jdk_52_method_21_code 5 (.iload 4) 2 := fun h => hb h (by decide +kernel)
theorem d11_7 : DC jdk_52_method_21_code 7 (.if_icmp .ge 37) 3 := fun h => hb h (by decide +kernel)
theorem d11_10 : DC jdk_52_method_21_code 10 (.aload_n 0) 1 := fun h => hb h (by decide +kernel)
theorem d11_11 : DC jdk_52_method_21_code 11 (.iload_n 1) 1 := fun h => hb h (by decide +kernel)
theorem d11_12 : DC jdk_52_method_21_code 12 (.caload) 1 := fun h => hb h (by decide +kernel)
theorem d11_13 : DC jdk_52_method_21_code 13 (.istore 6) 2 := fun h => hb h (by decide +kernel)
theorem d11_15 : DC jdk_52_method_21_code 15 (.iload 6) 2 := fun h => hb h (by decide +kernel)
theorem d11_17 : DC jdk_52_method_21_code 17 (.sipush 255) 3 := fun h => hb h (by decide +kernel)
theorem d11_20 : DC jdk_52_method_21_code 20 (.if_icmp .le 6) 3 := fun h => hb h (by decide +kernel)
theorem d11_23 : DC jdk_52_method_21_code 23 (.iload 5) 2 := fun h => hb h (by decide +kernel)
theorem d11_25 : DC jdk_52_method_21_code 25 (.ireturn) 1 := fun h => hb h (by decide +kernel)
theorem d11_26 : DC jdk_52_method_21_code 26 (.aload_n 2) 1 := fun h => hb h (by decide +kernel)
theorem d11_27 : DC jdk_52_method_21_code 27 (.iload_n 3) 1 := fun h => hb h (by decide +kernel)
theorem d11_28 : DC jdk_52_method_21_code 28 (.iload 6) 2 := fun h => hb h (by decide +kernel)
theorem d11_30 : DC jdk_52_method_21_code 30 (.i2b) 1 := fun h => hb h (by decide +kernel)
theorem d11_31 : DC jdk_52_method_21_code 31 (.bastore) 1 := fun h => hb h (by decide +kernel)
theorem d11_32 : DC jdk_52_method_21_code 32 (.iinc 1 1) 3 := fun h => hb h (by decide +kernel)
theorem d11_35 : DC jdk_52_method_21_code 35 (.iinc 3 1) 3 := fun h => hb h (by decide +kernel)
theorem d11_38 : DC jdk_52_method_21_code 38 (.iinc 5 1) 3 := fun h => hb h (by decide +kernel)
theorem d11_41 : DC jdk_52_method_21_code 41 (.goto (-38)) 3 := fun h => hb h (by decide +kernel)
theorem d11_44 : DC jdk_52_method_21_code 44 (.iload 4) 2 := fun h => hb h (by decide +kernel)
theorem d11_46 : DC jdk_52_method_21_code 46 (.ireturn) 1 := fun h => hb h (by decide +kernel)
theorem d19_0 : DC jdk_52_method_2_code 0 (.iload_n 0) 1 := fun h => hb h (by decide +kernel)
theorem d19_1 : DC jdk_52_method_2_code 1 (.invokestatic 11) 3 := fun h => hb h (by decide +kernel)
theorem d19_4 : DC jdk_52_method_2_code 4 (.newarray .byte) 2 := fun h => hb h (by decide +kernel)
theorem d19_6 : DC jdk_52_method_2_code 6 (.areturn) 1 := fun h => hb h (by decide +kernel)
theorem d20_0 : DC jdk_52_method_3_code 0 (.iload_n 0) 1 := fun h => hb h (by decide +kernel)
theorem d20_1 : DC jdk_52_method_3_code 1 (.ifCond .ge 11) 3 := fun h => hb h (by decide +kernel)
theorem d20_12 : DC jdk_52_method_3_code 12 (.iload_n 0) 1 := fun h => hb h (by decide +kernel)
theorem d20_13 : DC jdk_52_method_3_code 13 (.ldc 20) 2 := fun h => hb h (by decide +kernel)
theorem d20_15 : DC jdk_52_method_3_code 15 (.if_icmp .lt 40) 3 := fun h => hb h (by decide +kernel)
theorem d20_55 : DC jdk_52_method_3_code 55 (.iload_n 0) 1 := fun h => hb h (by decide +kernel)
theorem d20_56 : DC jdk_52_method_3_code 56 (.iconst 1) 1 := fun h => hb h (by decide +kernel)
theorem d20_57 : DC jdk_52_method_3_code 57 (.ishl) 1 := fun h => hb h (by decide +kernel)
theorem d20_58 : DC jdk_52_method_3_code 58 (.ireturn) 1 := fun h => hb h (by decide +kernel)
theorem d21_0 : DC jdk_52_method_4_code 0 (.getstatic 44) 3 := fun h => hb h (by decide +kernel)
theorem d21_3 : DC jdk_52_method_4_code 3 (.ifCond .ne 25) 3 := fun h => hb h (by decide +kernel)
theorem d21_28 : DC jdk_52_method_4_code 28 (.iload_n 1) 1 := fun h => hb h (by decide +kernel)
theorem d21_29 : DC jdk_52_method_4_code 29 (.iconst 1) 1 := fun h => hb h (by decide +kernel)
theorem d21_30 : DC jdk_52_method_4_code 30 (.ishl) 1 := fun h => hb h (by decide +kernel)
theorem d21_31 : DC jdk_52_method_4_code 31 (.istore_n 1) 1 := fun h => hb h (by decide +kernel)
theorem d21_32 : DC jdk_52_method_4_code 32 (.aload_n 0) 1 := fun h => hb h (by decide +kernel)
theorem d21_33 : DC jdk_52_method_4_code 33 (.iload_n 1) 1 := fun h => hb h (by decide +kernel)
theorem d21_34 : DC jdk_52_method_4_code 34 (.iinc 1 1) 3 := fun h => hb h (by decide +kernel)
theorem d21_37 : DC jdk_52_method_4_code 37 (.iload_n 2) 1 := fun h => hb h (by decide +kernel)
theorem d21_38 : DC jdk_52_method_4_code 38 (.getstatic 59) 3 := fun h => hb h (by decide +kernel)
theorem d21_41 : DC jdk_52_method_4_code 41 (.ishr) 1 := fun h => hb h (by decide +kernel)
theorem d21_42 : DC jdk_52_method_4_code 42 (.i2b) 1 := fun h => hb h (by decide +kernel)
theorem d21_43 : DC jdk_52_method_4_code 43 (.bastore) 1 := fun h => hb h (by decide +kernel)
theorem d21_44 : DC jdk_52_method_4_code 44 (.aload_n 0) 1 := fun h => hb h (by decide +kernel)
theorem d21_45 : DC jdk_52_method_4_code 45 (.iload_n 1) 1 := fun h => hb h (by decide +kernel)
theorem d21_46 : DC jdk_52_method_4_code 46 (.iload_n 2) 1 := fun h => hb h (by decide +kernel)
theorem d21_47 : DC jdk_52_method_4_code 47 (.getstatic 63) 3 := fun h => hb h (by decide +kernel)
theorem d21_50 : DC jdk_52_method_4_code 50 (.ishr) 1 := fun h => hb h (by decide +kernel)
theorem d21_51 : DC jdk_52_method_4_code 51 (.i2b) 1 := fun h => hb h (by decide +kernel)
theorem d21_52 : DC jdk_52_method_4_code 52 (.bastore) 1 := fun h => hb h (by decide +kernel)
theorem d21_53 : DC jdk_52_method_4_code 53 (.return_) 1 := fun h => hb h (by decide +kernel)
theorem d22_0 : DC jdk_52_method_5_code 0 (.getstatic 44) 3 := fun h => hb h (by decide +kernel)
theorem d22_3 : DC jdk_52_method_5_code 3 (.ifCond .ne 25) 3 := fun h => hb h (by decide +kernel)
theorem d22_28 : DC jdk_52_method_5_code 28 (.iload_n 1) 1 := fun h => hb h (by decide +kernel)
theorem d22_29 : DC jdk_52_method_5_code 29 (.iconst 1) 1 := fun h => hb h (by decide +kernel)
theorem d22_30 : DC jdk_52_method_5_code 30 (.ishl) 1 := fun h => hb h (by decide +kernel)
theorem d22_31 : DC jdk_52_method_5_code 31 (.istore_n 1) 1 := fun h => hb h (by decide +kernel)
theorem d22_32 : DC jdk_52_method_5_code 32 (.aload_n 0) 1 := fun h => hb h (by decide +kernel)
theorem d22_33 : DC jdk_52_method_5_code 33 (.iload_n 1) 1 := fun h => hb h (by decide +kernel)
theorem d22_34 : DC jdk_52_method_5_code 34 (.iinc 1 1) 3 := fun h => hb h (by decide +kernel)
theorem d22_37 : DC jdk_52_method_5_code 37 (.baload) 1 := fun h => hb h (by decide +kernel)
theorem d22_38 : DC jdk_52_method_5_code 38 (.sipush 255) 3 := fun h => hb h (by decide +kernel)
theorem d22_41 : DC jdk_52_method_5_code 41 (.iand) 1 := fun h => hb h (by decide +kernel)
theorem d22_42 : DC jdk_52_method_5_code 42 (.getstatic 59) 3 := fun h => hb h (by decide +kernel)
theorem d22_45 : DC jdk_52_method_5_code 45 (.ishl) 1 := fun h => hb h (by decide +kernel)
theorem d22_46 : DC jdk_52_method_5_code 46 (.aload_n 0) 1 := fun h => hb h (by decide +kernel)
theorem d22_47 : DC jdk_52_method_5_code 47 (.iload_n 1) 1 := fun h => hb h (by decide +kernel)
theorem d22_48 : DC jdk_52_method_5_code 48 (.baload) 1 := fun h => hb h (by decide +kernel)
theorem d22_49 : DC jdk_52_method_5_code 49 (.sipush 255) 3 := fun h => hb h (by decide +kernel)
theorem d22_52 : DC jdk_52_method_5_code 52 (.iand) 1 := fun h => hb h (by decide +kernel)
theorem d22_53 : DC jdk_52_method_5_code 53 (.getstatic 63) 3 := fun h => hb h (by decide +kernel)
theorem d22_56 : DC jdk_52_method_5_code 56 (.ishl) 1 := fun h => hb h (by decide +kernel)
theorem d22_57 : DC jdk_52_method_5_code 57 (.ior) 1 := fun h => hb h (by decide +kernel)
theorem d22_58 : DC jdk_52_method_5_code 58 (.i2c) 1 := fun h => hb h (by decide +kernel)
theorem d22_59 : DC jdk_52_method_5_code 59 (.ireturn) 1 := fun h => hb h (by decide +kernel)
theorem d25_0 : DC jdk_52_method_6_code 0 (.aload_n 0) 1 := fun h => hb h (by decide +kernel)
theorem d25_1 : DC jdk_52_method_6_code 1 (.arraylength) 1 := fun h => hb h (by decide +kernel)
theorem d25_2 : DC jdk_52_method_6_code 2 (.iconst 1) 1 := fun h => hb h (by decide +kernel)
theorem d25_3 : DC jdk_52_method_6_code 3 (.ishr) 1 := fun h => hb h (by decide +kernel)
theorem d25_4 : DC jdk_52_method_6_code 4 (.ireturn) 1 := fun h => hb h (by decide +kernel)
theorem d23_0 : DC jdk_52_method_83_code 0 (.iload_n 1) 1 := fun h => hb h (by decide +kernel)
theorem d23_1 : DC jdk_52_method_83_code 1 (.aload_n 0) 1 := fun h => hb h (by decide +kernel)
theorem d23_2 : DC jdk_52_method_83_code 2 (.invokestatic 67) 3 := fun h => hb h (by decide +kernel)
theorem d23_5 : DC jdk_52_method_83_code 5 (.aload_n 0) 1 := fun h => hb h (by decide +kernel)
theorem d23_6 : DC jdk_52_method_83_code 6 (.iload_n 1) 1 := fun h => hb h (by decide +kernel)
theorem d23_7 : DC jdk_52_method_83_code 7 (.invokestatic 71) 3 := fun h => hb h (by decide +kernel)
theorem d23_10 : DC jdk_52_method_83_code 10 (.ireturn) 1 := fun h => hb h (by decide +kernel)
theorem d24_0 : DC jdk_52_method_91_code 0 (.iload_n 0) 1 := fun h => hb h (by decide +kernel)
theorem d24_1 : DC jdk_52_method_91_code 1 (.aload_n 1) 1 := fun h => hb h (by decide +kernel)
theorem d24_2 : DC jdk_52_method_91_code 2 (.invokestatic 48) 3 := fun h => hb h (by decide +kernel)
theorem d24_5 : DC jdk_52_method_91_code 5 (.invokestatic 414) 3 := fun h => hb h (by decide +kernel)
theorem d24_8 : DC jdk_52_method_91_code 8 (.return_) 1 := fun h => hb h (by decide +kernel)
theorem d5_0 : DC method_1_code 0 (.aload_n 0) 1 := fun h => hb h (by decide +kernel)
theorem d5_1 : DC method_1_code 1 (.aload_n 1) 1 := fun h => hb h (by decide +kernel)
theorem d5_2 : DC method_1_code 2 (.aload_n 2) 1 := fun h => hb h (by decide +kernel)
theorem d5_3 : DC method_1_code 3 (.invokespecial 1) 3 := fun h => hb h (by decide +kernel)
theorem d5_6 : DC method_1_code 6 (.return_) 1 := fun h => hb h (by decide +kernel)
theorem d1_0 : DC method_2_code 0 (.iload_n 0) 1 := fun h => hb h (by decide +kernel)
theorem d1_1 : DC method_2_code 1 (.ifCond .ne 14) 3 := fun h => hb h (by decide +kernel)
theorem d1_4 : DC method_2_code 4 (.new 7) 3 := fun h => hb h (by decide +kernel)
theorem d1_7 : DC method_2_code 7 (.dup) 1 := fun h => hb h (by decide +kernel)
theorem d1_8 : DC method_2_code 8 (.iconst 0) 1 := fun h => hb h (by decide +kernel)
theorem d1_9 : DC method_2_code 9 (.newarray .char) 2 := fun h => hb h (by decide +kernel)
theorem d1_11 : DC method_2_code 11 (.invokespecial 9) 3 := fun h => hb h (by decide +kernel)
theorem d1_14 : DC method_2_code 14 (.areturn) 1 := fun h => hb h (by decide +kernel)
theorem d1_15 : DC method_2_code 15 (.iload_n 0) 1 := fun h => hb h (by decide +kernel)
theorem d1_16 : DC method_2_code 16 (.iconst 1) 1 := fun h => hb h (by decide +kernel)
theorem d1_17 : DC method_2_code 17 (.if_icmp .ne 18) 3 := fun h => hb h (by decide +kernel)
theorem d1_20 : DC method_2_code 20 (.new 7) 3 := fun h => hb h (by decide +kernel)
theorem d1_23 : DC method_2_code 23 (.dup) 1 := fun h => hb h (by decide +kernel)
theorem d1_24 : DC method_2_code 24 (.iconst 1) 1 := fun h => hb h (by decide +kernel)
theorem d1_25 : DC method_2_code 25 (.newarray .char) 2 := fun h => hb h (by decide +kernel)
theorem d1_27 : DC method_2_code 27 (.dup) 1 := fun h => hb h (by decide +kernel)
theorem d1_28 : DC method_2_code 28 (.iconst 0) 1 := fun h => hb h (by decide +kernel)
theorem d1_29 : DC method_2_code 29 (.iload_n 1) 1 := fun h => hb h (by decide +kernel)
theorem d1_30 : DC method_2_code 30 (.castore) 1 := fun h => hb h (by decide +kernel)
theorem d1_31 : DC method_2_code 31 (.invokespecial 9) 3 := fun h => hb h (by decide +kernel)
theorem d1_34 : DC method_2_code 34 (.areturn) 1 := fun h => hb h (by decide +kernel)
theorem d1_35 : DC method_2_code 35 (.iload_n 0) 1 := fun h => hb h (by decide +kernel)
theorem d1_36 : DC method_2_code 36 (.iconst 2) 1 := fun h => hb h (by decide +kernel)
theorem d1_37 : DC method_2_code 37 (.if_icmp .ne 22) 3 := fun h => hb h (by decide +kernel)
theorem d1_40 : DC method_2_code 40 (.new 7) 3 := fun h => hb h (by decide +kernel)
theorem d1_43 : DC method_2_code 43 (.dup) 1 := fun h => hb h (by decide +kernel)
theorem d1_44 : DC method_2_code 44 (.iconst 2) 1 := fun h => hb h (by decide +kernel)
theorem d1_45 : DC method_2_code 45 (.newarray .char) 2 := fun h => hb h (by decide +kernel)
theorem d1_47 : DC method_2_code 47 (.dup) 1 := fun h => hb h (by decide +kernel)
theorem d1_48 : DC method_2_code 48 (.iconst 0) 1 := fun h => hb h (by decide +kernel)
theorem d1_49 : DC method_2_code 49 (.iload_n 1) 1 := fun h => hb h (by decide +kernel)
theorem d1_50 : DC method_2_code 50 (.castore) 1 := fun h => hb h (by decide +kernel)
theorem d1_51 : DC method_2_code 51 (.dup) 1 := fun h => hb h (by decide +kernel)
theorem d1_52 : DC method_2_code 52 (.iconst 1) 1 := fun h => hb h (by decide +kernel)
theorem d1_53 : DC method_2_code 53 (.iload_n 2) 1 := fun h => hb h (by decide +kernel)
theorem d1_54 : DC method_2_code 54 (.castore) 1 := fun h => hb h (by decide +kernel)
theorem d1_55 : DC method_2_code 55 (.invokespecial 9) 3 := fun h => hb h (by decide +kernel)
theorem d1_58 : DC method_2_code 58 (.areturn) 1 := fun h => hb h (by decide +kernel)
theorem d1_59 : DC method_2_code 59 (.iload_n 0) 1 := fun h => hb h (by decide +kernel)
theorem d1_60 : DC method_2_code 60 (.iconst 3) 1 := fun h => hb h (by decide +kernel)
theorem d1_61 : DC method_2_code 61 (.if_icmp .ne 26) 3 := fun h => hb h (by decide +kernel)
theorem d1_64 : DC method_2_code 64 (.new 7) 3 := fun h => hb h (by decide +kernel)
theorem d1_67 : DC method_2_code 67 (.dup) 1 := fun h => hb h (by decide +kernel)
theorem d1_68 : DC method_2_code 68 (.iconst 3) 1 := fun h => hb h (by decide +kernel)
theorem d1_69 : DC method_2_code 69 (.newarray .char) 2 := fun h => hb h (by decide +kernel)
theorem d1_71 : DC method_2_code 71 (.dup) 1 := fun h => hb h (by decide +kernel)
theorem d1_72 : DC method_2_code 72 (.iconst 0) 1 := fun h => hb h (by decide +kernel)
theorem d1_73 : DC method_2_code 73 (.iload_n 1) 1 := fun h => hb h (by decide +kernel)
theorem d1_74 : DC method_2_code 74 (.castore) 1 := fun h => hb h (by decide +kernel)
theorem d1_75 : DC method_2_code 75 (.dup) 1 := fun h => hb h (by decide +kernel)
theorem d1_76 : DC method_2_code 76 (.iconst 1) 1 := fun h => hb h (by decide +kernel)
theorem d1_77 : DC method_2_code 77 (.iload_n 2) 1 := fun h => hb h (by decide +kernel)
theorem d1_78 : DC method_2_code 78 (.castore) 1 := fun h => hb h (by decide +kernel)
theorem d1_79 : DC method_2_code 79 (.dup) 1 := fun h => hb h (by decide +kernel)
theorem d1_80 : DC method_2_code 80 (.iconst 2) 1 := fun h => hb h (by decide +kernel)
theorem d1_81 : DC method_2_code 81 (.iload_n 3) 1 := fun h => hb h (by decide +kernel)
theorem d1_82 : DC method_2_code 82 (.castore) 1 := fun h => hb h (by decide +kernel)
theorem d1_83 : DC method_2_code 83 (.invokespecial 9) 3 := fun h => hb h (by decide +kernel)
theorem d1_86 : DC method_2_code 86 (.areturn) 1 := fun h => hb h (by decide +kernel)
theorem d1_87 : DC method_2_code 87 (.new 7) 3 := fun h => hb h (by decide +kernel)
theorem d1_90 : DC method_2_code 90 (.dup) 1 := fun h => hb h (by decide +kernel)
theorem d1_91 : DC method_2_code 91 (.iconst 4) 1 := fun h => hb h (by decide +kernel)
theorem d1_92 : DC method_2_code 92 (.newarray .char) 2 := fun h => hb h (by decide +kernel)
theorem d1_94 : DC method_2_code 94 (.dup) 1 := fun h => hb h (by decide +kernel)
theorem d1_95 : DC method_2_code 95 (.iconst 0) 1 := fun h => hb h (by decide +kernel)
theorem d1_96 : DC method_2_code 96 (.iload_n 1) 1 := fun h => hb h (by decide +kernel)
theorem d1_97 : DC method_2_code 97 (.castore) 1 := fun h => hb h (by decide +kernel)
theorem d1_98 : DC method_2_code 98 (.dup) 1 := fun h => hb h (by decide +kernel)
theorem d1_99 : DC method_2_code 99 (.iconst 1) 1 := fun h => hb h (by decide +kernel)
theorem d1_100 : DC method_2_code 100 (.iload_n 2) 1 := fun h => hb h (by decide +kernel)
theorem d1_101 : DC method_2_code 101 (.castore) 1 := fun h => hb h (by decide +kernel)
theorem d1_102 : DC method_2_code 102 (.dup) 1 := fun h => hb h (by decide +kernel)
theorem d1_103 : DC method_2_code 103 (.iconst 2) 1 := fun h => hb h (by decide +kernel)
theorem d1_104 : DC method_2_code 104 (.iload_n 3) 1 := fun h => hb h (by decide +kernel)
theorem d1_105 : DC method_2_code 105 (.castore) 1 := fun h => hb h (by decide +kernel)
theorem d1_106 : DC method_2_code 106 (.dup) 1 := fun h => hb h (by decide +kernel)
theorem d1_107 : DC method_2_code 107 (.iconst 3) 1 := fun h => hb h (by decide +kernel)
theorem d1_108 : DC method_2_code 108 (.iload 4) 2 := fun h => hb h (by decide +kernel)
theorem d1_110 : DC method_2_code 110 (.castore) 1 := fun h => hb h (by decide +kernel)
theorem d1_111 : DC method_2_code 111 (.invokespecial 9) 3 := fun h => hb h (by decide +kernel)
theorem d1_114 : DC method_2_code 114 (.areturn) 1 := fun h => hb h (by decide +kernel)
theorem d6_0 : DC prog_52_method_1_code 0 (.aload_n 0) 1 := fun h => hb h (by decide +kernel)
theorem d6_1 : DC prog_52_method_1_code 1 (.invokespecial 1) 3 := fun h => hb h (by decide +kernel)
theorem d6_4 : DC prog_52_method_1_code 4 (.aload_n 0) 1 := fun h => hb h (by decide +kernel)
theorem d6_5 : DC prog_52_method_1_code 5 (.aload_n 1) 1 := fun h => hb h (by decide +kernel)
theorem d6_6 : DC prog_52_method_1_code 6 (.putfield 7) 3 := fun h => hb h (by decide +kernel)
theorem d6_9 : DC prog_52_method_1_code 9 (.aload_n 0) 1 := fun h => hb h (by decide +kernel)
theorem d6_10 : DC prog_52_method_1_code 10 (.aload_n 2) 1 := fun h => hb h (by decide +kernel)
theorem d6_11 : DC prog_52_method_1_code 11 (.putfield 13) 3 := fun h => hb h (by decide +kernel)
theorem d6_14 : DC prog_52_method_1_code 14 (.return_) 1 := fun h => hb h (by decide +kernel)
theorem d7_0 : DC prog_52_method_2_code 0 (.aload_n 0) 1 := fun h => hb h (by decide +kernel)
theorem d7_1 : DC prog_52_method_2_code 1 (.getfield 16) 3 := fun h => hb h (by decide +kernel)
theorem d7_4 : DC prog_52_method_2_code 4 (.aload_n 0) 1 := fun h => hb h (by decide +kernel)
theorem d7_5 : DC prog_52_method_2_code 5 (.getfield 7) 3 := fun h => hb h (by decide +kernel)
theorem d7_8 : DC prog_52_method_2_code 8 (.invokevirtual 20) 3 := fun h => hb h (by decide +kernel)
theorem d7_11 : DC prog_52_method_2_code 11 (.if_icmp .ge 22) 3 := fun h => hb h (by decide +kernel)
theorem d7_14 : DC prog_52_method_2_code 14 (.aload_n 0) 1 := fun h => hb h (by decide +kernel)
theorem d7_15 : DC prog_52_method_2_code 15 (.getfield 7) 3 := fun h => hb h (by decide +kernel)
theorem d7_18 : DC prog_52_method_2_code 18 (.aload_n 0) 1 := fun h => hb h (by decide +kernel)
theorem d7_19 : DC prog_52_method_2_code 19 (.getfield 16) 3 := fun h => hb h (by decide +kernel)
theorem d7_22 : DC prog_52_method_2_code 22 (.invokevirtual 26) 3 := fun h => hb h (by decide +kernel)
theorem d7_25 : DC prog_52_method_2_code 25 (.iload_n 1) 1 := fun h => hb h (by decide +kernel)
theorem d7_26 : DC prog_52_method_2_code 26 (.if_icmp .ne 7) 3 := fun h => hb h (by decide +kernel)
theorem d7_29 : DC prog_52_method_2_code 29 (.iconst 1) 1 := fun h => hb h (by decide +kernel)
theorem d7_30 : DC prog_52_method_2_code 30 (.goto 4) 3 := fun h => hb h (by decide +kernel)
theorem d7_33 : DC prog_52_method_2_code 33 (.iconst 0) 1 := fun h => hb h (by decide +kernel)
theorem d7_34 : DC prog_52_method_2_code 34 (.ireturn) 1 := fun h => hb h (by decide +kernel)
theorem pn_0 : plainName "java/lang/String" = true := by first | (simp [plainName, overriddenIn]; done) | decide +kernel
theorem pn_1 : plainName "java/lang/StringUTF16" = true := by first | (simp [plainName, overriddenIn]; done) | decide +kernel
theorem pn_2 : plainName "com/example/runnymede/runnymede/TextReaderLookingAtPinLaw" = true := by first | (simp [plainName, overriddenIn]; done) | decide +kernel
theorem pn_3 : plainName "com/example/runnymede/runnymede/TextReader" = true := by first | (simp [plainName, overriddenIn]; done) | decide +kernel
theorem pn_4 : plainName "jdk/internal/util/Preconditions" = true := by first | (simp [plainName, overriddenIn]; done) | decide +kernel
theorem pn_5 : plainName "java/lang/StringLatin1" = true := by first | (simp [plainName, overriddenIn]; done) | decide +kernel
theorem pd_0 : parseMethodDescriptor "([CIILjava/lang/Void;)V" = some ⟨[(.array .char), .int, .int, (.object "java/lang/Void")], none⟩ := by decide +kernel
theorem pd_1 : parseMethodDescriptor "([C)V" = some ⟨[(.array .char)], none⟩ := by decide +kernel
theorem pd_2 : parseMethodDescriptor "([CI[BII)I" = some ⟨[(.array .char), .int, (.array .byte), .int, .int], some .int⟩ := by decide +kernel
theorem pd_3 : parseMethodDescriptor "(I)I" = some ⟨[.int], some .int⟩ := by decide +kernel
theorem pd_4 : parseMethodDescriptor "(I)[B" = some ⟨[.int], some (.array .byte)⟩ := by decide +kernel
theorem pd_5 : parseMethodDescriptor "([BII)V" = some ⟨[(.array .byte), .int, .int], none⟩ := by decide +kernel
theorem pd_6 : parseMethodDescriptor "([CII)[B" = some ⟨[(.array .char), .int, .int], some (.array .byte)⟩ := by decide +kernel
theorem pd_7 : parseMethodDescriptor "([BI)C" = some ⟨[(.array .byte), .int], some .char⟩ := by decide +kernel
theorem pd_8 : parseMethodDescriptor "([BI)B" = some ⟨[(.array .byte), .int], some .byte⟩ := by decide +kernel
theorem pd_9 : parseMethodDescriptor "(ICCCC)Ljava/lang/String;" = some ⟨[.int, .char, .char, .char, .char], some (.object "java/lang/String")⟩ := by decide +kernel
theorem pd_10 : parseMethodDescriptor "(Ljava/lang/String;Ljava/lang/String;)V" = some ⟨[(.object "java/lang/String"), (.object "java/lang/String")], none⟩ := by decide +kernel
theorem pd_11 : parseMethodDescriptor "()B" = some ⟨[], some .byte⟩ := by decide +kernel
theorem pd_12 : parseMethodDescriptor "()I" = some ⟨[], some .int⟩ := by decide +kernel
theorem pd_13 : parseMethodDescriptor "()Z" = some ⟨[], some .boolean⟩ := by decide +kernel
theorem pd_14 : parseMethodDescriptor "(IILjava/util/function/BiFunction;)I" = some ⟨[.int, .int, (.object "java/util/function/BiFunction")], some .int⟩ := by decide +kernel
theorem pd_15 : parseMethodDescriptor "(II)V" = some ⟨[.int, .int], none⟩ := by decide +kernel
theorem pd_16 : parseMethodDescriptor "(I)C" = some ⟨[.int], some .char⟩ := by decide +kernel
theorem pd_17 : parseMethodDescriptor "(C)Z" = some ⟨[.char], some .boolean⟩ := by decide +kernel
theorem pd_18 : parseMethodDescriptor "([B)I" = some ⟨[(.array .byte)], some .int⟩ := by decide +kernel
theorem pd_19 : parseMethodDescriptor "(I[B)V" = some ⟨[.int, (.array .byte)], none⟩ := by decide +kernel
theorem wd_0 : WD (Jvm.Cond.constant kc3 (12 : Nat) (65535 : Int32)) := own_wd 0 rfl
theorem wd_1 : WD (Jvm.Cond.arrayClass Jvm.ClassFile.FieldType.char) := own_wd 1 rfl
theorem wd_2 : WD (Jvm.Cond.methodLink kc3 (13 : Nat) ({ cls := kc3, name := "make", desc := "(ICCCC)Ljava/lang/String;" } : Jvm.MethodName)) := own_wd 2 rfl
theorem wd_3 : WD (Jvm.Cond.static ({ cls := kc3, name := "make", desc := "(ICCCC)Ljava/lang/String;" } : Jvm.MethodName)) := own_wd 3 rfl
theorem wd_4 : WD (Jvm.Cond.initialized kc3) := own_wd 4 rfl
theorem wd_5 : WD (Jvm.Cond.code ({ cls := kc3, name := "make", desc := "(ICCCC)Ljava/lang/String;" } : Jvm.MethodName) method_2_code (5 : Nat) (Option.some (Jvm.ClassFile.FieldType.object kc0))) := own_wd 5 rfl
theorem wd_6 : WD (Jvm.Cond.classLink kc3 (7 : Nat) kc0) := own_wd 6 rfl
theorem wd_7 : WD (Jvm.Cond.instantiable kc0 (4 : Nat)) := own_wd 7 rfl
theorem wd_8 : WD (Jvm.Cond.initialized kc0) := own_wd 8 rfl
theorem wd_9 : WD (Jvm.Cond.methodLink kc3 (9 : Nat) ({ cls := kc0, name := "<init>", desc := "([C)V" } : Jvm.MethodName)) := own_wd 9 rfl
theorem wd_10 : WD (Jvm.Cond.instanceMethod ({ cls := kc0, name := "<init>", desc := "([C)V" } : Jvm.MethodName)) := own_wd 10 rfl
theorem wd_11 : WD (Jvm.Cond.code ({ cls := kc0, name := "<init>", desc := "([C)V" } : Jvm.MethodName) jdk_42_method_3_code (2 : Nat) (Option.none : Option Jvm.ClassFile.FieldType)) := own_wd 11 rfl
theorem wd_12 : WD (Jvm.Cond.methodLink kc0 (27 : Nat) ({ cls := kc0, name := "<init>", desc := "([CIILjava/lang/Void;)V" } : Jvm.MethodName)) := own_wd 12 rfl
theorem wd_13 : WD (Jvm.Cond.instanceMethod ({ cls := kc0, name := "<init>", desc := "([CIILjava/lang/Void;)V" } : Jvm.MethodName)) := own_wd 13 rfl
theorem wd_15 : WD (Jvm.Cond.code ({ cls := kc0, name := "<init>", desc := "([CIILjava/lang/Void;)V" } : Jvm.MethodName) jdk_42_method_149_code (6 : Nat) (Option.none : Option Jvm.ClassFile.FieldType)) := own_wd 15 rfl
theorem wd_16 : WD (Jvm.Cond.methodLink kc0 (1 : Nat) ({ cls := "java/lang/Object", name := "<init>", desc := "()V" } : Jvm.MethodName)) := own_wd 16 rfl
theorem wd_17 : WD (Jvm.Cond.instanceMethod ({ cls := "java/lang/Object", name := "<init>", desc := "()V" } : Jvm.MethodName)) := own_wd 17 rfl
theorem wd_18 : WD (Jvm.Cond.code ({ cls := "java/lang/Object", name := "<init>", desc := "()V" } : Jvm.MethodName) object_method_1_code (1 : Nat) (Option.none : Option Jvm.ClassFile.FieldType)) := own_wd 18 rfl
theorem wd_19 : WD (Jvm.Cond.stringLink kc0 (7 : Nat) "") := own_wd 19 rfl
theorem wd_20 : WD (Jvm.Cond.arrayClass Jvm.ClassFile.FieldType.byte) := own_wd 20 rfl
theorem wd_21 : WD (Jvm.Cond.laysFinal kc0 kc0 "value" "[B") := own_wd 21 rfl
theorem wd_22 : WD (Jvm.Cond.laysFinal kc0 kc0 "coder" "B") := own_wd 22 rfl
theorem wd_25 : WD (Jvm.Cond.fieldLink kc0 (9 : Nat) kc0 "value" "[B") := own_wd 25 rfl
theorem wd_26 : WD (Jvm.Cond.fieldLink kc0 (15 : Nat) kc0 "coder" "B") := own_wd 26 rfl
theorem wd_27 : WD (Jvm.Cond.classLink kc3 (14 : Nat) kc3) := own_wd 27 rfl
theorem wd_28 : WD (Jvm.Cond.instantiable kc3 (3 : Nat)) := own_wd 28 rfl
theorem wd_29 : WD (Jvm.Cond.stringLink kc3 (19 : Nat) "x") := own_wd 29 rfl
theorem wd_30 : WD (Jvm.Cond.methodLink kc3 (21 : Nat) ({ cls := kc3, name := "<init>", desc := "(Ljava/lang/String;Ljava/lang/String;)V" } : Jvm.MethodName)) := own_wd 30 rfl
theorem wd_31 : WD (Jvm.Cond.instanceMethod ({ cls := kc3, name := "<init>", desc := "(Ljava/lang/String;Ljava/lang/String;)V" } : Jvm.MethodName)) := own_wd 31 rfl
theorem wd_32 : WD (Jvm.Cond.code ({ cls := kc3, name := "<init>", desc := "(Ljava/lang/String;Ljava/lang/String;)V" } : Jvm.MethodName) method_1_code (3 : Nat) (Option.none : Option Jvm.ClassFile.FieldType)) := own_wd 32 rfl
theorem wd_33 : WD (Jvm.Cond.methodLink kc3 (1 : Nat) ({ cls := kc2, name := "<init>", desc := "(Ljava/lang/String;Ljava/lang/String;)V" } : Jvm.MethodName)) := own_wd 33 rfl
theorem wd_34 : WD (Jvm.Cond.instanceMethod ({ cls := kc2, name := "<init>", desc := "(Ljava/lang/String;Ljava/lang/String;)V" } : Jvm.MethodName)) := own_wd 34 rfl
theorem wd_36 : WD (Jvm.Cond.initialized kc2) := own_wd 36 rfl
theorem wd_37 : WD (Jvm.Cond.code ({ cls := kc2, name := "<init>", desc := "(Ljava/lang/String;Ljava/lang/String;)V" } : Jvm.MethodName) prog_52_method_1_code (3 : Nat) (Option.none : Option Jvm.ClassFile.FieldType)) := own_wd 37 rfl
theorem wd_38 : WD (Jvm.Cond.methodLink kc2 (1 : Nat) ({ cls := "java/lang/Object", name := "<init>", desc := "()V" } : Jvm.MethodName)) := own_wd 38 rfl
theorem wd_39 : WD (Jvm.Cond.fieldLink kc2 (7 : Nat) kc2 "text" "Ljava/lang/String;") := own_wd 39 rfl
theorem wd_40 : WD (Jvm.Cond.laysFinal kc3 kc2 "text" "Ljava/lang/String;") := own_wd 40 rfl
theorem wd_41 : WD (Jvm.Cond.fieldLink kc2 (13 : Nat) kc2 "refusal" "Ljava/lang/String;") := own_wd 41 rfl
theorem wd_42 : WD (Jvm.Cond.laysFinal kc3 kc2 "refusal" "Ljava/lang/String;") := own_wd 42 rfl
theorem wd_43 : WD (Jvm.Cond.fieldLink kc3 (22 : Nat) kc3 "position" "I") := own_wd 43 rfl
theorem wd_44 : WD (Jvm.Cond.sameField kc3 kc2 "position" "I") := own_wd 44 rfl
theorem wd_45 : WD (Jvm.Cond.lays kc3 kc2 "position" "I") := own_wd 45 rfl
theorem wd_46 : WD (Jvm.Cond.methodLink kc3 (26 : Nat) ({ cls := kc3, name := "lookingAt", desc := "(C)Z" } : Jvm.MethodName)) := own_wd 46 rfl
theorem wd_47 : WD (Jvm.Cond.sameMethod kc3 kc2 "lookingAt" "(C)Z") := own_wd 47 rfl
theorem wd_48 : WD (Jvm.Cond.declares ({ cls := kc2, name := "lookingAt", desc := "(C)Z" } : Jvm.MethodName)) := own_wd 48 rfl
theorem wd_49 : WD (Jvm.Cond.instanceMethod ({ cls := kc2, name := "lookingAt", desc := "(C)Z" } : Jvm.MethodName)) := own_wd 49 rfl
theorem wd_50 : WD (Jvm.Cond.selects kc3 ({ cls := kc3, name := "lookingAt", desc := "(C)Z" } : Jvm.MethodName) ({ cls := kc2, name := "lookingAt", desc := "(C)Z" } : Jvm.MethodName)) := own_wd 50 rfl
theorem wd_51 : WD (Jvm.Cond.code ({ cls := kc2, name := "lookingAt", desc := "(C)Z" } : Jvm.MethodName) prog_52_method_2_code (2 : Nat) (Option.some Jvm.ClassFile.FieldType.boolean)) := own_wd 51 rfl
theorem wd_52 : WD (Jvm.Cond.fieldLink kc2 (16 : Nat) kc2 "position" "I") := own_wd 52 rfl
theorem wd_53 : WD (Jvm.Cond.methodLink kc2 (20 : Nat) ({ cls := kc0, name := "length", desc := "()I" } : Jvm.MethodName)) := own_wd 53 rfl
theorem wd_54 : WD (Jvm.Cond.declares ({ cls := kc0, name := "length", desc := "()I" } : Jvm.MethodName)) := own_wd 54 rfl
theorem wd_55 : WD (Jvm.Cond.instanceMethod ({ cls := kc0, name := "length", desc := "()I" } : Jvm.MethodName)) := own_wd 55 rfl
theorem wd_56 : WD (Jvm.Cond.selects kc0 ({ cls := kc0, name := "length", desc := "()I" } : Jvm.MethodName) ({ cls := kc0, name := "length", desc := "()I" } : Jvm.MethodName)) := own_wd 56 rfl
theorem wd_57 : WD (Jvm.Cond.code ({ cls := kc0, name := "length", desc := "()I" } : Jvm.MethodName) jdk_42_method_54_code (1 : Nat) (Option.some Jvm.ClassFile.FieldType.int)) := own_wd 57 rfl
theorem wd_58 : WD (Jvm.Cond.methodLink kc0 (335 : Nat) ({ cls := kc0, name := "coder", desc := "()B" } : Jvm.MethodName)) := own_wd 58 rfl
theorem wd_59 : WD (Jvm.Cond.declares ({ cls := kc0, name := "coder", desc := "()B" } : Jvm.MethodName)) := own_wd 59 rfl
theorem wd_60 : WD (Jvm.Cond.instanceMethod ({ cls := kc0, name := "coder", desc := "()B" } : Jvm.MethodName)) := own_wd 60 rfl
theorem wd_61 : WD (Jvm.Cond.selects kc0 ({ cls := kc0, name := "coder", desc := "()B" } : Jvm.MethodName) ({ cls := kc0, name := "coder", desc := "()B" } : Jvm.MethodName)) := own_wd 61 rfl
theorem wd_62 : WD (Jvm.Cond.code ({ cls := kc0, name := "coder", desc := "()B" } : Jvm.MethodName) jdk_42_method_152_code (1 : Nat) (Option.some Jvm.ClassFile.FieldType.byte)) := own_wd 62 rfl
theorem wd_63 : WD (Jvm.Cond.fieldLink kc0 (38 : Nat) kc0 "COMPACT_STRINGS" "Z") := own_wd 63 rfl
theorem wd_64 : WD (Jvm.Cond.fieldLink kc3 (30 : Nat) kc3 "text" "Ljava/lang/String;") := own_wd 64 rfl
theorem wd_65 : WD (Jvm.Cond.sameField kc3 kc2 "text" "Ljava/lang/String;") := own_wd 65 rfl
theorem wd_66 : WD (Jvm.Cond.methodLink kc0 (177 : Nat) ({ cls := kc1, name := "compress", desc := "([CII)[B" } : Jvm.MethodName)) := own_wd 66 rfl
theorem wd_67 : WD (Jvm.Cond.static ({ cls := kc1, name := "compress", desc := "([CII)[B" } : Jvm.MethodName)) := own_wd 67 rfl
theorem wd_68 : WD (Jvm.Cond.initialized kc1) := own_wd 68 rfl
theorem wd_69 : WD (Jvm.Cond.code ({ cls := kc1, name := "compress", desc := "([CII)[B" } : Jvm.MethodName) jdk_52_method_16_code (6 : Nat) (Option.some (Jvm.ClassFile.FieldType.array Jvm.ClassFile.FieldType.byte))) := own_wd 69 rfl
theorem wd_70 : WD (Jvm.Cond.methodLink kc1 (115 : Nat) ({ cls := kc1, name := "compress", desc := "([CI[BII)I" } : Jvm.MethodName)) := own_wd 70 rfl
theorem wd_71 : WD (Jvm.Cond.static ({ cls := kc1, name := "compress", desc := "([CI[BII)I" } : Jvm.MethodName)) := own_wd 71 rfl
theorem wd_72 : WD (Jvm.Cond.code ({ cls := kc1, name := "compress", desc := "([CI[BII)I" } : Jvm.MethodName) jdk_52_method_21_code (7 : Nat) (Option.some Jvm.ClassFile.FieldType.int)) := own_wd 72 rfl
theorem wd_73 : WD (Jvm.Cond.methodLink kc0 (47 : Nat) ({ cls := kc1, name := "coderFromArrayLen", desc := "([BI)B" } : Jvm.MethodName)) := own_wd 73 rfl
theorem wd_74 : WD (Jvm.Cond.static ({ cls := kc1, name := "coderFromArrayLen", desc := "([BI)B" } : Jvm.MethodName)) := own_wd 74 rfl
theorem wd_75 : WD (Jvm.Cond.code ({ cls := kc1, name := "coderFromArrayLen", desc := "([BI)B" } : Jvm.MethodName) jdk_52_method_15_code (2 : Nat) (Option.some Jvm.ClassFile.FieldType.byte)) := own_wd 75 rfl
theorem wd_76 : WD (Jvm.Cond.methodLink kc2 (26 : Nat) ({ cls := kc0, name := "charAt", desc := "(I)C" } : Jvm.MethodName)) := own_wd 76 rfl
theorem wd_77 : WD (Jvm.Cond.declares ({ cls := kc0, name := "charAt", desc := "(I)C" } : Jvm.MethodName)) := own_wd 77 rfl
theorem wd_78 : WD (Jvm.Cond.instanceMethod ({ cls := kc0, name := "charAt", desc := "(I)C" } : Jvm.MethodName)) := own_wd 78 rfl
theorem wd_79 : WD (Jvm.Cond.selects kc0 ({ cls := kc0, name := "charAt", desc := "(I)C" } : Jvm.MethodName) ({ cls := kc0, name := "charAt", desc := "(I)C" } : Jvm.MethodName)) := own_wd 79 rfl
theorem wd_80 : WD (Jvm.Cond.code ({ cls := kc0, name := "charAt", desc := "(I)C" } : Jvm.MethodName) jdk_42_method_56_code (2 : Nat) (Option.some Jvm.ClassFile.FieldType.char)) := own_wd 80 rfl
theorem wd_81 : WD (Jvm.Cond.methodLink kc0 (492 : Nat) ({ cls := kc0, name := "isLatin1", desc := "()Z" } : Jvm.MethodName)) := own_wd 81 rfl
theorem wd_82 : WD (Jvm.Cond.declares ({ cls := kc0, name := "isLatin1", desc := "()Z" } : Jvm.MethodName)) := own_wd 82 rfl
theorem wd_83 : WD (Jvm.Cond.instanceMethod ({ cls := kc0, name := "isLatin1", desc := "()Z" } : Jvm.MethodName)) := own_wd 83 rfl
theorem wd_84 : WD (Jvm.Cond.selects kc0 ({ cls := kc0, name := "isLatin1", desc := "()Z" } : Jvm.MethodName) ({ cls := kc0, name := "isLatin1", desc := "()Z" } : Jvm.MethodName)) := own_wd 84 rfl
theorem wd_85 : WD (Jvm.Cond.code ({ cls := kc0, name := "isLatin1", desc := "()Z" } : Jvm.MethodName) jdk_42_method_154_code (1 : Nat) (Option.some Jvm.ClassFile.FieldType.boolean)) := own_wd 85 rfl
theorem wd_86 : WD (Jvm.Cond.methodLink kc0 (495 : Nat) ({ cls := "java/lang/StringLatin1", name := "charAt", desc := "([BI)C" } : Jvm.MethodName)) := own_wd 86 rfl
theorem wd_87 : WD (Jvm.Cond.static ({ cls := "java/lang/StringLatin1", name := "charAt", desc := "([BI)C" } : Jvm.MethodName)) := own_wd 87 rfl
theorem wd_88 : WD (Jvm.Cond.initialized "java/lang/StringLatin1") := own_wd 88 rfl
theorem wd_89 : WD (Jvm.Cond.code ({ cls := "java/lang/StringLatin1", name := "charAt", desc := "([BI)C" } : Jvm.MethodName) jdk_43_method_2_code (2 : Nat) (Option.some Jvm.ClassFile.FieldType.char)) := own_wd 89 rfl
theorem wd_90 : WD (Jvm.Cond.methodLink "java/lang/StringLatin1" (9 : Nat) ({ cls := kc0, name := "checkIndex", desc := "(II)V" } : Jvm.MethodName)) := own_wd 90 rfl
theorem wd_91 : WD (Jvm.Cond.static ({ cls := kc0, name := "checkIndex", desc := "(II)V" } : Jvm.MethodName)) := own_wd 91 rfl
theorem wd_92 : WD (Jvm.Cond.code ({ cls := kc0, name := "checkIndex", desc := "(II)V" } : Jvm.MethodName) jdk_42_method_155_code (2 : Nat) (Option.none : Option Jvm.ClassFile.FieldType)) := own_wd 92 rfl
theorem wd_93 : WD (Jvm.Cond.fieldLink kc0 (1053 : Nat) "jdk/internal/util/Preconditions" "SIOOBE_FORMATTER" "Ljava/util/function/BiFunction;") := own_wd 93 rfl
theorem wd_94 : WD (Jvm.Cond.initialized "jdk/internal/util/Preconditions") := own_wd 94 rfl
theorem wd_95 : WD (Jvm.Cond.methodLink kc0 (1059 : Nat) ({ cls := "jdk/internal/util/Preconditions", name := "checkIndex", desc := "(IILjava/util/function/BiFunction;)I" } : Jvm.MethodName)) := own_wd 95 rfl
theorem wd_96 : WD (Jvm.Cond.static ({ cls := "jdk/internal/util/Preconditions", name := "checkIndex", desc := "(IILjava/util/function/BiFunction;)I" } : Jvm.MethodName)) := own_wd 96 rfl
theorem wd_97 : WD (Jvm.Cond.code ({ cls := "jdk/internal/util/Preconditions", name := "checkIndex", desc := "(IILjava/util/function/BiFunction;)I" } : Jvm.MethodName) jdk_41_method_11_code (3 : Nat) (Option.some Jvm.ClassFile.FieldType.int)) := own_wd 97 rfl
theorem wd_98 : WD (Jvm.Cond.methodLink kc1 (119 : Nat) ({ cls := kc1, name := "toBytes", desc := "([CII)[B" } : Jvm.MethodName)) := own_wd 98 rfl
theorem wd_99 : WD (Jvm.Cond.static ({ cls := kc1, name := "toBytes", desc := "([CII)[B" } : Jvm.MethodName)) := own_wd 99 rfl
theorem wd_100 : WD (Jvm.Cond.code ({ cls := kc1, name := "toBytes", desc := "([CII)[B" } : Jvm.MethodName) jdk_52_method_14_code (5 : Nat) (Option.some (Jvm.ClassFile.FieldType.array Jvm.ClassFile.FieldType.byte))) := own_wd 100 rfl
theorem wd_101 : WD (Jvm.Cond.methodLink kc1 (107 : Nat) ({ cls := kc1, name := "newBytesFor", desc := "(I)[B" } : Jvm.MethodName)) := own_wd 101 rfl
theorem wd_102 : WD (Jvm.Cond.static ({ cls := kc1, name := "newBytesFor", desc := "(I)[B" } : Jvm.MethodName)) := own_wd 102 rfl
theorem wd_103 : WD (Jvm.Cond.code ({ cls := kc1, name := "newBytesFor", desc := "(I)[B" } : Jvm.MethodName) jdk_52_method_2_code (1 : Nat) (Option.some (Jvm.ClassFile.FieldType.array Jvm.ClassFile.FieldType.byte))) := own_wd 103 rfl
theorem wd_104 : WD (Jvm.Cond.methodLink kc1 (11 : Nat) ({ cls := kc1, name := "newBytesLength", desc := "(I)I" } : Jvm.MethodName)) := own_wd 104 rfl
theorem wd_105 : WD (Jvm.Cond.static ({ cls := kc1, name := "newBytesLength", desc := "(I)I" } : Jvm.MethodName)) := own_wd 105 rfl
theorem wd_106 : WD (Jvm.Cond.code ({ cls := kc1, name := "newBytesLength", desc := "(I)I" } : Jvm.MethodName) jdk_52_method_3_code (1 : Nat) (Option.some Jvm.ClassFile.FieldType.int)) := own_wd 106 rfl
theorem wd_107 : WD (Jvm.Cond.constant kc1 (20 : Nat) (1073741823 : Int32)) := own_wd 107 rfl
theorem wd_108 : WD (Jvm.Cond.methodLink kc1 (111 : Nat) ({ cls := kc1, name := "putChar", desc := "([BII)V" } : Jvm.MethodName)) := own_wd 108 rfl
theorem wd_109 : WD (Jvm.Cond.static ({ cls := kc1, name := "putChar", desc := "([BII)V" } : Jvm.MethodName)) := own_wd 109 rfl
theorem wd_110 : WD (Jvm.Cond.code ({ cls := kc1, name := "putChar", desc := "([BII)V" } : Jvm.MethodName) jdk_52_method_4_code (3 : Nat) (Option.none : Option Jvm.ClassFile.FieldType)) := own_wd 110 rfl
theorem wd_111 : WD (Jvm.Cond.fieldLink kc1 (44 : Nat) kc1 "$assertionsDisabled" "Z") := own_wd 111 rfl
theorem wd_112 : WD (Jvm.Cond.fieldLink kc1 (59 : Nat) kc1 "HI_BYTE_SHIFT" "I") := own_wd 112 rfl
theorem wd_113 : WD (Jvm.Cond.fieldLink kc1 (63 : Nat) kc1 "LO_BYTE_SHIFT" "I") := own_wd 113 rfl
theorem wd_114 : WD (Jvm.Cond.methodLink kc1 (71 : Nat) ({ cls := kc1, name := "getChar", desc := "([BI)C" } : Jvm.MethodName)) := own_wd 114 rfl
theorem wd_115 : WD (Jvm.Cond.static ({ cls := kc1, name := "getChar", desc := "([BI)C" } : Jvm.MethodName)) := own_wd 115 rfl
theorem wd_116 : WD (Jvm.Cond.code ({ cls := kc1, name := "getChar", desc := "([BI)C" } : Jvm.MethodName) jdk_52_method_5_code (2 : Nat) (Option.some Jvm.ClassFile.FieldType.char)) := own_wd 116 rfl
theorem wd_117 : WD (Jvm.Cond.methodLink kc0 (498 : Nat) ({ cls := kc1, name := "charAt", desc := "([BI)C" } : Jvm.MethodName)) := own_wd 117 rfl
theorem wd_118 : WD (Jvm.Cond.static ({ cls := kc1, name := "charAt", desc := "([BI)C" } : Jvm.MethodName)) := own_wd 118 rfl
theorem wd_119 : WD (Jvm.Cond.code ({ cls := kc1, name := "charAt", desc := "([BI)C" } : Jvm.MethodName) jdk_52_method_83_code (2 : Nat) (Option.some Jvm.ClassFile.FieldType.char)) := own_wd 119 rfl
theorem wd_120 : WD (Jvm.Cond.methodLink kc1 (67 : Nat) ({ cls := kc1, name := "checkIndex", desc := "(I[B)V" } : Jvm.MethodName)) := own_wd 120 rfl
theorem wd_121 : WD (Jvm.Cond.static ({ cls := kc1, name := "checkIndex", desc := "(I[B)V" } : Jvm.MethodName)) := own_wd 121 rfl
theorem wd_122 : WD (Jvm.Cond.code ({ cls := kc1, name := "checkIndex", desc := "(I[B)V" } : Jvm.MethodName) jdk_52_method_91_code (2 : Nat) (Option.none : Option Jvm.ClassFile.FieldType)) := own_wd 122 rfl
theorem wd_123 : WD (Jvm.Cond.methodLink kc1 (48 : Nat) ({ cls := kc1, name := "length", desc := "([B)I" } : Jvm.MethodName)) := own_wd 123 rfl
theorem wd_124 : WD (Jvm.Cond.static ({ cls := kc1, name := "length", desc := "([B)I" } : Jvm.MethodName)) := own_wd 124 rfl
theorem wd_125 : WD (Jvm.Cond.code ({ cls := kc1, name := "length", desc := "([B)I" } : Jvm.MethodName) jdk_52_method_6_code (1 : Nat) (Option.some Jvm.ClassFile.FieldType.int)) := own_wd 125 rfl
theorem wd_126 : WD (Jvm.Cond.methodLink kc1 (414 : Nat) ({ cls := kc0, name := "checkIndex", desc := "(II)V" } : Jvm.MethodName)) := own_wd 126 rfl
theorem own_EW {Z : State} {a0 : Array Value} (hw : ∀ d ∈ tables_1, d.before a0 Z = true) : EW Z a0 EL := (EW.cons (wd_29 hw) (by decide +kernel) (EW.cons (wd_19 hw) (by decide +kernel) EW.nil))
theorem own_wS {Z : State} {a0 : Array Value} (hw : ∀ d ∈ tables_1, d.before a0 Z = true) : ∀ d ∈ Bundle.stringAtoms, d.before a0 Z = true := fun d hd => hw d ((by decide +kernel : ∀ d ∈ Bundle.stringAtoms, d ∈ tables_1) d hd)
theorem ef_m3_6 (m : MethodId) (a0 : Addr) (a1 : Addr)  : entryFrame m #[(.ref a0), (.ref a1), (.int (0 : Int32)), (.int (0 : Int32)), .null] 6 = mkF m 0 #[.val (.ref a0), .val (.ref a1), .val (.int (0 : Int32)), .val (.int (0 : Int32)), .val .null, .unset] [] := by first | (simp [entryFrame, mkF, argsToLocals, Value.category]; done) | rfl
def Q_m3_6 (Z : State) (a0 : Addr) (a1 : Addr) (h0 : Heap) (n0 : Nat) (v : Option Value) (h : Heap) (L : List Loc) (S : Addr → Prop) : Prop := ∃ (r0 : Addr) (c0 : ClassId), v = none ∧ Fr n0 L ∧ Keep h0 h [a0] ∧ Arv Z h r0 c0 .byte (0 : Int32) [] (.int (0 : Int32)) ∧ Exa Z h a0 kc0 ∧ Fld Z h a0 kc0 "value" "[B" (.ref r0) ∧ Fld Z h a0 kc0 "coder" "B" (.int (0 : Int32))
theorem rm_m3_6 (l : Launch) (Z : State) (aZ : Array Value) (hw : ∀ d ∈ tables_1, d.before aZ Z = true) (ws : List Jvm.Cond) (a0 : Addr) (a1 : Addr) (h0 : Heap) (n0 : Nat) (Z0 : n0 ≤ h0.size) (E_a0 : Exa Z h0 a0 kc0) (zz0 : Fld Z h0 a0 kc0 "value" "[B" .null) (zz1 : n0 ≤ a0) (zz2 : Fld Z h0 a0 kc0 "coder" "B" (.int (0 : Int32))) :
    MetH l Z EL yn_3 jdk_42_method_149_code 6 none ws ({ frames := 1, cells := 4, slots := 8, locals := 12 } : Room) #[(.ref a0), (.ref a1), (.int (0 : Int32)), (.int (0 : Int32)), .null] h0 (Q_m3_6 Z a0 a1 h0 n0) [a0] := by
 refine MetH.of (plainFor_of_name pn_0) ?_
 intro p e s m below meth c s₁ hret hx hby hml hown hnm hlk hZ X0 e0 hh hH hsf hS0 C0
 have N0 := Fr.nil n0
 rw [ef_m3_6 m a0 a1]
 refine w_aloadN X0 hx (d3_0 hby) rfl rfl (pc' := 1) rfl ?_
 refine w_initO X0 hx 0 hZ hown (wd_16 hw) (wd_17 hw) (wd_18 hw) e0 (by rw [hml]; rfl) (d3_1 hby) (by decide) (Nat.le_of_eq rfl) (by decide) (pc' := 4) rfl ?_
 intro T20 X20 e20
 refine w_iloadN X20 hx (d3_4 hby) rfl (pc' := 5) rfl ?_
 refine w_ifN X20 hx (d3_5 hby) (teq (by decide : (0 : Int32) = (0 : Int32))).2 (pc' := 8) rfl ?_
 refine w_aloadN X20 hx (d3_8 hby) rfl rfl (pc' := 9) rfl ?_
 obtain ⟨a21, T21, h21, k21, b21, c21, X21, e21, E21, hS21, hk21, hZ21, hown21, gE21, gC21, gV21, gA21, lt21, ltb21, A21, -, ns21, st21⟩ := ldcCH X20 hx hZ hown (wd_19 hw) (own_wS hw) e20 hS0 (Nat.le_refl _) (own_EW hw) (by simp [EL, x]) C0.1 (vs := []) (z := (0 : Int32)) (by decide +kernel) (by decide) (by decide) (g := (mkF m 9 #[.val (.ref a0), .val (.ref a1), .val (.int (0 : Int32)), .val (.int (0 : Int32)), .val .null, .unset] [(.ref a0)])) rfl (d3_9 hby) (n := 0) (by decide +kernel) (by decide) (by decide) (by decide)
 refine Runs.by ?_ st21
 have C22 : CHr Z EL s.vm h0 T21.vm h21 := C0.trans A21
 have K23 : Keep h0 h21 [a0] := (Keep.refl h0 [a0]).ext E21
 show Runs _ _ _ _ (T21.setTop (mkF m 11 #[.val (.ref a0), .val (.ref a1), .val (.int (0 : Int32)), .val (.int (0 : Int32)), .val .null, .unset] [(.ref a21), (.ref a0)]))
 refine w_getF X21 hx "" hZ21 hown21 (Or.inl (wd_25 hw)) Via.refl e21 gV21 (d3_11 hby) (pc' := 14) rfl ?_
 intro T24 X24 e24
 have f25 : Exa Z h21 a0 kc0 := (E_a0.ext E21)
 have f26 : Fld Z h21 a0 kc0 "value" "[B" .null := (zz0.ext E21)
 refine w_putF X24 hx "" hZ21 hown21 (Or.inl (wd_25 hw)) Via.refl e24 f26 f25 (Or.inr ⟨(wd_21 hw), rfl, hnm⟩) (wd_7 hw) (ty := (.array .byte)) (by decide) rfl rfl (d3_14 hby) (pc' := 17) rfl ?_
 intro T27 h27 X27 e27 W27
 have y28 : Safe Z EL T21.vm h21 a0 := (CHr.safe A21 (Nat.lt_of_lt_of_le E_a0.lt (Nat.le_refl _)) (hsf a0 (by simp)))
 have C29 : CHr Z EL s.vm h0 T21.vm h27 := C22.trans (CHr.wr W27 y28 C22.1)
 have f30 : Fld Z h27 a0 kc0 "value" "[B" (.ref b21) := f26.same W27
 have K31 : Keep h0 h27 [a0] := K23.wr W27 (Or.inl (by simp))
 have N32 := Fr.snoc X27 N0 zz1
 refine w_aloadN X27 hx (d3_17 hby) rfl rfl (pc' := 18) rfl ?_
 obtain ⟨a33, T33, h33, k33, b33, c33, X33, e33, E33, hS33, hk33, hZ33, hown33, gE33, gC33, gV33, gA33, lt33, ltb33, A33, -, ns33, st33⟩ := ldcCH X27 hx hZ21 hown21 (wd_19 hw) (own_wS hw) e27 hS21 (Nat.le_trans hk21 (Keep.of_wr W27).1) (own_EW hw) (by simp [EL, x]) C29.1 (vs := []) (z := (0 : Int32)) (by decide +kernel) (by decide) (by decide) (g := (mkF m 18 #[.val (.ref a0), .val (.ref a1), .val (.int (0 : Int32)), .val (.int (0 : Int32)), .val .null, .unset] [(.ref a0)])) rfl (d3_18 hby) (n := 0) (by decide +kernel) (by decide) (by decide) (by decide)
 refine Runs.by ?_ st33
 have C34 : CHr Z EL s.vm h0 T33.vm h33 := C29.trans A33
 have K35 : Keep h0 h33 [a0] := K31.ext E33
 show Runs _ _ _ _ (T33.setTop (mkF m 20 #[.val (.ref a0), .val (.ref a1), .val (.int (0 : Int32)), .val (.int (0 : Int32)), .val .null, .unset] [(.ref a33), (.ref a0)]))
 refine w_getF X33 hx "" hZ33 hown33 (Or.inl (wd_26 hw)) Via.refl e33 gC33 (d3_20 hby) (pc' := 23) rfl ?_
 intro T36 X36 e36
 have f37 : Exa Z h33 a0 kc0 := ((f25.wr W27).ext E33)
 have f38 : Fld Z h33 a0 kc0 "coder" "B" (.int (0 : Int32)) := (((zz2.ext E21).other W27 (Or.inr (slot_ne (Or.inr (wd_22 hw)) (Or.inr (wd_21 hw)) (by decide) (t := .byte) (t' := (.array .byte)) (by decide) (by decide)))).ext E33)
 refine w_putF X36 hx "" hZ33 hown33 (Or.inl (wd_26 hw)) Via.refl e36 f38 f37 (Or.inr ⟨(wd_22 hw), rfl, hnm⟩) (wd_7 hw) (ty := .byte) (by decide) rfl rfl (d3_23 hby) (pc' := 26) rfl ?_
 intro T39 h39 X39 e39 W39
 have le40 : h0.size ≤ h27.size := (Nat.le_trans E21.1 (Keep.of_wr W27).1)
 have y41 : Safe Z EL T33.vm h33 a0 := (CHr.safe A33 (Nat.lt_of_lt_of_le E_a0.lt le40) (Safe.wr W27 y28 C22.1 y28))
 have C42 : CHr Z EL s.vm h0 T33.vm h39 := C34.trans (CHr.wr W39 y41 C34.1)
 have f43 : Fld Z h39 a0 kc0 "coder" "B" (.int (0 : Int32)) := f38.same W39
 have K44 : Keep h0 h39 [a0] := K35.wr W39 (Or.inl (by simp))
 have N45 := Fr.snoc X39 N32 zz1
 have ne46 : a0 ≠ b21 := (ns21 a0 (CHr.safe A21 (Nat.lt_of_lt_of_le E_a0.lt (Nat.le_refl _)) (hsf a0 (by simp)))).2
 have f47 : Arv Z h39 b21 c21 .byte (0 : Int32) [] (.int (0 : Int32)) := (((gA21.other W27 (Ne.symm ne46)).ext E33).other W39 (Ne.symm ne46))
 have f48 : Exa Z h39 a0 kc0 := (f37.wr W39)
 have f49 : Fld Z h39 a0 kc0 "value" "[B" (.ref b21) := ((f30.ext E33).other W39 (Or.inr (slot_ne (Or.inr (wd_21 hw)) (Or.inr (wd_22 hw)) (by decide) (t := (.array .byte)) (t' := .byte) (by decide) (by decide))))
 exact w_doneH X39 hlk (v := none) e39 hh hZ33 (own_EW hw) hS33 (Nat.le_trans hk33 (Keep.of_wr W39).1) C42 (fun _ => rfl) (fun fs hr => X39.returnOut hx hret (d3_26 hby) hr) (by decide) (by decide) (fun hsy => ⟨b21, c21, rfl, N45, K44, f47, f48, f49, f43⟩)
theorem ef_m2_5 (m : MethodId) (a0 : Addr) (a1 : Addr)  : entryFrame m #[(.ref a0), (.ref a1)] 2 = mkF m 0 #[.val (.ref a0), .val (.ref a1)] [] := by first | (simp [entryFrame, mkF, argsToLocals, Value.category]; done) | rfl
def Q_m2_5 (Z : State) (a0 : Addr) (a1 : Addr) (k_a1 : ClassId) (h0 : Heap) (n0 : Nat) (v : Option Value) (h : Heap) (L : List Loc) (S : Addr → Prop) : Prop := ∃ (r0 : Addr) (c0 : ClassId), v = none ∧ Fr n0 L ∧ Keep h0 h [a0] ∧ Arv Z h r0 c0 .byte (0 : Int32) [] (.int (0 : Int32)) ∧ Exa Z h a0 kc0 ∧ Fld Z h a0 kc0 "value" "[B" (.ref r0) ∧ Fld Z h a0 kc0 "coder" "B" (.int (0 : Int32))
theorem rm_m2_5 (l : Launch) (Z : State) (aZ : Array Value) (hw : ∀ d ∈ tables_1, d.before aZ Z = true) (ws : List Jvm.Cond) (a0 : Addr) (a1 : Addr) (k_a1 : ClassId) (h0 : Heap) (n0 : Nat) (Z0 : n0 ≤ h0.size) (V_a1 : Arv Z h0 a1 k_a1 .char (0 : Int32) [] (.int (0 : Int32))) (E_a0 : Exa Z h0 a0 kc0) (zz0 : Fld Z h0 a0 kc0 "value" "[B" .null) (zz1 : Fld Z h0 a0 kc0 "coder" "B" (.int (0 : Int32))) (zz2 : n0 ≤ a0) :
    MetH l Z EL yn_2 jdk_42_method_3_code 2 none ws ({ frames := 2, cells := 4, slots := 8, locals := 29 } : Room) #[(.ref a0), (.ref a1)] h0 (Q_m2_5 Z a0 a1 k_a1 h0 n0) [a0] := by
 refine MetH.of (plainFor_of_name pn_0) ?_
 intro p e s m below meth c s₁ hret hx hby hml hown hnm hlk hZ X0 e0 hh hH hsf hS0 C0
 have N0 := Fr.nil n0
 rw [ef_m2_5 m a0 a1]
 refine w_aloadN X0 hx (d2_0 hby) rfl rfl (pc' := 1) rfl ?_
 refine w_aloadN X0 hx (d2_1 hby) rfl rfl (pc' := 2) rfl ?_
 refine w_iconst X0 hx (d2_2 hby) (v := (0 : Int32)) rfl (pc' := 3) rfl ?_
 refine w_aloadN X0 hx (d2_3 hby) rfl rfl (pc' := 4) rfl ?_
 refine w_alen X0 hx hZ e0 V_a1 (d2_4 hby) (pc' := 5) rfl ?_
 refine w_null X0 hx (d2_5 hby) (pc' := 6) rfl ?_
 refine w_specialS X0 hx (y := yn_3) rfl hown (mvT hZ (wd_12 hw)) (mvT hZ (wd_13 hw)) (mvT hZ (wd_15 hw)) (by decide) (backOfY (W := 0) (rm_m3_6 l Z aZ hw [] a0 a1 h0 n0 Z0 E_a0 zz0 zz2 zz1) hZ (wd_15 hw) (wd_8 hw) (by decide) (by decide) (own_EW hw) C0.1 (sfS (hsf a0 (by simp)) sf0) (allS (Nat.lt_of_lt_of_le E_a0.lt (Nat.le_refl _)) all0)) (by rw [hml]; rfl) [(.ref a1), (.int (0 : Int32)), (.int (0 : Int32)), .null] (lenOf pd_0 rfl) rfl (Nat.le_of_eq rfl) (d2_6 hby) (fun _ _ => ⟨rfl, e0, (by decide : 0 + 4 ≤ _), (by decide : 0 + 8 ≤ _)⟩) (pc' := 9) rfl ?_
 rintro _ _ ⟨T20, L20, k20, n20⟩ XX20 hSS20 hg20 ⟨Lc20, hQ20, l20, y20, z20, A20⟩
 dsimp only [Pt.U, Pt.locs, Pt.cells, Pt.slots] at XX20 l20 y20 z20 hQ20 hSS20 hg20 A20 ⊢
 subst l20 y20 z20
 obtain ⟨X20, hS20, hZ20, hown20⟩ := rebS hS0 (Nat.le_refl _) XX20 hSS20 (e0 ▸ hg20) hZ hown
 obtain ⟨r0_20, c0_20, rfl, N20q, K20, g20_0, g20_1, g20_2, g20_3⟩ := hQ20
 have N21 := Fr.app N0 N20q
 have C22 : CHr Z EL s.vm h0 T20.vm T20.heap := C0.trans A20
 have K23 : Keep h0 T20.heap [a0] := (Keep.refl h0 [a0]).trans K20 (allS (Or.inl (by simp)) (all0 (P := fun x => x ∈ [a0] ∨ h0.size ≤ x)))
 show Runs _ _ _ _ (T20.setTop (mkF m 9 #[.val (.ref a0), .val (.ref a1)] []))
 exact w_doneH X20 hlk (v := none) rfl hh hZ20 (own_EW hw) hS20 (Nat.le_refl _) C22 (fun _ => rfl) (fun fs hr => X20.returnOut hx hret (d2_9 hby) hr) (by decide) (by decide) (fun hsy => ⟨r0_20, c0_20, rfl, N21, K23, g20_0, g20_1, g20_2, g20_3⟩)
theorem ef_m11_10 (m : MethodId) (a0 : Addr) (a2 : Addr)  : entryFrame m #[(.ref a0), (.int (0 : Int32)), (.ref a2), (.int (0 : Int32)), (.int (1 : Int32))] 7 = mkF m 0 #[.val (.ref a0), .val (.int (0 : Int32)), .val (.ref a2), .val (.int (0 : Int32)), .val (.int (1 : Int32)), .unset, .unset] [] := by first | (simp [entryFrame, mkF, argsToLocals, Value.category]; done) | rfl
def Q_m11_10 (Z : State) (a0 : Addr) (a2 : Addr) (k_a0 : ClassId) (jj0 : Int32) (k_a2 : ClassId) (h0 : Heap) (n0 : Nat) (v : Option Value) (h : Heap) (L : List Loc) : Prop := (v = some (.int (1 : Int32)) ∧ Fr n0 L ∧ Keep h0 h [a2] ∧ Arv Z h a2 k_a2 .byte (1 : Int32) [(.int (jj0.toInt8.toInt32))] (.int (0 : Int32)) ∧ ¬ ((255 : Int32) < jj0)) ∨ (∃ (j : Int32), v = some (.int j) ∧ Fr n0 L ∧ Keep h0 h [a2] ∧ ¬ (j < (0 : Int32)) ∧ j < (1 : Int32) ∧ (255 : Int32) < (gI [jj0, (0 : Int32), (0 : Int32), (0 : Int32)] j))
theorem rm_m11_10 (l : Launch) (Z : State) (aZ : Array Value) (hw : ∀ d ∈ tables_1, d.before aZ Z = true) (ws : List Jvm.Cond) (a0 : Addr) (a2 : Addr) (k_a0 : ClassId) (jj0 : Int32) (k_a2 : ClassId) (h0 : Heap) (n0 : Nat) (Z0 : n0 ≤ h0.size) (V_a0 : Arv Z h0 a0 k_a0 .char (1 : Int32) [(.int jj0)] (.int (0 : Int32))) (V_a2 : Arv Z h0 a2 k_a2 .byte (1 : Int32) [(.int (0 : Int32))] (.int (0 : Int32))) (zz1 : n0 ≤ a2) :
    MetN l Z yn_11 jdk_52_method_21_code 7 (some .int) ws ({ frames := 0, cells := 0, slots := 0, locals := 0 } : Room) #[(.ref a0), (.int (0 : Int32)), (.ref a2), (.int (0 : Int32)), (.int (1 : Int32))] h0 (Q_m11_10 Z a0 a2 k_a0 jj0 k_a2 h0 n0) := by
 refine MetN.of (plainFor_of_name pn_1) ?_
 intro p e s m below meth c s₁ hret hx hby hml hown hnm hlk hZ X0 e0
 have N0 := Fr.nil n0
 rw [ef_m11_10 m a0 a2]
 refine w_iconst X0 hx (d11_0 hby) (v := (0 : Int32)) rfl (pc' := 1) rfl ?_
 refine w_istore X0 hx (d11_1 hby) (L' := #[.val (.ref a0), .val (.int (0 : Int32)), .val (.ref a2), .val (.int (0 : Int32)), .val (.int (1 : Int32)), .val (.int (0 : Int32)), .unset]) rfl (pc' := 3) rfl ?_
 refine w_iload X0 hx (d11_3 hby) rfl (pc' := 5) rfl ?_
 refine w_iload X0 hx (d11_5 hby) rfl (pc' := 7) rfl ?_
 refine w_icN X0 hx (d11_7 hby) (tlt (by decide : (0 : Int32) < (1 : Int32))).2.1 (pc' := 10) rfl ?_
 refine w_aloadN X0 hx (d11_10 hby) rfl rfl (pc' := 11) rfl ?_
 refine w_iloadN X0 hx (d11_11 hby) rfl (pc' := 12) rfl ?_
 obtain ⟨clu20, Aru20, qu20, Su20, Nu20, Hu20, Gu20⟩ := id V_a0
 have hinu20 := inb_of (j := (0 : Int32)) Su20 ⟨by decide, by decide⟩
 refine w_caload X0 hx hZ e0 Aru20 hinu20 (Hu20.at hinu20 rfl) (d11_12 hby) (pc' := 13) rfl ?_
 refine w_istore X0 hx (d11_13 hby) (L' := #[.val (.ref a0), .val (.int (0 : Int32)), .val (.ref a2), .val (.int (0 : Int32)), .val (.int (1 : Int32)), .val (.int (0 : Int32)), .val (.int jj0)]) rfl (pc' := 15) rfl ?_
 refine w_iload X0 hx (d11_15 hby) rfl (pc' := 17) rfl ?_
 refine w_sipush X0 hx (d11_17 hby) (v := (255 : Int32)) rfl (pc' := 20) rfl ?_
 by_cases hc21 : (255 : Int32) < jj0
 · refine w_icN X0 hx (d11_20 hby) (tlt hc21).2.2.2 (pc' := 23) rfl ?_
   refine w_iload X0 hx (d11_23 hby) rfl (pc' := 25) rfl ?_
   exact w_done X0 hlk (v := some (.int (0 : Int32))) e0 (fun h => by rw [hret] at h; cases h) (fun fs hr => retI X0 hx hret (d11_25 hby) hr) (by decide) (by decide) (Or.inr (⟨(0 : Int32), rfl, N0, (Keep.refl h0 [a2]), (by decide : ¬ ((0 : Int32) < (0 : Int32))), (by decide : (0 : Int32) < (1 : Int32)), (show (255 : Int32) < (gI [jj0, (0 : Int32), (0 : Int32), (0 : Int32)] (0 : Int32)) from hc21)⟩))
 · refine w_icY X0 hx (d11_20 hby) (flt hc21).2.2.2 (pc' := 26) (by decide) (by decide) ?_
   refine w_aloadN X0 hx (d11_26 hby) rfl rfl (pc' := 27) rfl ?_
   refine w_iloadN X0 hx (d11_27 hby) rfl (pc' := 28) rfl ?_
   refine w_iload X0 hx (d11_28 hby) rfl (pc' := 30) rfl ?_
   refine w_i2b X0 hx (d11_30 hby) (pc' := 31) rfl ?_
   obtain ⟨clu22, Aru22, qu22, Su22, Nu22, Hu22, Gu22⟩ := id V_a2
   have hinu22 := inb_of (j := (0 : Int32)) Su22 ⟨by decide, by decide⟩
   refine w_stB X0 hx hZ e0 Aru22 hinu22 (d11_31 hby) (pc' := 32) rfl ?_
   intro T23 h23 X23 e23 W23
   have V24 : Arv Z h23 a2 k_a2 .byte (1 : Int32) [(.int (nar .byte (jj0.toInt8.toInt32)))] (.int (0 : Int32)) := Arv.set Aru22 qu22 Su22 Nu22 Hu22 Gu22 (fits_nar_byte _) W23 0 rfl (Nat.le_of_ble_eq_true rfl)
   have V25 : Arv Z h23 a2 k_a2 .byte (1 : Int32) [(.int (jj0.toInt8.toInt32))] (.int (0 : Int32)) := by rw [nar_b] at V24; exact V24
   have K26 : Keep h0 h23 [a2] := (Keep.refl h0 [a2]).wr W23 (Or.inl (by simp))
   have N27 := Fr.snoc X23 N0 zz1
   refine w_iinc X23 hx (d11_32 hby) (v := (1 : Int32)) rfl rfl (L' := #[.val (.ref a0), .val (.int ((0 : Int32) + (1 : Int32))), .val (.ref a2), .val (.int (0 : Int32)), .val (.int (1 : Int32)), .val (.int (0 : Int32)), .val (.int jj0)]) rfl (pc' := 35) rfl ?_
   rw [show ((0 : Int32) + (1 : Int32)) = (1 : Int32) from by decide]
   refine w_iinc X23 hx (d11_35 hby) (v := (1 : Int32)) rfl rfl (L' := #[.val (.ref a0), .val (.int (1 : Int32)), .val (.ref a2), .val (.int ((0 : Int32) + (1 : Int32))), .val (.int (1 : Int32)), .val (.int (0 : Int32)), .val (.int jj0)]) rfl (pc' := 38) rfl ?_
   rw [show ((0 : Int32) + (1 : Int32)) = (1 : Int32) from by decide]
   refine w_iinc X23 hx (d11_38 hby) (v := (1 : Int32)) rfl rfl (L' := #[.val (.ref a0), .val (.int (1 : Int32)), .val (.ref a2), .val (.int (1 : Int32)), .val (.int (1 : Int32)), .val (.int ((0 : Int32) + (1 : Int32))), .val (.int jj0)]) rfl (pc' := 41) rfl ?_
   rw [show ((0 : Int32) + (1 : Int32)) = (1 : Int32) from by decide]
   refine w_goto X23 hx (d11_41 hby) (pc' := 3) (by decide) (by decide) ?_
   refine w_iload X23 hx (d11_3 hby) rfl (pc' := 5) rfl ?_
   refine w_iload X23 hx (d11_5 hby) rfl (pc' := 7) rfl ?_
   refine w_icY X23 hx (d11_7 hby) (flt (by decide : ¬ ((1 : Int32) < (1 : Int32)))).2.1 (pc' := 44) (by decide) (by decide) ?_
   refine w_iload X23 hx (d11_44 hby) rfl (pc' := 46) rfl ?_
   exact w_done X23 hlk (v := some (.int (1 : Int32))) e23 (fun h => by rw [hret] at h; cases h) (fun fs hr => retI X23 hx hret (d11_46 hby) hr) (by decide) (by decide) (Or.inl ⟨rfl, N27, K26, V25, hc21⟩)
theorem ef_m20_13 (m : MethodId)   : entryFrame m #[(.int (1 : Int32))] 1 = mkF m 0 #[.val (.int (1 : Int32))] [] := by first | (simp [entryFrame, mkF, argsToLocals, Value.category]; done) | rfl
def Q_m20_13 (Z : State)  (h0 : Heap) (n0 : Nat) (v : Option Value) (h : Heap) (L : List Loc) : Prop := v = some (.int (2 : Int32)) ∧ Fr n0 L ∧ h = h0
theorem rm_m20_13 (l : Launch) (Z : State) (aZ : Array Value) (hw : ∀ d ∈ tables_1, d.before aZ Z = true) (ws : List Jvm.Cond)  (h0 : Heap) (n0 : Nat) (Z0 : n0 ≤ h0.size) :
    MetN l Z yn_20 jdk_52_method_3_code 1 (some .int) ws ({ frames := 0, cells := 0, slots := 0, locals := 0 } : Room) #[(.int (1 : Int32))] h0 (Q_m20_13 Z  h0 n0) := by
 refine MetN.of (plainFor_of_name pn_1) ?_
 intro p e s m below meth c s₁ hret hx hby hml hown hnm hlk hZ X0 e0
 have N0 := Fr.nil n0
 rw [ef_m20_13 m ]
 refine w_iloadN X0 hx (d20_0 hby) rfl (pc' := 1) rfl ?_
 refine w_ifY X0 hx (d20_1 hby) (flt (by decide : ¬ ((1 : Int32) < (0 : Int32)))).2.1 (pc' := 12) (by decide) (by decide) ?_
 refine w_iloadN X0 hx (d20_12 hby) rfl (pc' := 13) rfl ?_
 refine w_ldcI X0 hx hZ hown (wd_107 hw) (d20_13 hby) (pc' := 15) rfl ?_
 refine w_icY X0 hx (d20_15 hby) (tlt (by decide : (1 : Int32) < (1073741823 : Int32))).1 (pc' := 55) (by decide) (by decide) ?_
 refine w_iloadN X0 hx (d20_55 hby) rfl (pc' := 56) rfl ?_
 refine w_iconst X0 hx (d20_56 hby) (v := (1 : Int32)) rfl (pc' := 57) rfl ?_
 refine w_ishl X0 hx (d20_57 hby) (pc' := 58) rfl ?_
 rw [show ((1 : Int32) <<< ((1 : Int32) &&& 31)) = (2 : Int32) from by decide]
 exact w_done X0 hlk (v := some (.int (2 : Int32))) e0 (fun h => by rw [hret] at h; cases h) (fun fs hr => retI X0 hx hret (d20_58 hby) hr) (by decide) (by decide) (⟨rfl, N0, rfl⟩)
theorem ef_m19_12 (m : MethodId)   : entryFrame m #[(.int (1 : Int32))] 1 = mkF m 0 #[.val (.int (1 : Int32))] [] := by first | (simp [entryFrame, mkF, argsToLocals, Value.category]; done) | rfl
def Q_m19_12 (Z : State)  (h0 : Heap) (n0 : Nat) (v : Option Value) (h : Heap) (L : List Loc) : Prop := ∃ (r0 : Addr) (c0 : ClassId), v = some (.ref r0) ∧ Fr n0 L ∧ Keep h0 h [] ∧ h0.size ≤ r0 ∧ Arv Z h r0 c0 .byte (2 : Int32) [(.int (0 : Int32)), (.int (0 : Int32))] (.int (0 : Int32))
theorem rm_m19_12 (l : Launch) (Z : State) (aZ : Array Value) (hw : ∀ d ∈ tables_1, d.before aZ Z = true) (ws : List Jvm.Cond)  (h0 : Heap) (n0 : Nat) (Z0 : n0 ≤ h0.size) :
    MetN l Z yn_19 jdk_52_method_2_code 1 (some (.array .byte)) ws ({ frames := 1, cells := 1, slots := 2, locals := 12 } : Room) #[(.int (1 : Int32))] h0 (Q_m19_12 Z  h0 n0) := by
 refine MetN.of (plainFor_of_name pn_1) ?_
 intro p e s m below meth c s₁ hret hx hby hml hown hnm hlk hZ X0 e0
 have N0 := Fr.nil n0
 rw [ef_m19_12 m ]
 refine w_iloadN X0 hx (d19_0 hby) rfl (pc' := 1) rfl ?_
 refine w_static X0 hx (y := yn_20) hown (mvT hZ (wd_104 hw)) (mvT hZ (wd_105 hw)) (mvT hZ (wd_68 hw)) (mvT hZ (wd_106 hw)) (by decide) (backOf (W := 0) (rm_m20_13 l Z aZ hw []  h0 n0 Z0 ) hZ (wd_106 hw) (wd_68 hw) (by decide) (by decide)) (by rw [hml]; rfl) [(.int (1 : Int32))] (lenOf pd_3 rfl) rfl (Nat.le_of_eq rfl) (d19_1 hby) (fun _ _ => ⟨rfl, e0, (by decide : 0 + 0 ≤ _), (by decide : 0 + 0 ≤ _)⟩) (pc' := 4) rfl ?_
 rintro _ _ ⟨T20, L20, k20, n20⟩ X20 ⟨Lc20, hQ20, l20, y20, z20⟩
 dsimp only [Pt.U, Pt.locs, Pt.cells, Pt.slots] at X20 l20 y20 z20 hQ20 ⊢
 subst l20 y20 z20
 obtain ⟨rfl, N20q, e20⟩ := hQ20
 have N21 := Fr.app N0 N20q
 show Runs _ _ _ _ (T20.setTop (mkF m 4 #[.val (.int (1 : Int32))] [(.int (2 : Int32))]))
 refine w_newP X20 hx .byte .byte 2 rfl hZ (wd_20 hw) e20 (d19_4 hby) (by decide) (by decide) (by decide) (by decide) (by decide) (pc' := 6) rfl ?_
 intro T22 h22 k22 b22 X22 e22 E22 g22 A22
 have ge23 : n0 ≤ b22 := Nat.le_trans Z0 (Nat.le_of_eq g22.symm)
 have sz24 : h0.size ≤ b22 := Nat.le_trans (Nat.le_refl _) (Nat.le_of_eq g22.symm)
 have K25 : Keep h0 h22 [] := (Keep.refl h0 []).ext E22
 have V26 : Arv Z h22 b22 k22 .byte (2 : Int32) [(.int (0 : Int32)), (.int (0 : Int32))] (.int (0 : Int32)) := (Arv.new A22 (by decide)).pad (pad_rep [] (.int (0 : Int32)) 2)
 exact w_done X22 hlk (v := some (.ref b22)) e22 (fun h => by rw [hret] at h; cases h) (fun fs hr => retOut X22 hx hret rfl (Or.inr (Or.inr (Or.inr (Or.inr ⟨rfl, rfl, rfl⟩)))) (d19_6 hby) hr) (by decide) (by decide) (⟨b22, k22, rfl, N21, K25, sz24, V26⟩)
theorem ef_m21_14 (m : MethodId) (a0 : Addr) (p2 : Int32)  : entryFrame m #[(.ref a0), (.int (0 : Int32)), (.int p2)] 3 = mkF m 0 #[.val (.ref a0), .val (.int (0 : Int32)), .val (.int p2)] [] := by first | (simp [entryFrame, mkF, argsToLocals, Value.category]; done) | rfl
def Q_m21_14 (Z : State) (a0 : Addr) (p2 : Int32) (k_a0 : ClassId) (h0 : Heap) (n0 : Nat) (v : Option Value) (h : Heap) (L : List Loc) : Prop := v = none ∧ Fr n0 L ∧ Keep h0 h [a0] ∧ Arv Z h a0 k_a0 .byte (2 : Int32) [(.int ((p2 >>> ((0 : Int32) &&& 31)).toInt8.toInt32)), (.int ((p2 >>> ((8 : Int32) &&& 31)).toInt8.toInt32))] (.int (0 : Int32))
theorem rm_m21_14 (l : Launch) (Z : State) (aZ : Array Value) (hw : ∀ d ∈ tables_1, d.before aZ Z = true) (ws : List Jvm.Cond) (a0 : Addr) (p2 : Int32) (k_a0 : ClassId) (h0 : Heap) (n0 : Nat) (Z0 : n0 ≤ h0.size) (zz0 : Sta Z Z.heap kc1 "$assertionsDisabled" "Z" (.int (1 : Int32))) (O0 : Old Z n0 h0) (zz1 : Sta Z Z.heap kc1 "HI_BYTE_SHIFT" "I" (.int (0 : Int32))) (V_a0 : Arv Z h0 a0 k_a0 .byte (2 : Int32) [(.int (0 : Int32)), (.int (0 : Int32))] (.int (0 : Int32))) (zz2 : n0 ≤ a0) (zz3 : Sta Z Z.heap kc1 "LO_BYTE_SHIFT" "I" (.int (8 : Int32))) :
    MetN l Z yn_21 jdk_52_method_4_code 3 none ws ({ frames := 0, cells := 0, slots := 0, locals := 0 } : Room) #[(.ref a0), (.int (0 : Int32)), (.int p2)] h0 (Q_m21_14 Z a0 p2 k_a0 h0 n0) := by
 refine MetN.of (plainFor_of_name pn_1) ?_
 intro p e s m below meth c s₁ hret hx hby hml hown hnm hlk hZ X0 e0
 have N0 := Fr.nil n0
 rw [ef_m21_14 m a0 p2]
 refine w_getS X0 hx "" hZ hown (Or.inl (wd_111 hw)) Via.refl e0 (zz0.ext O0.2) (d21_0 hby) (pc' := 3) rfl ?_
 intro T20 X20 e20
 refine w_ifY X20 hx (d21_3 hby) (feq (by decide : ¬ ((1 : Int32) = (0 : Int32)))).2 (pc' := 28) (by decide) (by decide) ?_
 refine w_iloadN X20 hx (d21_28 hby) rfl (pc' := 29) rfl ?_
 refine w_iconst X20 hx (d21_29 hby) (v := (1 : Int32)) rfl (pc' := 30) rfl ?_
 refine w_ishl X20 hx (d21_30 hby) (pc' := 31) rfl ?_
 rw [show ((0 : Int32) <<< ((1 : Int32) &&& 31)) = (0 : Int32) from by decide]
 refine w_istoreN X20 hx (d21_31 hby) (L' := #[.val (.ref a0), .val (.int (0 : Int32)), .val (.int p2)]) rfl (pc' := 32) rfl ?_
 refine w_aloadN X20 hx (d21_32 hby) rfl rfl (pc' := 33) rfl ?_
 refine w_iloadN X20 hx (d21_33 hby) rfl (pc' := 34) rfl ?_
 refine w_iinc X20 hx (d21_34 hby) (v := (1 : Int32)) rfl rfl (L' := #[.val (.ref a0), .val (.int ((0 : Int32) + (1 : Int32))), .val (.int p2)]) rfl (pc' := 37) rfl ?_
 rw [show ((0 : Int32) + (1 : Int32)) = (1 : Int32) from by decide]
 refine w_iloadN X20 hx (d21_37 hby) rfl (pc' := 38) rfl ?_
 refine w_getS X20 hx "" hZ hown (Or.inl (wd_112 hw)) Via.refl e20 (zz1.ext O0.2) (d21_38 hby) (pc' := 41) rfl ?_
 intro T21 X21 e21
 refine w_ishr X21 hx (d21_41 hby) (pc' := 42) rfl ?_
 refine w_i2b X21 hx (d21_42 hby) (pc' := 43) rfl ?_
 obtain ⟨clu22, Aru22, qu22, Su22, Nu22, Hu22, Gu22⟩ := id V_a0
 have hinu22 := inb_of (j := (0 : Int32)) Su22 ⟨by decide, by decide⟩
 refine w_stB X21 hx hZ e21 Aru22 hinu22 (d21_43 hby) (pc' := 44) rfl ?_
 intro T23 h23 X23 e23 W23
 have V24 : Arv Z h23 a0 k_a0 .byte (2 : Int32) [(.int (nar .byte ((p2 >>> ((0 : Int32) &&& 31)).toInt8.toInt32))), (.int (0 : Int32))] (.int (0 : Int32)) := Arv.set Aru22 qu22 Su22 Nu22 Hu22 Gu22 (fits_nar_byte _) W23 0 rfl (Nat.le_of_ble_eq_true rfl)
 have V25 : Arv Z h23 a0 k_a0 .byte (2 : Int32) [(.int ((p2 >>> ((0 : Int32) &&& 31)).toInt8.toInt32)), (.int (0 : Int32))] (.int (0 : Int32)) := by rw [nar_b] at V24; exact V24
 have K26 : Keep h0 h23 [a0] := (Keep.refl h0 [a0]).wr W23 (Or.inl (by simp))
 have N27 := Fr.snoc X23 N0 zz2
 refine w_aloadN X23 hx (d21_44 hby) rfl rfl (pc' := 45) rfl ?_
 refine w_iloadN X23 hx (d21_45 hby) rfl (pc' := 46) rfl ?_
 refine w_iloadN X23 hx (d21_46 hby) rfl (pc' := 47) rfl ?_
 have f28 : Old Z n0 h23 := (O0.wr W23 zz2)
 refine w_getS X23 hx "" hZ hown (Or.inl (wd_113 hw)) Via.refl e23 (zz3.ext f28.2) (d21_47 hby) (pc' := 50) rfl ?_
 intro T29 X29 e29
 refine w_ishr X29 hx (d21_50 hby) (pc' := 51) rfl ?_
 refine w_i2b X29 hx (d21_51 hby) (pc' := 52) rfl ?_
 obtain ⟨clu30, Aru30, qu30, Su30, Nu30, Hu30, Gu30⟩ := id V25
 have hinu30 := inb_of (j := (1 : Int32)) Su30 ⟨by decide, by decide⟩
 refine w_stB X29 hx hZ e29 Aru30 hinu30 (d21_52 hby) (pc' := 53) rfl ?_
 intro T31 h31 X31 e31 W31
 have V32 : Arv Z h31 a0 k_a0 .byte (2 : Int32) [(.int ((p2 >>> ((0 : Int32) &&& 31)).toInt8.toInt32)), (.int (nar .byte ((p2 >>> ((8 : Int32) &&& 31)).toInt8.toInt32)))] (.int (0 : Int32)) := Arv.set Aru30 qu30 Su30 Nu30 Hu30 Gu30 (fits_nar_byte _) W31 1 rfl (Nat.le_of_ble_eq_true rfl)
 have V33 : Arv Z h31 a0 k_a0 .byte (2 : Int32) [(.int ((p2 >>> ((0 : Int32) &&& 31)).toInt8.toInt32)), (.int ((p2 >>> ((8 : Int32) &&& 31)).toInt8.toInt32))] (.int (0 : Int32)) := by rw [nar_b] at V32; exact V32
 have K34 : Keep h0 h31 [a0] := K26.wr W31 (Or.inl (by simp))
 have N35 := Fr.snoc X31 N27 zz2
 exact w_done X31 hlk (v := none) e31 (fun _ => rfl) (fun fs hr => X31.returnOut hx hret (d21_53 hby) hr) (by decide) (by decide) (⟨rfl, N35, K34, V33⟩)
theorem ef_m18_11 (m : MethodId) (a0 : Addr)  : entryFrame m #[(.ref a0), (.int (0 : Int32)), (.int (1 : Int32))] 5 = mkF m 0 #[.val (.ref a0), .val (.int (0 : Int32)), .val (.int (1 : Int32)), .unset, .unset] [] := by first | (simp [entryFrame, mkF, argsToLocals, Value.category]; done) | rfl
def Q_m18_11 (Z : State) (a0 : Addr) (k_a0 : ClassId) (jj0 : Int32) (h0 : Heap) (n0 : Nat) (v : Option Value) (h : Heap) (L : List Loc) : Prop := ∃ (r0 : Addr) (c0 : ClassId), v = some (.ref r0) ∧ Fr n0 L ∧ Keep h0 h [] ∧ h0.size ≤ r0 ∧ Arv Z h r0 c0 .byte (2 : Int32) [(.int ((jj0 >>> ((0 : Int32) &&& 31)).toInt8.toInt32)), (.int ((jj0 >>> ((8 : Int32) &&& 31)).toInt8.toInt32))] (.int (0 : Int32))
theorem rm_m18_11 (l : Launch) (Z : State) (aZ : Array Value) (hw : ∀ d ∈ tables_1, d.before aZ Z = true) (ws : List Jvm.Cond) (a0 : Addr) (k_a0 : ClassId) (jj0 : Int32) (h0 : Heap) (n0 : Nat) (Z0 : n0 ≤ h0.size) (V_a0 : Arv Z h0 a0 k_a0 .char (1 : Int32) [(.int jj0)] (.int (0 : Int32))) (zz1 : Sta Z Z.heap kc1 "$assertionsDisabled" "Z" (.int (1 : Int32))) (O0 : Old Z n0 h0) (zz2 : Sta Z Z.heap kc1 "HI_BYTE_SHIFT" "I" (.int (0 : Int32))) (zz3 : Sta Z Z.heap kc1 "LO_BYTE_SHIFT" "I" (.int (8 : Int32))) :
    MetN l Z yn_18 jdk_52_method_14_code 5 (some (.array .byte)) ws ({ frames := 2, cells := 1, slots := 2, locals := 24 } : Room) #[(.ref a0), (.int (0 : Int32)), (.int (1 : Int32))] h0 (Q_m18_11 Z a0 k_a0 jj0 h0 n0) := by
 refine MetN.of (plainFor_of_name pn_1) ?_
 intro p e s m below meth c s₁ hret hx hby hml hown hnm hlk hZ X0 e0
 have N0 := Fr.nil n0
 rw [ef_m18_11 m a0]
 refine w_iloadN X0 hx (d18_0 hby) rfl (pc' := 1) rfl ?_
 refine w_static X0 hx (y := yn_19) hown (mvT hZ (wd_101 hw)) (mvT hZ (wd_102 hw)) (mvT hZ (wd_68 hw)) (mvT hZ (wd_103 hw)) (by decide) (backOf (W := 0) (rm_m19_12 l Z aZ hw []  h0 n0 Z0 ) hZ (wd_103 hw) (wd_68 hw) (by decide) (by decide)) (by rw [hml]; rfl) [(.int (1 : Int32))] (lenOf pd_4 rfl) rfl (Nat.le_of_eq rfl) (d18_1 hby) (fun _ _ => ⟨rfl, e0, (by decide : 0 + 1 ≤ _), (by decide : 0 + 2 ≤ _)⟩) (pc' := 4) rfl ?_
 rintro _ _ ⟨T20, L20, k20, n20⟩ X20 ⟨Lc20, hQ20, l20, y20, z20⟩
 dsimp only [Pt.U, Pt.locs, Pt.cells, Pt.slots] at X20 l20 y20 z20 hQ20 ⊢
 subst l20 y20 z20
 obtain ⟨r0_20, c0_20, rfl, N20q, K20, g20_0, g20_1⟩ := hQ20
 have N21 := Fr.app N0 N20q
 have K22 : Keep h0 T20.heap [] := (Keep.refl h0 []).trans K20 (all0 (P := fun x => x ∈ [] ∨ h0.size ≤ x))
 have ge23 : n0 ≤ r0_20 := Nat.le_trans Z0 g20_0
 have sz24 : h0.size ≤ r0_20 := Nat.le_trans (Nat.le_refl _) g20_0
 show Runs _ _ _ _ (T20.setTop (mkF m 4 #[.val (.ref a0), .val (.int (0 : Int32)), .val (.int (1 : Int32)), .unset, .unset] [(.ref r0_20)]))
 refine w_astoreN X20 hx (d18_4 hby) rfl (L' := #[.val (.ref a0), .val (.int (0 : Int32)), .val (.int (1 : Int32)), .val (.ref r0_20), .unset]) rfl (pc' := 5) rfl ?_
 refine w_iconst X20 hx (d18_5 hby) (v := (0 : Int32)) rfl (pc' := 6) rfl ?_
 refine w_istore X20 hx (d18_6 hby) (L' := #[.val (.ref a0), .val (.int (0 : Int32)), .val (.int (1 : Int32)), .val (.ref r0_20), .val (.int (0 : Int32))]) rfl (pc' := 8) rfl ?_
 refine w_iload X20 hx (d18_8 hby) rfl (pc' := 10) rfl ?_
 refine w_iloadN X20 hx (d18_10 hby) rfl (pc' := 11) rfl ?_
 refine w_icN X20 hx (d18_11 hby) (tlt (by decide : (0 : Int32) < (1 : Int32))).2.1 (pc' := 14) rfl ?_
 refine w_aloadN X20 hx (d18_14 hby) rfl rfl (pc' := 15) rfl ?_
 refine w_iload X20 hx (d18_15 hby) rfl (pc' := 17) rfl ?_
 refine w_aloadN X20 hx (d18_17 hby) rfl rfl (pc' := 18) rfl ?_
 refine w_iloadN X20 hx (d18_18 hby) rfl (pc' := 19) rfl ?_
 have f25 : Arv Z T20.heap a0 k_a0 .char (1 : Int32) [(.int jj0)] (.int (0 : Int32)) := (V_a0.keep K20 nin0)
 obtain ⟨clu26, Aru26, qu26, Su26, Nu26, Hu26, Gu26⟩ := id f25
 have hinu26 := inb_of (j := (0 : Int32)) Su26 ⟨by decide, by decide⟩
 refine w_caload X20 hx hZ rfl Aru26 hinu26 (Hu26.at hinu26 rfl) (d18_19 hby) (pc' := 20) rfl ?_
 have f27 : Old Z n0 T20.heap := (O0.keep K20 all0)
 refine w_static X20 hx (y := yn_21) hown (mvT hZ (wd_108 hw)) (mvT hZ (wd_109 hw)) (mvT hZ (wd_68 hw)) (mvT hZ (wd_110 hw)) (by decide) (backOf (W := 0) (rm_m21_14 l Z aZ hw [] r0_20 jj0 c0_20 T20.heap n0 (Nat.le_trans Z0 K20.1) zz1 f27 zz2 g20_1 ge23 zz3) hZ (wd_110 hw) (wd_68 hw) (by decide) (by decide)) (by rw [hml]; rfl) [(.ref r0_20), (.int (0 : Int32)), (.int jj0)] (lenOf pd_5 rfl) rfl (Nat.le_of_eq rfl) (d18_20 hby) (fun _ _ => ⟨rfl, rfl, (by decide : 1 + 0 ≤ _), (by decide : 2 + 0 ≤ _)⟩) (pc' := 23) rfl ?_
 rintro _ _ ⟨T28, L28, k28, n28⟩ X28 ⟨Lc28, hQ28, l28, y28, z28⟩
 dsimp only [Pt.U, Pt.locs, Pt.cells, Pt.slots] at X28 l28 y28 z28 hQ28 ⊢
 subst l28 y28 z28
 obtain ⟨rfl, N28q, K28, g28_0⟩ := hQ28
 have N29 := Fr.app N21 N28q
 have K30 : Keep h0 T28.heap [] := K22.trans K28 (allS (Or.inr sz24) (all0 (P := fun x => x ∈ [] ∨ h0.size ≤ x)))
 show Runs _ _ _ _ (T28.setTop (mkF m 23 #[.val (.ref a0), .val (.int (0 : Int32)), .val (.int (1 : Int32)), .val (.ref r0_20), .val (.int (0 : Int32))] []))
 refine w_iinc X28 hx (d18_23 hby) (v := (1 : Int32)) rfl rfl (L' := #[.val (.ref a0), .val (.int ((0 : Int32) + (1 : Int32))), .val (.int (1 : Int32)), .val (.ref r0_20), .val (.int (0 : Int32))]) rfl (pc' := 26) rfl ?_
 rw [show ((0 : Int32) + (1 : Int32)) = (1 : Int32) from by decide]
 refine w_iinc X28 hx (d18_26 hby) (v := (1 : Int32)) rfl rfl (L' := #[.val (.ref a0), .val (.int (1 : Int32)), .val (.int (1 : Int32)), .val (.ref r0_20), .val (.int ((0 : Int32) + (1 : Int32)))]) rfl (pc' := 29) rfl ?_
 rw [show ((0 : Int32) + (1 : Int32)) = (1 : Int32) from by decide]
 refine w_goto X28 hx (d18_29 hby) (pc' := 8) (by decide) (by decide) ?_
 refine w_iload X28 hx (d18_8 hby) rfl (pc' := 10) rfl ?_
 refine w_iloadN X28 hx (d18_10 hby) rfl (pc' := 11) rfl ?_
 refine w_icY X28 hx (d18_11 hby) (flt (by decide : ¬ ((1 : Int32) < (1 : Int32)))).2.1 (pc' := 32) (by decide) (by decide) ?_
 refine w_aloadN X28 hx (d18_32 hby) rfl rfl (pc' := 33) rfl ?_
 exact w_done X28 hlk (v := some (.ref r0_20)) rfl (fun h => by rw [hret] at h; cases h) (fun fs hr => retOut X28 hx hret rfl (Or.inr (Or.inr (Or.inr (Or.inr ⟨rfl, rfl, rfl⟩)))) (d18_33 hby) hr) (by decide) (by decide) (⟨r0_20, c0_20, rfl, N29, K30, sz24, g28_0⟩)
theorem ef_m22_15 (m : MethodId) (a0 : Addr) (p1 : Int32)  : entryFrame m #[(.ref a0), (.int p1)] 2 = mkF m 0 #[.val (.ref a0), .val (.int p1)] [] := by first | (simp [entryFrame, mkF, argsToLocals, Value.category]; done) | rfl
def Q_m22_15 (Z : State) (a0 : Addr) (p1 : Int32) (k_a0 : ClassId) (jj0 : Int32) (jj1 : Int32) (h0 : Heap) (n0 : Nat) (v : Option Value) (h : Heap) (L : List Loc) : Prop := v = some (.int (((((gI [jj0, jj1] (p1 <<< ((1 : Int32) &&& 31))) &&& (255 : Int32)) <<< ((0 : Int32) &&& 31)) ||| (((gI [jj0, jj1] ((p1 <<< ((1 : Int32) &&& 31)) + (1 : Int32))) &&& (255 : Int32)) <<< ((8 : Int32) &&& 31))).toUInt32.toUInt16.toUInt32.toInt32)) ∧ Fr n0 L ∧ h = h0
theorem rm_m22_15 (l : Launch) (Z : State) (aZ : Array Value) (hw : ∀ d ∈ tables_1, d.before aZ Z = true) (ws : List Jvm.Cond) (a0 : Addr) (p1 : Int32) (k_a0 : ClassId) (jj0 : Int32) (jj1 : Int32) (h0 : Heap) (n0 : Nat) (Z0 : n0 ≤ h0.size) (zz2 : Sta Z Z.heap kc1 "$assertionsDisabled" "Z" (.int (1 : Int32))) (O0 : Old Z n0 h0) (V_a0 : Arv Z h0 a0 k_a0 .byte (2 : Int32) [(.int jj0), (.int jj1)] (.int (0 : Int32))) (hP_3 : ¬ (p1 < (0 : Int32))) (hP_4 : p1 < (1 : Int32)) (zz3 : Sta Z Z.heap kc1 "HI_BYTE_SHIFT" "I" (.int (0 : Int32))) (zz4 : Sta Z Z.heap kc1 "LO_BYTE_SHIFT" "I" (.int (8 : Int32))) :
    MetN l Z yn_22 jdk_52_method_5_code 2 (some .char) ws ({ frames := 0, cells := 0, slots := 0, locals := 0 } : Room) #[(.ref a0), (.int p1)] h0 (Q_m22_15 Z a0 p1 k_a0 jj0 jj1 h0 n0) := by
 refine MetN.of (plainFor_of_name pn_1) ?_
 intro p e s m below meth c s₁ hret hx hby hml hown hnm hlk hZ X0 e0
 have N0 := Fr.nil n0
 rw [ef_m22_15 m a0 p1]
 refine w_getS X0 hx "" hZ hown (Or.inl (wd_111 hw)) Via.refl e0 (zz2.ext O0.2) (d22_0 hby) (pc' := 3) rfl ?_
 intro T20 X20 e20
 refine w_ifY X20 hx (d22_3 hby) (feq (by decide : ¬ ((1 : Int32) = (0 : Int32)))).2 (pc' := 28) (by decide) (by decide) ?_
 refine w_iloadN X20 hx (d22_28 hby) rfl (pc' := 29) rfl ?_
 refine w_iconst X20 hx (d22_29 hby) (v := (1 : Int32)) rfl (pc' := 30) rfl ?_
 refine w_ishl X20 hx (d22_30 hby) (pc' := 31) rfl ?_
 refine w_istoreN X20 hx (d22_31 hby) (L' := #[.val (.ref a0), .val (.int (p1 <<< ((1 : Int32) &&& 31)))]) rfl (pc' := 32) rfl ?_
 refine w_aloadN X20 hx (d22_32 hby) rfl rfl (pc' := 33) rfl ?_
 refine w_iloadN X20 hx (d22_33 hby) rfl (pc' := 34) rfl ?_
 refine w_iinc X20 hx (d22_34 hby) (v := (1 : Int32)) rfl rfl (L' := #[.val (.ref a0), .val (.int ((p1 <<< ((1 : Int32) &&& 31)) + (1 : Int32)))]) rfl (pc' := 37) rfl ?_
 obtain ⟨clu21, Aru21, qu21, Su21, Nu21, Hu21, Gu21⟩ := id V_a0
 have hinu21 := inb_of (j := (p1 <<< ((1 : Int32) &&& 31))) Su21 ⟨(own_shl_in (n := 1) (by decide) (by decide) hP_3 hP_4).1.1, (Eq.mp (congrArg (fun z => (p1 <<< ((1 : Int32) &&& 31)) < z) (by decide : (1 : Int32) <<< ((1 : Int32) &&& 31) = 2)) (own_shl_in (n := 1) (by decide) (by decide) hP_3 hP_4).1.2)⟩
 refine w_baload X20 hx hZ e20 Aru21 hinu21 (Hu21.at hinu21 (own_gI [jj0, jj1] (p1 <<< ((1 : Int32) &&& 31)))) (d22_37 hby) (pc' := 38) rfl ?_
 refine w_sipush X20 hx (d22_38 hby) (v := (255 : Int32)) rfl (pc' := 41) rfl ?_
 refine w_iand X20 hx (d22_41 hby) (pc' := 42) rfl ?_
 refine w_getS X20 hx "" hZ hown (Or.inl (wd_112 hw)) Via.refl e20 (zz3.ext O0.2) (d22_42 hby) (pc' := 45) rfl ?_
 intro T22 X22 e22
 refine w_ishl X22 hx (d22_45 hby) (pc' := 46) rfl ?_
 refine w_aloadN X22 hx (d22_46 hby) rfl rfl (pc' := 47) rfl ?_
 refine w_iloadN X22 hx (d22_47 hby) rfl (pc' := 48) rfl ?_
 obtain ⟨clu23, Aru23, qu23, Su23, Nu23, Hu23, Gu23⟩ := id V_a0
 have hinu23 := inb_of (j := ((p1 <<< ((1 : Int32) &&& 31)) + (1 : Int32))) Su23 ⟨(own_shl_in (n := 1) (by decide) (by decide) hP_3 hP_4).2.1, (Eq.mp (congrArg (fun z => ((p1 <<< ((1 : Int32) &&& 31)) + (1 : Int32)) < z) (by decide : (1 : Int32) <<< ((1 : Int32) &&& 31) = 2)) (own_shl_in (n := 1) (by decide) (by decide) hP_3 hP_4).2.2)⟩
 refine w_baload X22 hx hZ e22 Aru23 hinu23 (Hu23.at hinu23 (own_gI [jj0, jj1] ((p1 <<< ((1 : Int32) &&& 31)) + (1 : Int32)))) (d22_48 hby) (pc' := 49) rfl ?_
 refine w_sipush X22 hx (d22_49 hby) (v := (255 : Int32)) rfl (pc' := 52) rfl ?_
 refine w_iand X22 hx (d22_52 hby) (pc' := 53) rfl ?_
 refine w_getS X22 hx "" hZ hown (Or.inl (wd_113 hw)) Via.refl e22 (zz4.ext O0.2) (d22_53 hby) (pc' := 56) rfl ?_
 intro T24 X24 e24
 refine w_ishl X24 hx (d22_56 hby) (pc' := 57) rfl ?_
 refine w_ior X24 hx (d22_57 hby) (pc' := 58) rfl ?_
 refine w_i2c X24 hx (d22_58 hby) (pc' := 59) rfl ?_
 exact w_done X24 hlk (v := some (.int (((((gI [jj0, jj1] (p1 <<< ((1 : Int32) &&& 31))) &&& (255 : Int32)) <<< ((0 : Int32) &&& 31)) ||| (((gI [jj0, jj1] ((p1 <<< ((1 : Int32) &&& 31)) + (1 : Int32))) &&& (255 : Int32)) <<< ((8 : Int32) &&& 31))).toUInt32.toUInt16.toUInt32.toInt32))) e24 (fun h => by rw [hret] at h; cases h) (fun fs hr => retOut X24 hx hret (t := .char) (XT.narrow_c _) (Or.inl ⟨rfl, by simp, _, rfl⟩) (d22_59 hby) hr) (by decide) (by decide) (⟨rfl, N0, rfl⟩)
theorem ef_m10_9 (m : MethodId) (a0 : Addr)  : entryFrame m #[(.ref a0), (.int (0 : Int32)), (.int (1 : Int32))] 6 = mkF m 0 #[.val (.ref a0), .val (.int (0 : Int32)), .val (.int (1 : Int32)), .unset, .unset, .unset] [] := by first | (simp [entryFrame, mkF, argsToLocals, Value.category]; done) | rfl
def Q_m10_9 (Z : State) (a0 : Addr) (k_a0 : ClassId) (jj0 : Int32) (h0 : Heap) (n0 : Nat) (v : Option Value) (h : Heap) (L : List Loc) : Prop := (∃ (t : Addr) (kb : ClassId), v = some (.ref t) ∧ Fr n0 L ∧ Keep h0 h [] ∧ h0.size ≤ t ∧ Arv Z h t kb .byte (1 : Int32) [(.int (jj0.toInt8.toInt32))] (.int (0 : Int32)) ∧ ¬ ((255 : Int32) < jj0)) ∨ (∃ (t : Addr) (kb : ClassId), v = some (.ref t) ∧ Fr n0 L ∧ Keep h0 h [] ∧ h0.size ≤ t ∧ Arv Z h t kb .byte (2 : Int32) [(.int ((jj0 >>> ((0 : Int32) &&& 31)).toInt8.toInt32)), (.int ((jj0 >>> ((8 : Int32) &&& 31)).toInt8.toInt32))] (.int (0 : Int32)) ∧ (255 : Int32) < jj0)
theorem rm_m10_9 (l : Launch) (Z : State) (aZ : Array Value) (hw : ∀ d ∈ tables_1, d.before aZ Z = true) (ws : List Jvm.Cond) (a0 : Addr) (k_a0 : ClassId) (jj0 : Int32) (h0 : Heap) (n0 : Nat) (Z0 : n0 ≤ h0.size) (V_a0 : Arv Z h0 a0 k_a0 .char (1 : Int32) [(.int jj0)] (.int (0 : Int32))) (zz1 : Sta Z Z.heap kc1 "$assertionsDisabled" "Z" (.int (1 : Int32))) (O0 : Old Z n0 h0) (zz2 : Sta Z Z.heap kc1 "HI_BYTE_SHIFT" "I" (.int (0 : Int32))) (zz3 : Sta Z Z.heap kc1 "LO_BYTE_SHIFT" "I" (.int (8 : Int32))) (zz4 : nar .char jj0 = jj0) :
    MetN l Z yn_10 jdk_52_method_16_code 6 (some (.array .byte)) ws ({ frames := 3, cells := 2, slots := 3, locals := 40 } : Room) #[(.ref a0), (.int (0 : Int32)), (.int (1 : Int32))] h0 (Q_m10_9 Z a0 k_a0 jj0 h0 n0) := by
 refine MetN.of (plainFor_of_name pn_1) ?_
 intro p e s m below meth c s₁ hret hx hby hml hown hnm hlk hZ X0 e0
 have N0 := Fr.nil n0
 rw [ef_m10_9 m a0]
 refine w_iloadN X0 hx (d10_0 hby) rfl (pc' := 1) rfl ?_
 refine w_newP X0 hx .byte .byte 1 rfl hZ (wd_20 hw) e0 (d10_1 hby) (by decide) (by decide) (by decide) (by decide) (by decide) (pc' := 3) rfl ?_
 intro T20 h20 k20 b20 X20 e20 E20 g20 A20
 have ge21 : n0 ≤ b20 := Nat.le_trans Z0 (Nat.le_of_eq g20.symm)
 have sz22 : h0.size ≤ b20 := Nat.le_trans (Nat.le_refl _) (Nat.le_of_eq g20.symm)
 have K23 : Keep h0 h20 [] := (Keep.refl h0 []).ext E20
 have V24 : Arv Z h20 b20 k20 .byte (1 : Int32) [(.int (0 : Int32))] (.int (0 : Int32)) := (Arv.new A20 (by decide)).pad (pad_rep [] (.int (0 : Int32)) 1)
 refine w_astoreN X20 hx (d10_3 hby) rfl (L' := #[.val (.ref a0), .val (.int (0 : Int32)), .val (.int (1 : Int32)), .val (.ref b20), .unset, .unset]) rfl (pc' := 4) rfl ?_
 refine w_aloadN X20 hx (d10_4 hby) rfl rfl (pc' := 5) rfl ?_
 refine w_iloadN X20 hx (d10_5 hby) rfl (pc' := 6) rfl ?_
 refine w_aloadN X20 hx (d10_6 hby) rfl rfl (pc' := 7) rfl ?_
 refine w_iconst X20 hx (d10_7 hby) (v := (0 : Int32)) rfl (pc' := 8) rfl ?_
 refine w_iloadN X20 hx (d10_8 hby) rfl (pc' := 9) rfl ?_
 have f25 : Arv Z h20 a0 k_a0 .char (1 : Int32) [(.int jj0)] (.int (0 : Int32)) := (V_a0.ext E20)
 refine w_static X20 hx (y := yn_11) hown (mvT hZ (wd_70 hw)) (mvT hZ (wd_71 hw)) (mvT hZ (wd_68 hw)) (mvT hZ (wd_72 hw)) (by decide) (backOf (W := 0) (rm_m11_10 l Z aZ hw [] a0 b20 k_a0 jj0 k20 h20 n0 (Nat.le_trans Z0 E20.1) f25 V24 ge21) hZ (wd_72 hw) (wd_68 hw) (by decide) (by decide)) (by rw [hml]; rfl) [(.ref a0), (.int (0 : Int32)), (.ref b20), (.int (0 : Int32)), (.int (1 : Int32))] (lenOf pd_2 rfl) rfl (Nat.le_of_eq rfl) (d10_9 hby) (fun _ _ => ⟨rfl, e20, (by decide : 1 + 0 ≤ _), (by decide : 1 + 0 ≤ _)⟩) (pc' := 12) rfl ?_
 rintro _ _ ⟨T26, L26, k26, n26⟩ X26 ⟨Lc26, hQ26, l26, y26, z26⟩
 dsimp only [Pt.U, Pt.locs, Pt.cells, Pt.slots] at X26 l26 y26 z26 hQ26 ⊢
 subst l26 y26 z26
 rcases hQ26 with ⟨rfl, N26q, K26, g26_0, g26_1⟩ | ⟨j_26, rfl, N26q, K26, g26_0, g26_1, g26_2⟩
 · have N27 := Fr.app N0 N26q
   have K28 : Keep h0 T26.heap [] := K23.trans K26 (allS (Or.inr sz22) (all0 (P := fun x => x ∈ [] ∨ h0.size ≤ x)))
   show Runs _ _ _ _ (T26.setTop (mkF m 12 #[.val (.ref a0), .val (.int (0 : Int32)), .val (.int (1 : Int32)), .val (.ref b20), .unset, .unset] [(.int (1 : Int32))]))
   refine w_istore X26 hx (d10_12 hby) (L' := #[.val (.ref a0), .val (.int (0 : Int32)), .val (.int (1 : Int32)), .val (.ref b20), .val (.int (1 : Int32)), .unset]) rfl (pc' := 14) rfl ?_
   refine w_iload X26 hx (d10_14 hby) rfl (pc' := 16) rfl ?_
   refine w_iloadN X26 hx (d10_16 hby) rfl (pc' := 17) rfl ?_
   refine w_icY X26 hx (d10_17 hby) (teq (by decide : (1 : Int32) = (1 : Int32))).1 (pc' := 57) (by decide) (by decide) ?_
   refine w_aloadN X26 hx (d10_57 hby) rfl rfl (pc' := 58) rfl ?_
   exact w_done X26 hlk (v := some (.ref b20)) rfl (fun h => by rw [hret] at h; cases h) (fun fs hr => retOut X26 hx hret rfl (Or.inr (Or.inr (Or.inr (Or.inr ⟨rfl, rfl, rfl⟩)))) (d10_58 hby) hr) (by decide) (by decide) (Or.inl ⟨b20, k20, rfl, N27, K28, sz22, g26_0, g26_1⟩)
 · have N29 := Fr.app N0 N26q
   have K30 : Keep h0 T26.heap [] := K23.trans K26 (allS (Or.inr sz22) (all0 (P := fun x => x ∈ [] ∨ h0.size ≤ x)))
   show Runs _ _ _ _ (T26.setTop (mkF m 12 #[.val (.ref a0), .val (.int (0 : Int32)), .val (.int (1 : Int32)), .val (.ref b20), .unset, .unset] [(.int j_26)]))
   refine w_istore X26 hx (d10_12 hby) (L' := #[.val (.ref a0), .val (.int (0 : Int32)), .val (.int (1 : Int32)), .val (.ref b20), .val (.int j_26), .unset]) rfl (pc' := 14) rfl ?_
   refine w_iload X26 hx (d10_14 hby) rfl (pc' := 16) rfl ?_
   refine w_iloadN X26 hx (d10_16 hby) rfl (pc' := 17) rfl ?_
   refine w_icN X26 hx (d10_17 hby) (feq (fun q => by have h9 := g26_1; rw [q] at h9; exact absurd h9 (by decide))).1 (pc' := 20) rfl ?_
   refine w_aloadN X26 hx (d10_20 hby) rfl rfl (pc' := 21) rfl ?_
   refine w_iloadN X26 hx (d10_21 hby) rfl (pc' := 22) rfl ?_
   refine w_iloadN X26 hx (d10_22 hby) rfl (pc' := 23) rfl ?_
   have ne31 : a0 ≠ b20 := (Nat.ne_of_lt (Nat.lt_of_lt_of_le V_a0.lt (Nat.le_trans (Nat.le_refl _) (Nat.le_of_eq g20.symm))))
   have f32 : Arv Z T26.heap a0 k_a0 .char (1 : Int32) [(.int jj0)] (.int (0 : Int32)) := (f25.keep K26 (ninS ne31 nin0))
   have f33 : Old Z n0 T26.heap := ((O0.ext E20).keep K26 (allS ge21 all0))
   have le34 : h0.size ≤ T26.heap.size := (Nat.le_trans E20.1 K26.1)
   refine w_static X26 hx (y := yn_18) hown (mvT hZ (wd_98 hw)) (mvT hZ (wd_99 hw)) (mvT hZ (wd_68 hw)) (mvT hZ (wd_100 hw)) (by decide) (backOf (W := 0) (rm_m18_11 l Z aZ hw [] a0 k_a0 jj0 T26.heap n0 (Nat.le_trans Z0 le34) f32 zz1 f33 zz2 zz3) hZ (wd_100 hw) (wd_68 hw) (by decide) (by decide)) (by rw [hml]; rfl) [(.ref a0), (.int (0 : Int32)), (.int (1 : Int32))] (lenOf pd_6 rfl) rfl (Nat.le_of_eq rfl) (d10_23 hby) (fun _ _ => ⟨rfl, rfl, (by decide : 1 + 1 ≤ _), (by decide : 1 + 2 ≤ _)⟩) (pc' := 26) rfl ?_
   rintro _ _ ⟨T35, L35, k35, n35⟩ X35 ⟨Lc35, hQ35, l35, y35, z35⟩
   dsimp only [Pt.U, Pt.locs, Pt.cells, Pt.slots] at X35 l35 y35 z35 hQ35 ⊢
   subst l35 y35 z35
   obtain ⟨r0_35, c0_35, rfl, N35q, K35, g35_0, g35_1⟩ := hQ35
   have N36 := Fr.app N29 N35q
   have K37 : Keep h0 T35.heap [] := K30.trans K35 (all0 (P := fun x => x ∈ [] ∨ h0.size ≤ x))
   have ge38 : n0 ≤ r0_35 := Nat.le_trans (Nat.le_trans Z0 le34) g35_0
   have sz39 : h0.size ≤ r0_35 := Nat.le_trans le34 g35_0
   show Runs _ _ _ _ (T35.setTop (mkF m 26 #[.val (.ref a0), .val (.int (0 : Int32)), .val (.int (1 : Int32)), .val (.ref b20), .val (.int j_26), .unset] [(.ref r0_35)]))
   refine w_astore X35 hx (d10_26 hby) rfl (L' := #[.val (.ref a0), .val (.int (0 : Int32)), .val (.int (1 : Int32)), .val (.ref b20), .val (.int j_26), .val (.ref r0_35)]) rfl (pc' := 28) rfl ?_
   refine w_aload X35 hx (d10_28 hby) rfl rfl (pc' := 30) rfl ?_
   refine w_iload X35 hx (d10_30 hby) rfl (pc' := 32) rfl ?_
   have f40 : Old Z n0 T35.heap := (f33.keep K35 all0)
   have le41 : h0.size ≤ T35.heap.size := (Nat.le_trans le34 K35.1)
   refine w_static X35 hx (y := yn_22) hown (mvT hZ (wd_114 hw)) (mvT hZ (wd_115 hw)) (mvT hZ (wd_68 hw)) (mvT hZ (wd_116 hw)) (by decide) (backOf (W := 0) (rm_m22_15 l Z aZ hw [] r0_35 j_26 c0_35 ((jj0 >>> ((0 : Int32) &&& 31)).toInt8.toInt32) ((jj0 >>> ((8 : Int32) &&& 31)).toInt8.toInt32) T35.heap n0 (Nat.le_trans Z0 le41) zz1 f40 g35_1 g26_0 g26_1 zz2 zz3) hZ (wd_116 hw) (wd_68 hw) (by decide) (by decide)) (by rw [hml]; rfl) [(.ref r0_35), (.int j_26)] (lenOf pd_7 rfl) rfl (Nat.le_of_eq rfl) (d10_32 hby) (fun _ _ => ⟨rfl, rfl, (by decide : 2 + 0 ≤ _), (by decide : 3 + 0 ≤ _)⟩) (pc' := 35) rfl ?_
   rintro _ _ ⟨T42, L42, k42, n42⟩ X42 ⟨Lc42, hQ42, l42, y42, z42⟩
   dsimp only [Pt.U, Pt.locs, Pt.cells, Pt.slots] at X42 l42 y42 z42 hQ42 ⊢
   subst l42 y42 z42
   obtain ⟨rfl, N42q, e42⟩ := hQ42
   have N43 := Fr.app N36 N42q
   show Runs _ _ _ _ (T42.setTop (mkF m 35 #[.val (.ref a0), .val (.int (0 : Int32)), .val (.int (1 : Int32)), .val (.ref b20), .val (.int j_26), .val (.ref r0_35)] [(.int (((((gI [((jj0 >>> ((0 : Int32) &&& 31)).toInt8.toInt32), ((jj0 >>> ((8 : Int32) &&& 31)).toInt8.toInt32)] (j_26 <<< ((1 : Int32) &&& 31))) &&& (255 : Int32)) <<< ((0 : Int32) &&& 31)) ||| (((gI [((jj0 >>> ((0 : Int32) &&& 31)).toInt8.toInt32), ((jj0 >>> ((8 : Int32) &&& 31)).toInt8.toInt32)] ((j_26 <<< ((1 : Int32) &&& 31)) + (1 : Int32))) &&& (255 : Int32)) <<< ((8 : Int32) &&& 31))).toUInt32.toUInt16.toUInt32.toInt32))]))
   refine w_sipush X42 hx (d10_35 hby) (v := (255 : Int32)) rfl (pc' := 38) rfl ?_
   refine w_icY X42 hx (d10_38 hby) (tlt (show (255 : Int32) < (((((gI [((jj0 >>> ((0 : Int32) &&& 31)).toInt8.toInt32), ((jj0 >>> ((8 : Int32) &&& 31)).toInt8.toInt32)] (j_26 <<< ((1 : Int32) &&& 31))) &&& (255 : Int32)) <<< ((0 : Int32) &&& 31)) ||| (((gI [((jj0 >>> ((0 : Int32) &&& 31)).toInt8.toInt32), ((jj0 >>> ((8 : Int32) &&& 31)).toInt8.toInt32)] ((j_26 <<< ((1 : Int32) &&& 31)) + (1 : Int32))) &&& (255 : Int32)) <<< ((8 : Int32) &&& 31))).toUInt32.toUInt16.toUInt32.toInt32) from by rw [own_uj1 g26_0 g26_1 zz4]; exact g26_2)).2.2.1 (pc' := 54) (by decide) (by decide) ?_
   refine w_aload X42 hx (d10_54 hby) rfl rfl (pc' := 56) rfl ?_
   exact w_done X42 hlk (v := some (.ref r0_35)) e42 (fun h => by rw [hret] at h; cases h) (fun fs hr => retOut X42 hx hret rfl (Or.inr (Or.inr (Or.inr (Or.inr ⟨rfl, rfl, rfl⟩)))) (d10_56 hby) hr) (by decide) (by decide) (Or.inr (⟨r0_35, c0_35, rfl, N43, K37, sz39, g35_1, (own_or1 g26_0 g26_1 g26_2)⟩))
theorem ef_m12_16 (m : MethodId) (a0 : Addr)  : entryFrame m #[(.ref a0), (.int (1 : Int32))] 2 = mkF m 0 #[.val (.ref a0), .val (.int (1 : Int32))] [] := by first | (simp [entryFrame, mkF, argsToLocals, Value.category]; done) | rfl
def Q_m12_16 (Z : State) (a0 : Addr) (k_a0 : ClassId) (jj0 : Int32) (h0 : Heap) (n0 : Nat) (v : Option Value) (h : Heap) (L : List Loc) : Prop := v = some (.int (0 : Int32)) ∧ Fr n0 L ∧ h = h0
theorem rm_m12_16 (l : Launch) (Z : State) (aZ : Array Value) (hw : ∀ d ∈ tables_1, d.before aZ Z = true) (ws : List Jvm.Cond) (a0 : Addr) (k_a0 : ClassId) (jj0 : Int32) (h0 : Heap) (n0 : Nat) (Z0 : n0 ≤ h0.size) (V_a0 : Arv Z h0 a0 k_a0 .byte (1 : Int32) [(.int jj0)] (.int (0 : Int32))) :
    MetN l Z yn_12 jdk_52_method_15_code 2 (some .byte) ws ({ frames := 0, cells := 0, slots := 0, locals := 0 } : Room) #[(.ref a0), (.int (1 : Int32))] h0 (Q_m12_16 Z a0 k_a0 jj0 h0 n0) := by
 refine MetN.of (plainFor_of_name pn_1) ?_
 intro p e s m below meth c s₁ hret hx hby hml hown hnm hlk hZ X0 e0
 have N0 := Fr.nil n0
 rw [ef_m12_16 m a0]
 refine w_iloadN X0 hx (d12_0 hby) rfl (pc' := 1) rfl ?_
 refine w_aloadN X0 hx (d12_1 hby) rfl rfl (pc' := 2) rfl ?_
 refine w_alen X0 hx hZ e0 V_a0 (d12_2 hby) (pc' := 3) rfl ?_
 refine w_isub X0 hx (d12_3 hby) (pc' := 4) rfl ?_
 rw [show ((1 : Int32) - (1 : Int32)) = (0 : Int32) from by decide]
 refine w_bipush X0 hx (d12_4 hby) (v := (31 : Int32)) rfl (pc' := 6) rfl ?_
 refine w_iushr X0 hx (d12_6 hby) (pc' := 7) rfl ?_
 rw [show (((0 : Int32).toUInt32 >>> ((31 : Int32) &&& 31).toUInt32).toInt32) = (0 : Int32) from by decide]
 refine w_i2b X0 hx (d12_7 hby) (pc' := 8) rfl ?_
 rw [show ((0 : Int32).toInt8.toInt32) = (0 : Int32) from by decide]
 exact w_done X0 hlk (v := some (.int (0 : Int32))) e0 (fun h => by rw [hret] at h; cases h) (fun fs hr => retN X0 hx (t := .byte) hret (by simp) (d12_8 hby) hr) (by decide) (by decide) (⟨rfl, N0, rfl⟩)
theorem ef_m12_17 (m : MethodId) (a0 : Addr)  : entryFrame m #[(.ref a0), (.int (1 : Int32))] 2 = mkF m 0 #[.val (.ref a0), .val (.int (1 : Int32))] [] := by first | (simp [entryFrame, mkF, argsToLocals, Value.category]; done) | rfl
def Q_m12_17 (Z : State) (a0 : Addr) (k_a0 : ClassId) (jj0 : Int32) (jj1 : Int32) (h0 : Heap) (n0 : Nat) (v : Option Value) (h : Heap) (L : List Loc) : Prop := v = some (.int (1 : Int32)) ∧ Fr n0 L ∧ h = h0
theorem rm_m12_17 (l : Launch) (Z : State) (aZ : Array Value) (hw : ∀ d ∈ tables_1, d.before aZ Z = true) (ws : List Jvm.Cond) (a0 : Addr) (k_a0 : ClassId) (jj0 : Int32) (jj1 : Int32) (h0 : Heap) (n0 : Nat) (Z0 : n0 ≤ h0.size) (V_a0 : Arv Z h0 a0 k_a0 .byte (2 : Int32) [(.int jj0), (.int jj1)] (.int (0 : Int32))) :
    MetN l Z yn_12 jdk_52_method_15_code 2 (some .byte) ws ({ frames := 0, cells := 0, slots := 0, locals := 0 } : Room) #[(.ref a0), (.int (1 : Int32))] h0 (Q_m12_17 Z a0 k_a0 jj0 jj1 h0 n0) := by
 refine MetN.of (plainFor_of_name pn_1) ?_
 intro p e s m below meth c s₁ hret hx hby hml hown hnm hlk hZ X0 e0
 have N0 := Fr.nil n0
 rw [ef_m12_17 m a0]
 refine w_iloadN X0 hx (d12_0 hby) rfl (pc' := 1) rfl ?_
 refine w_aloadN X0 hx (d12_1 hby) rfl rfl (pc' := 2) rfl ?_
 refine w_alen X0 hx hZ e0 V_a0 (d12_2 hby) (pc' := 3) rfl ?_
 refine w_isub X0 hx (d12_3 hby) (pc' := 4) rfl ?_
 rw [show ((1 : Int32) - (2 : Int32)) = (-1 : Int32) from by decide]
 refine w_bipush X0 hx (d12_4 hby) (v := (31 : Int32)) rfl (pc' := 6) rfl ?_
 refine w_iushr X0 hx (d12_6 hby) (pc' := 7) rfl ?_
 rw [show (((-1 : Int32).toUInt32 >>> ((31 : Int32) &&& 31).toUInt32).toInt32) = (1 : Int32) from by decide]
 refine w_i2b X0 hx (d12_7 hby) (pc' := 8) rfl ?_
 rw [show ((1 : Int32).toInt8.toInt32) = (1 : Int32) from by decide]
 exact w_done X0 hlk (v := some (.int (1 : Int32))) e0 (fun h => by rw [hret] at h; cases h) (fun fs hr => retN X0 hx (t := .byte) hret (by simp) (d12_8 hby) hr) (by decide) (by decide) (⟨rfl, N0, rfl⟩)
theorem ef_m3_8 (m : MethodId) (a0 : Addr) (a1 : Addr)  : entryFrame m #[(.ref a0), (.ref a1), (.int (0 : Int32)), (.int (1 : Int32)), .null] 6 = mkF m 0 #[.val (.ref a0), .val (.ref a1), .val (.int (0 : Int32)), .val (.int (1 : Int32)), .val .null, .unset] [] := by first | (simp [entryFrame, mkF, argsToLocals, Value.category]; done) | rfl
def Q_m3_8 (Z : State) (a0 : Addr) (a1 : Addr) (jj0 : Int32) (k_a1 : ClassId) (jj1 : Int32) (h0 : Heap) (n0 : Nat) (v : Option Value) (h : Heap) (L : List Loc) : Prop := (∃ (t : Addr) (kb : ClassId), v = none ∧ Fr n0 L ∧ Keep h0 h [a0] ∧ Exa Z h a0 kc0 ∧ Fld Z h a0 kc0 "coder" "B" (.int (0 : Int32)) ∧ Fld Z h a0 kc0 "value" "[B" (.ref t) ∧ h0.size ≤ t ∧ Arv Z h t kb .byte (1 : Int32) [(.int (jj1.toInt8.toInt32))] (.int (0 : Int32)) ∧ ¬ ((255 : Int32) < jj1)) ∨ (∃ (t : Addr) (kb : ClassId), v = none ∧ Fr n0 L ∧ Keep h0 h [a0] ∧ Exa Z h a0 kc0 ∧ Fld Z h a0 kc0 "coder" "B" (.int (1 : Int32)) ∧ Fld Z h a0 kc0 "value" "[B" (.ref t) ∧ h0.size ≤ t ∧ Arv Z h t kb .byte (2 : Int32) [(.int ((jj1 >>> ((0 : Int32) &&& 31)).toInt8.toInt32)), (.int ((jj1 >>> ((8 : Int32) &&& 31)).toInt8.toInt32))] (.int (0 : Int32)) ∧ (255 : Int32) < jj1)
theorem rm_m3_8 (l : Launch) (Z : State) (aZ : Array Value) (hw : ∀ d ∈ tables_1, d.before aZ Z = true) (ws : List Jvm.Cond) (a0 : Addr) (a1 : Addr) (jj0 : Int32) (k_a1 : ClassId) (jj1 : Int32) (h0 : Heap) (n0 : Nat) (Z0 : n0 ≤ h0.size) (zz2 : Sta Z Z.heap kc0 "COMPACT_STRINGS" "Z" (.int jj0)) (O0 : Old Z n0 h0) (hP_2 : ¬ (jj0 = (0 : Int32))) (V_a1 : Arv Z h0 a1 k_a1 .char (1 : Int32) [(.int jj1)] (.int (0 : Int32))) (zz3 : nar .char jj1 = jj1) (zz4 : Sta Z Z.heap kc1 "$assertionsDisabled" "Z" (.int (1 : Int32))) (zz5 : Sta Z Z.heap kc1 "HI_BYTE_SHIFT" "I" (.int (0 : Int32))) (zz6 : Sta Z Z.heap kc1 "LO_BYTE_SHIFT" "I" (.int (8 : Int32))) (E_a0 : Exa Z h0 a0 kc0) (zz7 : Fld Z h0 a0 kc0 "coder" "B" (.int (0 : Int32))) (zz8 : n0 ≤ a0) (zz9 : Fld Z h0 a0 kc0 "value" "[B" .null) :
    MetN l Z yn_3 jdk_42_method_149_code 6 none ws ({ frames := 4, cells := 2, slots := 3, locals := 57 } : Room) #[(.ref a0), (.ref a1), (.int (0 : Int32)), (.int (1 : Int32)), .null] h0 (Q_m3_8 Z a0 a1 jj0 k_a1 jj1 h0 n0) := by
 refine MetN.of (plainFor_of_name pn_0) ?_
 intro p e s m below meth c s₁ hret hx hby hml hown hnm hlk hZ X0 e0
 have N0 := Fr.nil n0
 rw [ef_m3_8 m a0 a1]
 refine w_aloadN X0 hx (d3_0 hby) rfl rfl (pc' := 1) rfl ?_
 refine w_initO X0 hx 0 hZ hown (wd_16 hw) (wd_17 hw) (wd_18 hw) e0 (by rw [hml]; rfl) (d3_1 hby) (by decide) (Nat.le_of_eq rfl) (by decide) (pc' := 4) rfl ?_
 intro T20 X20 e20
 refine w_iloadN X20 hx (d3_4 hby) rfl (pc' := 5) rfl ?_
 refine w_ifY X20 hx (d3_5 hby) (feq (by decide : ¬ ((1 : Int32) = (0 : Int32)))).2 (pc' := 27) (by decide) (by decide) ?_
 refine w_getS X20 hx "" hZ hown (Or.inl (wd_63 hw)) Via.refl e20 (zz2.ext O0.2) (d3_27 hby) (pc' := 30) rfl ?_
 intro T21 X21 e21
 refine w_ifN X21 hx (d3_30 hby) (feq hP_2).1 (pc' := 33) rfl ?_
 refine w_aloadN X21 hx (d3_33 hby) rfl rfl (pc' := 34) rfl ?_
 refine w_iloadN X21 hx (d3_34 hby) rfl (pc' := 35) rfl ?_
 refine w_iloadN X21 hx (d3_35 hby) rfl (pc' := 36) rfl ?_
 refine w_static X21 hx (y := yn_10) hown (mvT hZ (wd_66 hw)) (mvT hZ (wd_67 hw)) (mvT hZ (wd_68 hw)) (mvT hZ (wd_69 hw)) (by decide) (backOf (W := 0) (rm_m10_9 l Z aZ hw [] a1 k_a1 jj1 h0 n0 Z0 V_a1 zz4 O0 zz5 zz6 zz3) hZ (wd_69 hw) (wd_68 hw) (by decide) (by decide)) (by rw [hml]; rfl) [(.ref a1), (.int (0 : Int32)), (.int (1 : Int32))] (lenOf pd_6 rfl) rfl (Nat.le_of_eq rfl) (d3_36 hby) (fun _ _ => ⟨rfl, e21, (by decide : 0 + 2 ≤ _), (by decide : 0 + 3 ≤ _)⟩) (pc' := 39) rfl ?_
 rintro _ _ ⟨T22, L22, k22, n22⟩ X22 ⟨Lc22, hQ22, l22, y22, z22⟩
 dsimp only [Pt.U, Pt.locs, Pt.cells, Pt.slots] at X22 l22 y22 z22 hQ22 ⊢
 subst l22 y22 z22
 rcases hQ22 with ⟨t_22, kb_22, rfl, N22q, K22, g22_0, g22_1, g22_2⟩ | ⟨t_22, kb_22, rfl, N22q, K22, g22_0, g22_1, g22_2⟩
 · have N23 := Fr.app N0 N22q
   have K24 : Keep h0 T22.heap [a0] := (Keep.refl h0 [a0]).trans K22 (all0 (P := fun x => x ∈ [a0] ∨ h0.size ≤ x))
   have ge25 : n0 ≤ t_22 := Nat.le_trans Z0 g22_0
   have sz26 : h0.size ≤ t_22 := Nat.le_trans (Nat.le_refl _) g22_0
   show Runs _ _ _ _ (T22.setTop (mkF m 39 #[.val (.ref a0), .val (.ref a1), .val (.int (0 : Int32)), .val (.int (1 : Int32)), .val .null, .unset] [(.ref t_22)]))
   refine w_astore X22 hx (d3_39 hby) rfl (L' := #[.val (.ref a0), .val (.ref a1), .val (.int (0 : Int32)), .val (.int (1 : Int32)), .val .null, .val (.ref t_22)]) rfl (pc' := 41) rfl ?_
   refine w_aloadN X22 hx (d3_41 hby) rfl rfl (pc' := 42) rfl ?_
   refine w_aload X22 hx (d3_42 hby) rfl rfl (pc' := 44) rfl ?_
   refine w_iloadN X22 hx (d3_44 hby) rfl (pc' := 45) rfl ?_
   refine w_static X22 hx (y := yn_12) hown (mvT hZ (wd_73 hw)) (mvT hZ (wd_74 hw)) (mvT hZ (wd_68 hw)) (mvT hZ (wd_75 hw)) (by decide) (backOf (W := 1) (rm_m12_16 l Z aZ hw [] t_22 kb_22 (jj1.toInt8.toInt32) T22.heap n0 (Nat.le_trans Z0 K22.1) g22_1) hZ (wd_75 hw) (wd_68 hw) (by decide) (by decide)) (by rw [hml]; rfl) [(.ref t_22), (.int (1 : Int32))] (lenOf pd_8 rfl) rfl (Nat.le_of_eq rfl) (d3_45 hby) (fun _ _ => ⟨rfl, rfl, (by decide : 2 + 0 ≤ _), (by decide : 3 + 0 ≤ _)⟩) (pc' := 48) rfl ?_
   rintro _ _ ⟨T27, L27, k27, n27⟩ X27 ⟨Lc27, hQ27, l27, y27, z27⟩
   dsimp only [Pt.U, Pt.locs, Pt.cells, Pt.slots] at X27 l27 y27 z27 hQ27 ⊢
   subst l27 y27 z27
   obtain ⟨rfl, N27q, e27⟩ := hQ27
   have N28 := Fr.app N23 N27q
   show Runs _ _ _ _ (T27.setTop (mkF m 48 #[.val (.ref a0), .val (.ref a1), .val (.int (0 : Int32)), .val (.int (1 : Int32)), .val .null, .val (.ref t_22)] [(.int (0 : Int32)), (.ref a0)]))
   have f29 : Exa Z T22.heap a0 kc0 := (E_a0.keep K22)
   have f30 : Fld Z T22.heap a0 kc0 "coder" "B" (.int (0 : Int32)) := (zz7.keep K22 nin0)
   refine w_putF X27 hx "" hZ hown (Or.inl (wd_26 hw)) Via.refl e27 f30 f29 (Or.inr ⟨(wd_22 hw), rfl, hnm⟩) (wd_7 hw) (ty := .byte) (by decide) rfl rfl (d3_48 hby) (pc' := 51) rfl ?_
   intro T31 h31 X31 e31 W31
   have f32 : Fld Z h31 a0 kc0 "coder" "B" (.int (0 : Int32)) := f30.same W31
   have K33 : Keep h0 h31 [a0] := K24.wr W31 (Or.inl (by simp))
   have N34 := Fr.snoc X31 N28 zz8
   refine w_aloadN X31 hx (d3_51 hby) rfl rfl (pc' := 52) rfl ?_
   refine w_aload X31 hx (d3_52 hby) rfl rfl (pc' := 54) rfl ?_
   have f35 : Exa Z h31 a0 kc0 := (f29.wr W31)
   have f36 : Fld Z h31 a0 kc0 "value" "[B" .null := ((zz9.keep K22 nin0).other W31 (Or.inr (slot_ne (Or.inr (wd_21 hw)) (Or.inr (wd_22 hw)) (by decide) (t := (.array .byte)) (t' := .byte) (by decide) (by decide))))
   refine w_putF X31 hx "" hZ hown (Or.inl (wd_25 hw)) Via.refl e31 f36 f35 (Or.inr ⟨(wd_21 hw), rfl, hnm⟩) (wd_7 hw) (ty := (.array .byte)) (by decide) rfl rfl (d3_54 hby) (pc' := 57) rfl ?_
   intro T37 h37 X37 e37 W37
   have f38 : Fld Z h37 a0 kc0 "value" "[B" (.ref t_22) := f36.same W37
   have K39 : Keep h0 h37 [a0] := K33.wr W37 (Or.inl (by simp))
   have N40 := Fr.snoc X37 N34 zz8
   have f41 : Exa Z h37 a0 kc0 := (f35.wr W37)
   have f42 : Fld Z h37 a0 kc0 "coder" "B" (.int (0 : Int32)) := (f32.other W37 (Or.inr (slot_ne (Or.inr (wd_22 hw)) (Or.inr (wd_21 hw)) (by decide) (t := .byte) (t' := (.array .byte)) (by decide) (by decide))))
   have ne43 : a0 ≠ t_22 := (Nat.ne_of_lt (Nat.lt_of_lt_of_le E_a0.lt (Nat.le_trans (Nat.le_refl _) g22_0)))
   have f44 : Arv Z h37 t_22 kb_22 .byte (1 : Int32) [(.int (jj1.toInt8.toInt32))] (.int (0 : Int32)) := ((g22_1.other W31 (Ne.symm ne43)).other W37 (Ne.symm ne43))
   exact w_done X37 hlk (v := none) e37 (fun _ => rfl) (fun fs hr => X37.returnOut hx hret (d3_57 hby) hr) (by decide) (by decide) (Or.inl ⟨t_22, kb_22, rfl, N40, K39, f41, f42, f38, sz26, f44, g22_2⟩)
 · have N45 := Fr.app N0 N22q
   have K46 : Keep h0 T22.heap [a0] := (Keep.refl h0 [a0]).trans K22 (all0 (P := fun x => x ∈ [a0] ∨ h0.size ≤ x))
   have ge47 : n0 ≤ t_22 := Nat.le_trans Z0 g22_0
   have sz48 : h0.size ≤ t_22 := Nat.le_trans (Nat.le_refl _) g22_0
   show Runs _ _ _ _ (T22.setTop (mkF m 39 #[.val (.ref a0), .val (.ref a1), .val (.int (0 : Int32)), .val (.int (1 : Int32)), .val .null, .unset] [(.ref t_22)]))
   refine w_astore X22 hx (d3_39 hby) rfl (L' := #[.val (.ref a0), .val (.ref a1), .val (.int (0 : Int32)), .val (.int (1 : Int32)), .val .null, .val (.ref t_22)]) rfl (pc' := 41) rfl ?_
   refine w_aloadN X22 hx (d3_41 hby) rfl rfl (pc' := 42) rfl ?_
   refine w_aload X22 hx (d3_42 hby) rfl rfl (pc' := 44) rfl ?_
   refine w_iloadN X22 hx (d3_44 hby) rfl (pc' := 45) rfl ?_
   refine w_static X22 hx (y := yn_12) hown (mvT hZ (wd_73 hw)) (mvT hZ (wd_74 hw)) (mvT hZ (wd_68 hw)) (mvT hZ (wd_75 hw)) (by decide) (backOf (W := 1) (rm_m12_17 l Z aZ hw [] t_22 kb_22 ((jj1 >>> ((0 : Int32) &&& 31)).toInt8.toInt32) ((jj1 >>> ((8 : Int32) &&& 31)).toInt8.toInt32) T22.heap n0 (Nat.le_trans Z0 K22.1) g22_1) hZ (wd_75 hw) (wd_68 hw) (by decide) (by decide)) (by rw [hml]; rfl) [(.ref t_22), (.int (1 : Int32))] (lenOf pd_8 rfl) rfl (Nat.le_of_eq rfl) (d3_45 hby) (fun _ _ => ⟨rfl, rfl, (by decide : 2 + 0 ≤ _), (by decide : 3 + 0 ≤ _)⟩) (pc' := 48) rfl ?_
   rintro _ _ ⟨T49, L49, k49, n49⟩ X49 ⟨Lc49, hQ49, l49, y49, z49⟩
   dsimp only [Pt.U, Pt.locs, Pt.cells, Pt.slots] at X49 l49 y49 z49 hQ49 ⊢
   subst l49 y49 z49
   obtain ⟨rfl, N49q, e49⟩ := hQ49
   have N50 := Fr.app N45 N49q
   show Runs _ _ _ _ (T49.setTop (mkF m 48 #[.val (.ref a0), .val (.ref a1), .val (.int (0 : Int32)), .val (.int (1 : Int32)), .val .null, .val (.ref t_22)] [(.int (1 : Int32)), (.ref a0)]))
   have f51 : Exa Z T22.heap a0 kc0 := (E_a0.keep K22)
   have f52 : Fld Z T22.heap a0 kc0 "coder" "B" (.int (0 : Int32)) := (zz7.keep K22 nin0)
   refine w_putF X49 hx "" hZ hown (Or.inl (wd_26 hw)) Via.refl e49 f52 f51 (Or.inr ⟨(wd_22 hw), rfl, hnm⟩) (wd_7 hw) (ty := .byte) (by decide) rfl rfl (d3_48 hby) (pc' := 51) rfl ?_
   intro T53 h53 X53 e53 W53
   have f54 : Fld Z h53 a0 kc0 "coder" "B" (.int (1 : Int32)) := f52.same W53
   have K55 : Keep h0 h53 [a0] := K46.wr W53 (Or.inl (by simp))
   have N56 := Fr.snoc X53 N50 zz8
   refine w_aloadN X53 hx (d3_51 hby) rfl rfl (pc' := 52) rfl ?_
   refine w_aload X53 hx (d3_52 hby) rfl rfl (pc' := 54) rfl ?_
   have f57 : Exa Z h53 a0 kc0 := (f51.wr W53)
   have f58 : Fld Z h53 a0 kc0 "value" "[B" .null := ((zz9.keep K22 nin0).other W53 (Or.inr (slot_ne (Or.inr (wd_21 hw)) (Or.inr (wd_22 hw)) (by decide) (t := (.array .byte)) (t' := .byte) (by decide) (by decide))))
   refine w_putF X53 hx "" hZ hown (Or.inl (wd_25 hw)) Via.refl e53 f58 f57 (Or.inr ⟨(wd_21 hw), rfl, hnm⟩) (wd_7 hw) (ty := (.array .byte)) (by decide) rfl rfl (d3_54 hby) (pc' := 57) rfl ?_
   intro T59 h59 X59 e59 W59
   have f60 : Fld Z h59 a0 kc0 "value" "[B" (.ref t_22) := f58.same W59
   have K61 : Keep h0 h59 [a0] := K55.wr W59 (Or.inl (by simp))
   have N62 := Fr.snoc X59 N56 zz8
   have f64 : Exa Z h59 a0 kc0 := (f57.wr W59)
   have f65 : Fld Z h59 a0 kc0 "coder" "B" (.int (1 : Int32)) := (f54.other W59 (Or.inr (slot_ne (Or.inr (wd_22 hw)) (Or.inr (wd_21 hw)) (by decide) (t := .byte) (t' := (.array .byte)) (by decide) (by decide))))
   have ne66 : a0 ≠ t_22 := (Nat.ne_of_lt (Nat.lt_of_lt_of_le E_a0.lt (Nat.le_trans (Nat.le_refl _) g22_0)))
   have f67 : Arv Z h59 t_22 kb_22 .byte (2 : Int32) [(.int ((jj1 >>> ((0 : Int32) &&& 31)).toInt8.toInt32)), (.int ((jj1 >>> ((8 : Int32) &&& 31)).toInt8.toInt32))] (.int (0 : Int32)) := ((g22_1.other W53 (Ne.symm ne66)).other W59 (Ne.symm ne66))
   exact w_done X59 hlk (v := none) e59 (fun _ => rfl) (fun fs hr => X59.returnOut hx hret (d3_57 hby) hr) (by decide) (by decide) (Or.inr (⟨t_22, kb_22, rfl, N62, K61, f64, f65, f60, sz48, f67, g22_2⟩))
theorem ef_m2_7 (m : MethodId) (a0 : Addr) (a1 : Addr)  : entryFrame m #[(.ref a0), (.ref a1)] 2 = mkF m 0 #[.val (.ref a0), .val (.ref a1)] [] := by first | (simp [entryFrame, mkF, argsToLocals, Value.category]; done) | rfl
def Q_m2_7 (Z : State) (a0 : Addr) (a1 : Addr) (k_a1 : ClassId) (jj0 : Int32) (jj1 : Int32) (h0 : Heap) (n0 : Nat) (v : Option Value) (h : Heap) (L : List Loc) : Prop := (∃ (t : Addr) (kb : ClassId), v = none ∧ Fr n0 L ∧ Keep h0 h [a0] ∧ Exa Z h a0 kc0 ∧ Fld Z h a0 kc0 "coder" "B" (.int (0 : Int32)) ∧ Fld Z h a0 kc0 "value" "[B" (.ref t) ∧ h0.size ≤ t ∧ Arv Z h t kb .byte (1 : Int32) [(.int (jj0.toInt8.toInt32))] (.int (0 : Int32)) ∧ ¬ ((255 : Int32) < jj0)) ∨ (∃ (t : Addr) (kb : ClassId), v = none ∧ Fr n0 L ∧ Keep h0 h [a0] ∧ Exa Z h a0 kc0 ∧ Fld Z h a0 kc0 "coder" "B" (.int (1 : Int32)) ∧ Fld Z h a0 kc0 "value" "[B" (.ref t) ∧ h0.size ≤ t ∧ Arv Z h t kb .byte (2 : Int32) [(.int ((jj0 >>> ((0 : Int32) &&& 31)).toInt8.toInt32)), (.int ((jj0 >>> ((8 : Int32) &&& 31)).toInt8.toInt32))] (.int (0 : Int32)) ∧ (255 : Int32) < jj0)
theorem rm_m2_7 (l : Launch) (Z : State) (aZ : Array Value) (hw : ∀ d ∈ tables_1, d.before aZ Z = true) (ws : List Jvm.Cond) (a0 : Addr) (a1 : Addr) (k_a1 : ClassId) (jj0 : Int32) (jj1 : Int32) (h0 : Heap) (n0 : Nat) (Z0 : n0 ≤ h0.size) (V_a1 : Arv Z h0 a1 k_a1 .char (1 : Int32) [(.int jj0)] (.int (0 : Int32))) (hP_1 : ¬ (jj1 = (0 : Int32))) (zz2 : nar .char jj0 = jj0) (E_a0 : Exa Z h0 a0 kc0) (zz3 : Fld Z h0 a0 kc0 "coder" "B" (.int (0 : Int32))) (zz4 : Fld Z h0 a0 kc0 "value" "[B" .null) (zz5 : Sta Z Z.heap kc0 "COMPACT_STRINGS" "Z" (.int jj1)) (O0 : Old Z n0 h0) (zz6 : Sta Z Z.heap kc1 "$assertionsDisabled" "Z" (.int (1 : Int32))) (zz7 : Sta Z Z.heap kc1 "HI_BYTE_SHIFT" "I" (.int (0 : Int32))) (zz8 : Sta Z Z.heap kc1 "LO_BYTE_SHIFT" "I" (.int (8 : Int32))) (zz9 : n0 ≤ a0) :
    MetN l Z yn_2 jdk_42_method_3_code 2 none ws ({ frames := 5, cells := 2, slots := 3, locals := 74 } : Room) #[(.ref a0), (.ref a1)] h0 (Q_m2_7 Z a0 a1 k_a1 jj0 jj1 h0 n0) := by
 refine MetN.of (plainFor_of_name pn_0) ?_
 intro p e s m below meth c s₁ hret hx hby hml hown hnm hlk hZ X0 e0
 have N0 := Fr.nil n0
 rw [ef_m2_7 m a0 a1]
 refine w_aloadN X0 hx (d2_0 hby) rfl rfl (pc' := 1) rfl ?_
 refine w_aloadN X0 hx (d2_1 hby) rfl rfl (pc' := 2) rfl ?_
 refine w_iconst X0 hx (d2_2 hby) (v := (0 : Int32)) rfl (pc' := 3) rfl ?_
 refine w_aloadN X0 hx (d2_3 hby) rfl rfl (pc' := 4) rfl ?_
 refine w_alen X0 hx hZ e0 V_a1 (d2_4 hby) (pc' := 5) rfl ?_
 refine w_null X0 hx (d2_5 hby) (pc' := 6) rfl ?_
 refine w_special X0 hx (y := yn_3) rfl hown (mvT hZ (wd_12 hw)) (mvT hZ (wd_13 hw)) (mvT hZ (wd_15 hw)) (by decide) (backOf (W := 0) (rm_m3_8 l Z aZ hw [] a0 a1 jj1 k_a1 jj0 h0 n0 Z0 zz5 O0 hP_1 V_a1 zz2 zz6 zz7 zz8 E_a0 zz3 zz9 zz4) hZ (wd_15 hw) (wd_8 hw) (by decide) (by decide)) (by rw [hml]; rfl) [(.ref a1), (.int (0 : Int32)), (.int (1 : Int32)), .null] (lenOf pd_0 rfl) rfl (Nat.le_of_eq rfl) (d2_6 hby) (fun _ _ => ⟨rfl, e0, (by decide : 0 + 2 ≤ _), (by decide : 0 + 3 ≤ _)⟩) (pc' := 9) rfl ?_
 rintro _ _ ⟨T20, L20, k20, n20⟩ X20 ⟨Lc20, hQ20, l20, y20, z20⟩
 dsimp only [Pt.U, Pt.locs, Pt.cells, Pt.slots] at X20 l20 y20 z20 hQ20 ⊢
 subst l20 y20 z20
 rcases hQ20 with ⟨t_20, kb_20, rfl, N20q, K20, g20_0, g20_1, g20_2, g20_3, g20_4, g20_5⟩ | ⟨t_20, kb_20, rfl, N20q, K20, g20_0, g20_1, g20_2, g20_3, g20_4, g20_5⟩
 · have N21 := Fr.app N0 N20q
   have K22 : Keep h0 T20.heap [a0] := (Keep.refl h0 [a0]).trans K20 (allS (Or.inl (by simp)) (all0 (P := fun x => x ∈ [a0] ∨ h0.size ≤ x)))
   have ge23 : n0 ≤ t_20 := Nat.le_trans Z0 g20_3
   have sz24 : h0.size ≤ t_20 := Nat.le_trans (Nat.le_refl _) g20_3
   show Runs _ _ _ _ (T20.setTop (mkF m 9 #[.val (.ref a0), .val (.ref a1)] []))
   exact w_done X20 hlk (v := none) rfl (fun _ => rfl) (fun fs hr => X20.returnOut hx hret (d2_9 hby) hr) (by decide) (by decide) (Or.inl ⟨t_20, kb_20, rfl, N21, K22, g20_0, g20_1, g20_2, sz24, g20_4, g20_5⟩)
 · have N25 := Fr.app N0 N20q
   have K26 : Keep h0 T20.heap [a0] := (Keep.refl h0 [a0]).trans K20 (allS (Or.inl (by simp)) (all0 (P := fun x => x ∈ [a0] ∨ h0.size ≤ x)))
   have ge27 : n0 ≤ t_20 := Nat.le_trans Z0 g20_3
   have sz28 : h0.size ≤ t_20 := Nat.le_trans (Nat.le_refl _) g20_3
   show Runs _ _ _ _ (T20.setTop (mkF m 9 #[.val (.ref a0), .val (.ref a1)] []))
   exact w_done X20 hlk (v := none) rfl (fun _ => rfl) (fun fs hr => X20.returnOut hx hret (d2_9 hby) hr) (by decide) (by decide) (Or.inr (⟨t_20, kb_20, rfl, N25, K26, g20_0, g20_1, g20_2, sz28, g20_4, g20_5⟩))
theorem ef_m11_21 (m : MethodId) (a0 : Addr) (a2 : Addr)  : entryFrame m #[(.ref a0), (.int (0 : Int32)), (.ref a2), (.int (0 : Int32)), (.int (2 : Int32))] 7 = mkF m 0 #[.val (.ref a0), .val (.int (0 : Int32)), .val (.ref a2), .val (.int (0 : Int32)), .val (.int (2 : Int32)), .unset, .unset] [] := by first | (simp [entryFrame, mkF, argsToLocals, Value.category]; done) | rfl
def Q_m11_21 (Z : State) (a0 : Addr) (a2 : Addr) (k_a0 : ClassId) (jj0 : Int32) (jj1 : Int32) (k_a2 : ClassId) (h0 : Heap) (n0 : Nat) (v : Option Value) (h : Heap) (L : List Loc) : Prop := (v = some (.int (2 : Int32)) ∧ Fr n0 L ∧ Keep h0 h [a2] ∧ Arv Z h a2 k_a2 .byte (2 : Int32) [(.int (jj0.toInt8.toInt32)), (.int (jj1.toInt8.toInt32))] (.int (0 : Int32)) ∧ ¬ ((255 : Int32) < jj0) ∧ ¬ ((255 : Int32) < jj1)) ∨ (∃ (j : Int32), v = some (.int j) ∧ Fr n0 L ∧ Keep h0 h [a2] ∧ ¬ (j < (0 : Int32)) ∧ j < (2 : Int32) ∧ (255 : Int32) < (gI [jj0, jj1, (0 : Int32), (0 : Int32)] j))
theorem rm_m11_21 (l : Launch) (Z : State) (aZ : Array Value) (hw : ∀ d ∈ tables_1, d.before aZ Z = true) (ws : List Jvm.Cond) (a0 : Addr) (a2 : Addr) (k_a0 : ClassId) (jj0 : Int32) (jj1 : Int32) (k_a2 : ClassId) (h0 : Heap) (n0 : Nat) (Z0 : n0 ≤ h0.size) (V_a0 : Arv Z h0 a0 k_a0 .char (2 : Int32) [(.int jj0), (.int jj1)] (.int (0 : Int32))) (V_a2 : Arv Z h0 a2 k_a2 .byte (2 : Int32) [(.int (0 : Int32)), (.int (0 : Int32))] (.int (0 : Int32))) (zz2 : n0 ≤ a2) (zz3 : a0 ≠ a2) :
    MetN l Z yn_11 jdk_52_method_21_code 7 (some .int) ws ({ frames := 0, cells := 0, slots := 0, locals := 0 } : Room) #[(.ref a0), (.int (0 : Int32)), (.ref a2), (.int (0 : Int32)), (.int (2 : Int32))] h0 (Q_m11_21 Z a0 a2 k_a0 jj0 jj1 k_a2 h0 n0) := by
 refine MetN.of (plainFor_of_name pn_1) ?_
 intro p e s m below meth c s₁ hret hx hby hml hown hnm hlk hZ X0 e0
 have N0 := Fr.nil n0
 rw [ef_m11_21 m a0 a2]
 refine w_iconst X0 hx (d11_0 hby) (v := (0 : Int32)) rfl (pc' := 1) rfl ?_
 refine w_istore X0 hx (d11_1 hby) (L' := #[.val (.ref a0), .val (.int (0 : Int32)), .val (.ref a2), .val (.int (0 : Int32)), .val (.int (2 : Int32)), .val (.int (0 : Int32)), .unset]) rfl (pc' := 3) rfl ?_
 refine w_iload X0 hx (d11_3 hby) rfl (pc' := 5) rfl ?_
 refine w_iload X0 hx (d11_5 hby) rfl (pc' := 7) rfl ?_
 refine w_icN X0 hx (d11_7 hby) (tlt (by decide : (0 : Int32) < (2 : Int32))).2.1 (pc' := 10) rfl ?_
 refine w_aloadN X0 hx (d11_10 hby) rfl rfl (pc' := 11) rfl ?_
 refine w_iloadN X0 hx (d11_11 hby) rfl (pc' := 12) rfl ?_
 obtain ⟨clu20, Aru20, qu20, Su20, Nu20, Hu20, Gu20⟩ := id V_a0
 have hinu20 := inb_of (j := (0 : Int32)) Su20 ⟨by decide, by decide⟩
 refine w_caload X0 hx hZ e0 Aru20 hinu20 (Hu20.at hinu20 rfl) (d11_12 hby) (pc' := 13) rfl ?_
 refine w_istore X0 hx (d11_13 hby) (L' := #[.val (.ref a0), .val (.int (0 : Int32)), .val (.ref a2), .val (.int (0 : Int32)), .val (.int (2 : Int32)), .val (.int (0 : Int32)), .val (.int jj0)]) rfl (pc' := 15) rfl ?_
 refine w_iload X0 hx (d11_15 hby) rfl (pc' := 17) rfl ?_
 refine w_sipush X0 hx (d11_17 hby) (v := (255 : Int32)) rfl (pc' := 20) rfl ?_
 by_cases hc21 : (255 : Int32) < jj0
 · refine w_icN X0 hx (d11_20 hby) (tlt hc21).2.2.2 (pc' := 23) rfl ?_
   refine w_iload X0 hx (d11_23 hby) rfl (pc' := 25) rfl ?_
   exact w_done X0 hlk (v := some (.int (0 : Int32))) e0 (fun h => by rw [hret] at h; cases h) (fun fs hr => retI X0 hx hret (d11_25 hby) hr) (by decide) (by decide) (Or.inr (⟨(0 : Int32), rfl, N0, (Keep.refl h0 [a2]), (by decide : ¬ ((0 : Int32) < (0 : Int32))), (by decide : (0 : Int32) < (2 : Int32)), (show (255 : Int32) < (gI [jj0, jj1, (0 : Int32), (0 : Int32)] (0 : Int32)) from hc21)⟩))
 · refine w_icY X0 hx (d11_20 hby) (flt hc21).2.2.2 (pc' := 26) (by decide) (by decide) ?_
   refine w_aloadN X0 hx (d11_26 hby) rfl rfl (pc' := 27) rfl ?_
   refine w_iloadN X0 hx (d11_27 hby) rfl (pc' := 28) rfl ?_
   refine w_iload X0 hx (d11_28 hby) rfl (pc' := 30) rfl ?_
   refine w_i2b X0 hx (d11_30 hby) (pc' := 31) rfl ?_
   obtain ⟨clu22, Aru22, qu22, Su22, Nu22, Hu22, Gu22⟩ := id V_a2
   have hinu22 := inb_of (j := (0 : Int32)) Su22 ⟨by decide, by decide⟩
   refine w_stB X0 hx hZ e0 Aru22 hinu22 (d11_31 hby) (pc' := 32) rfl ?_
   intro T23 h23 X23 e23 W23
   have V24 : Arv Z h23 a2 k_a2 .byte (2 : Int32) [(.int (nar .byte (jj0.toInt8.toInt32))), (.int (0 : Int32))] (.int (0 : Int32)) := Arv.set Aru22 qu22 Su22 Nu22 Hu22 Gu22 (fits_nar_byte _) W23 0 rfl (Nat.le_of_ble_eq_true rfl)
   have V25 : Arv Z h23 a2 k_a2 .byte (2 : Int32) [(.int (jj0.toInt8.toInt32)), (.int (0 : Int32))] (.int (0 : Int32)) := by rw [nar_b] at V24; exact V24
   have K26 : Keep h0 h23 [a2] := (Keep.refl h0 [a2]).wr W23 (Or.inl (by simp))
   have N27 := Fr.snoc X23 N0 zz2
   refine w_iinc X23 hx (d11_32 hby) (v := (1 : Int32)) rfl rfl (L' := #[.val (.ref a0), .val (.int ((0 : Int32) + (1 : Int32))), .val (.ref a2), .val (.int (0 : Int32)), .val (.int (2 : Int32)), .val (.int (0 : Int32)), .val (.int jj0)]) rfl (pc' := 35) rfl ?_
   rw [show ((0 : Int32) + (1 : Int32)) = (1 : Int32) from by decide]
   refine w_iinc X23 hx (d11_35 hby) (v := (1 : Int32)) rfl rfl (L' := #[.val (.ref a0), .val (.int (1 : Int32)), .val (.ref a2), .val (.int ((0 : Int32) + (1 : Int32))), .val (.int (2 : Int32)), .val (.int (0 : Int32)), .val (.int jj0)]) rfl (pc' := 38) rfl ?_
   rw [show ((0 : Int32) + (1 : Int32)) = (1 : Int32) from by decide]
   refine w_iinc X23 hx (d11_38 hby) (v := (1 : Int32)) rfl rfl (L' := #[.val (.ref a0), .val (.int (1 : Int32)), .val (.ref a2), .val (.int (1 : Int32)), .val (.int (2 : Int32)), .val (.int ((0 : Int32) + (1 : Int32))), .val (.int jj0)]) rfl (pc' := 41) rfl ?_
   rw [show ((0 : Int32) + (1 : Int32)) = (1 : Int32) from by decide]
   refine w_goto X23 hx (d11_41 hby) (pc' := 3) (by decide) (by decide) ?_
   refine w_iload X23 hx (d11_3 hby) rfl (pc' := 5) rfl ?_
   refine w_iload X23 hx (d11_5 hby) rfl (pc' := 7) rfl ?_
   refine w_icN X23 hx (d11_7 hby) (tlt (by decide : (1 : Int32) < (2 : Int32))).2.1 (pc' := 10) rfl ?_
   refine w_aloadN X23 hx (d11_10 hby) rfl rfl (pc' := 11) rfl ?_
   refine w_iloadN X23 hx (d11_11 hby) rfl (pc' := 12) rfl ?_
   have f28 : Arv Z h23 a0 k_a0 .char (2 : Int32) [(.int jj0), (.int jj1)] (.int (0 : Int32)) := (V_a0.other W23 zz3)
   obtain ⟨clu29, Aru29, qu29, Su29, Nu29, Hu29, Gu29⟩ := id f28
   have hinu29 := inb_of (j := (1 : Int32)) Su29 ⟨by decide, by decide⟩
   refine w_caload X23 hx hZ e23 Aru29 hinu29 (Hu29.at hinu29 rfl) (d11_12 hby) (pc' := 13) rfl ?_
   refine w_istore X23 hx (d11_13 hby) (L' := #[.val (.ref a0), .val (.int (1 : Int32)), .val (.ref a2), .val (.int (1 : Int32)), .val (.int (2 : Int32)), .val (.int (1 : Int32)), .val (.int jj1)]) rfl (pc' := 15) rfl ?_
   refine w_iload X23 hx (d11_15 hby) rfl (pc' := 17) rfl ?_
   refine w_sipush X23 hx (d11_17 hby) (v := (255 : Int32)) rfl (pc' := 20) rfl ?_
   by_cases hc30 : (255 : Int32) < jj1
   · refine w_icN X23 hx (d11_20 hby) (tlt hc30).2.2.2 (pc' := 23) rfl ?_
     refine w_iload X23 hx (d11_23 hby) rfl (pc' := 25) rfl ?_
     exact w_done X23 hlk (v := some (.int (1 : Int32))) e23 (fun h => by rw [hret] at h; cases h) (fun fs hr => retI X23 hx hret (d11_25 hby) hr) (by decide) (by decide) (Or.inr (⟨(1 : Int32), rfl, N27, K26, (by decide : ¬ ((1 : Int32) < (0 : Int32))), (by decide : (1 : Int32) < (2 : Int32)), (show (255 : Int32) < (gI [jj0, jj1, (0 : Int32), (0 : Int32)] (1 : Int32)) from hc30)⟩))
   · refine w_icY X23 hx (d11_20 hby) (flt hc30).2.2.2 (pc' := 26) (by decide) (by decide) ?_
     refine w_aloadN X23 hx (d11_26 hby) rfl rfl (pc' := 27) rfl ?_
     refine w_iloadN X23 hx (d11_27 hby) rfl (pc' := 28) rfl ?_
     refine w_iload X23 hx (d11_28 hby) rfl (pc' := 30) rfl ?_
     refine w_i2b X23 hx (d11_30 hby) (pc' := 31) rfl ?_
     obtain ⟨clu31, Aru31, qu31, Su31, Nu31, Hu31, Gu31⟩ := id V25
     have hinu31 := inb_of (j := (1 : Int32)) Su31 ⟨by decide, by decide⟩
     refine w_stB X23 hx hZ e23 Aru31 hinu31 (d11_31 hby) (pc' := 32) rfl ?_
     intro T32 h32 X32 e32 W32
     have V33 : Arv Z h32 a2 k_a2 .byte (2 : Int32) [(.int (jj0.toInt8.toInt32)), (.int (nar .byte (jj1.toInt8.toInt32)))] (.int (0 : Int32)) := Arv.set Aru31 qu31 Su31 Nu31 Hu31 Gu31 (fits_nar_byte _) W32 1 rfl (Nat.le_of_ble_eq_true rfl)
     have V34 : Arv Z h32 a2 k_a2 .byte (2 : Int32) [(.int (jj0.toInt8.toInt32)), (.int (jj1.toInt8.toInt32))] (.int (0 : Int32)) := by rw [nar_b] at V33; exact V33
     have K35 : Keep h0 h32 [a2] := K26.wr W32 (Or.inl (by simp))
     have N36 := Fr.snoc X32 N27 zz2
     refine w_iinc X32 hx (d11_32 hby) (v := (1 : Int32)) rfl rfl (L' := #[.val (.ref a0), .val (.int ((1 : Int32) + (1 : Int32))), .val (.ref a2), .val (.int (1 : Int32)), .val (.int (2 : Int32)), .val (.int (1 : Int32)), .val (.int jj1)]) rfl (pc' := 35) rfl ?_
     rw [show ((1 : Int32) + (1 : Int32)) = (2 : Int32) from by decide]
     refine w_iinc X32 hx (d11_35 hby) (v := (1 : Int32)) rfl rfl (L' := #[.val (.ref a0), .val (.int (2 : Int32)), .val (.ref a2), .val (.int ((1 : Int32) + (1 : Int32))), .val (.int (2 : Int32)), .val (.int (1 : Int32)), .val (.int jj1)]) rfl (pc' := 38) rfl ?_
     rw [show ((1 : Int32) + (1 : Int32)) = (2 : Int32) from by decide]
     refine w_iinc X32 hx (d11_38 hby) (v := (1 : Int32)) rfl rfl (L' := #[.val (.ref a0), .val (.int (2 : Int32)), .val (.ref a2), .val (.int (2 : Int32)), .val (.int (2 : Int32)), .val (.int ((1 : Int32) + (1 : Int32))), .val (.int jj1)]) rfl (pc' := 41) rfl ?_
     rw [show ((1 : Int32) + (1 : Int32)) = (2 : Int32) from by decide]
     refine w_goto X32 hx (d11_41 hby) (pc' := 3) (by decide) (by decide) ?_
     refine w_iload X32 hx (d11_3 hby) rfl (pc' := 5) rfl ?_
     refine w_iload X32 hx (d11_5 hby) rfl (pc' := 7) rfl ?_
     refine w_icY X32 hx (d11_7 hby) (flt (by decide : ¬ ((2 : Int32) < (2 : Int32)))).2.1 (pc' := 44) (by decide) (by decide) ?_
     refine w_iload X32 hx (d11_44 hby) rfl (pc' := 46) rfl ?_
     exact w_done X32 hlk (v := some (.int (2 : Int32))) e32 (fun h => by rw [hret] at h; cases h) (fun fs hr => retI X32 hx hret (d11_46 hby) hr) (by decide) (by decide) (Or.inl ⟨rfl, N36, K35, V34, hc21, hc30⟩)
theorem ef_m20_24 (m : MethodId)   : entryFrame m #[(.int (2 : Int32))] 1 = mkF m 0 #[.val (.int (2 : Int32))] [] := by first | (simp [entryFrame, mkF, argsToLocals, Value.category]; done) | rfl
def Q_m20_24 (Z : State)  (h0 : Heap) (n0 : Nat) (v : Option Value) (h : Heap) (L : List Loc) : Prop := v = some (.int (4 : Int32)) ∧ Fr n0 L ∧ h = h0
theorem rm_m20_24 (l : Launch) (Z : State) (aZ : Array Value) (hw : ∀ d ∈ tables_1, d.before aZ Z = true) (ws : List Jvm.Cond)  (h0 : Heap) (n0 : Nat) (Z0 : n0 ≤ h0.size) :
    MetN l Z yn_20 jdk_52_method_3_code 1 (some .int) ws ({ frames := 0, cells := 0, slots := 0, locals := 0 } : Room) #[(.int (2 : Int32))] h0 (Q_m20_24 Z  h0 n0) := by
 refine MetN.of (plainFor_of_name pn_1) ?_
 intro p e s m below meth c s₁ hret hx hby hml hown hnm hlk hZ X0 e0
 have N0 := Fr.nil n0
 rw [ef_m20_24 m ]
 refine w_iloadN X0 hx (d20_0 hby) rfl (pc' := 1) rfl ?_
 refine w_ifY X0 hx (d20_1 hby) (flt (by decide : ¬ ((2 : Int32) < (0 : Int32)))).2.1 (pc' := 12) (by decide) (by decide) ?_
 refine w_iloadN X0 hx (d20_12 hby) rfl (pc' := 13) rfl ?_
 refine w_ldcI X0 hx hZ hown (wd_107 hw) (d20_13 hby) (pc' := 15) rfl ?_
 refine w_icY X0 hx (d20_15 hby) (tlt (by decide : (2 : Int32) < (1073741823 : Int32))).1 (pc' := 55) (by decide) (by decide) ?_
 refine w_iloadN X0 hx (d20_55 hby) rfl (pc' := 56) rfl ?_
 refine w_iconst X0 hx (d20_56 hby) (v := (1 : Int32)) rfl (pc' := 57) rfl ?_
 refine w_ishl X0 hx (d20_57 hby) (pc' := 58) rfl ?_
 rw [show ((2 : Int32) <<< ((1 : Int32) &&& 31)) = (4 : Int32) from by decide]
 exact w_done X0 hlk (v := some (.int (4 : Int32))) e0 (fun h => by rw [hret] at h; cases h) (fun fs hr => retI X0 hx hret (d20_58 hby) hr) (by decide) (by decide) (⟨rfl, N0, rfl⟩)
theorem ef_m19_23 (m : MethodId)   : entryFrame m #[(.int (2 : Int32))] 1 = mkF m 0 #[.val (.int (2 : Int32))] [] := by first | (simp [entryFrame, mkF, argsToLocals, Value.category]; done) | rfl
def Q_m19_23 (Z : State)  (h0 : Heap) (n0 : Nat) (v : Option Value) (h : Heap) (L : List Loc) : Prop := ∃ (r0 : Addr) (c0 : ClassId), v = some (.ref r0) ∧ Fr n0 L ∧ Keep h0 h [] ∧ h0.size ≤ r0 ∧ Arv Z h r0 c0 .byte (4 : Int32) [(.int (0 : Int32)), (.int (0 : Int32)), (.int (0 : Int32)), (.int (0 : Int32))] (.int (0 : Int32))
theorem rm_m19_23 (l : Launch) (Z : State) (aZ : Array Value) (hw : ∀ d ∈ tables_1, d.before aZ Z = true) (ws : List Jvm.Cond)  (h0 : Heap) (n0 : Nat) (Z0 : n0 ≤ h0.size) :
    MetN l Z yn_19 jdk_52_method_2_code 1 (some (.array .byte)) ws ({ frames := 1, cells := 1, slots := 4, locals := 12 } : Room) #[(.int (2 : Int32))] h0 (Q_m19_23 Z  h0 n0) := by
 refine MetN.of (plainFor_of_name pn_1) ?_
 intro p e s m below meth c s₁ hret hx hby hml hown hnm hlk hZ X0 e0
 have N0 := Fr.nil n0
 rw [ef_m19_23 m ]
 refine w_iloadN X0 hx (d19_0 hby) rfl (pc' := 1) rfl ?_
 refine w_static X0 hx (y := yn_20) hown (mvT hZ (wd_104 hw)) (mvT hZ (wd_105 hw)) (mvT hZ (wd_68 hw)) (mvT hZ (wd_106 hw)) (by decide) (backOf (W := 0) (rm_m20_24 l Z aZ hw []  h0 n0 Z0 ) hZ (wd_106 hw) (wd_68 hw) (by decide) (by decide)) (by rw [hml]; rfl) [(.int (2 : Int32))] (lenOf pd_3 rfl) rfl (Nat.le_of_eq rfl) (d19_1 hby) (fun _ _ => ⟨rfl, e0, (by decide : 0 + 0 ≤ _), (by decide : 0 + 0 ≤ _)⟩) (pc' := 4) rfl ?_
 rintro _ _ ⟨T20, L20, k20, n20⟩ X20 ⟨Lc20, hQ20, l20, y20, z20⟩
 dsimp only [Pt.U, Pt.locs, Pt.cells, Pt.slots] at X20 l20 y20 z20 hQ20 ⊢
 subst l20 y20 z20
 obtain ⟨rfl, N20q, e20⟩ := hQ20
 have N21 := Fr.app N0 N20q
 show Runs _ _ _ _ (T20.setTop (mkF m 4 #[.val (.int (2 : Int32))] [(.int (4 : Int32))]))
 refine w_newP X20 hx .byte .byte 4 rfl hZ (wd_20 hw) e20 (d19_4 hby) (by decide) (by decide) (by decide) (by decide) (by decide) (pc' := 6) rfl ?_
 intro T22 h22 k22 b22 X22 e22 E22 g22 A22
 have ge23 : n0 ≤ b22 := Nat.le_trans Z0 (Nat.le_of_eq g22.symm)
 have sz24 : h0.size ≤ b22 := Nat.le_trans (Nat.le_refl _) (Nat.le_of_eq g22.symm)
 have K25 : Keep h0 h22 [] := (Keep.refl h0 []).ext E22
 have V26 : Arv Z h22 b22 k22 .byte (4 : Int32) [(.int (0 : Int32)), (.int (0 : Int32)), (.int (0 : Int32)), (.int (0 : Int32))] (.int (0 : Int32)) := (Arv.new A22 (by decide)).pad (pad_rep [] (.int (0 : Int32)) 4)
 exact w_done X22 hlk (v := some (.ref b22)) e22 (fun h => by rw [hret] at h; cases h) (fun fs hr => retOut X22 hx hret rfl (Or.inr (Or.inr (Or.inr (Or.inr ⟨rfl, rfl, rfl⟩)))) (d19_6 hby) hr) (by decide) (by decide) (⟨b22, k22, rfl, N21, K25, sz24, V26⟩)
theorem ef_m21_25 (m : MethodId) (a0 : Addr) (p2 : Int32)  : entryFrame m #[(.ref a0), (.int (0 : Int32)), (.int p2)] 3 = mkF m 0 #[.val (.ref a0), .val (.int (0 : Int32)), .val (.int p2)] [] := by first | (simp [entryFrame, mkF, argsToLocals, Value.category]; done) | rfl
def Q_m21_25 (Z : State) (a0 : Addr) (p2 : Int32) (k_a0 : ClassId) (h0 : Heap) (n0 : Nat) (v : Option Value) (h : Heap) (L : List Loc) : Prop := v = none ∧ Fr n0 L ∧ Keep h0 h [a0] ∧ Arv Z h a0 k_a0 .byte (4 : Int32) [(.int ((p2 >>> ((0 : Int32) &&& 31)).toInt8.toInt32)), (.int ((p2 >>> ((8 : Int32) &&& 31)).toInt8.toInt32)), (.int (0 : Int32)), (.int (0 : Int32))] (.int (0 : Int32))
theorem rm_m21_25 (l : Launch) (Z : State) (aZ : Array Value) (hw : ∀ d ∈ tables_1, d.before aZ Z = true) (ws : List Jvm.Cond) (a0 : Addr) (p2 : Int32) (k_a0 : ClassId) (h0 : Heap) (n0 : Nat) (Z0 : n0 ≤ h0.size) (zz0 : Sta Z Z.heap kc1 "$assertionsDisabled" "Z" (.int (1 : Int32))) (O0 : Old Z n0 h0) (zz1 : Sta Z Z.heap kc1 "HI_BYTE_SHIFT" "I" (.int (0 : Int32))) (V_a0 : Arv Z h0 a0 k_a0 .byte (4 : Int32) [(.int (0 : Int32)), (.int (0 : Int32)), (.int (0 : Int32)), (.int (0 : Int32))] (.int (0 : Int32))) (zz2 : n0 ≤ a0) (zz3 : Sta Z Z.heap kc1 "LO_BYTE_SHIFT" "I" (.int (8 : Int32))) :
    MetN l Z yn_21 jdk_52_method_4_code 3 none ws ({ frames := 0, cells := 0, slots := 0, locals := 0 } : Room) #[(.ref a0), (.int (0 : Int32)), (.int p2)] h0 (Q_m21_25 Z a0 p2 k_a0 h0 n0) := by
 refine MetN.of (plainFor_of_name pn_1) ?_
 intro p e s m below meth c s₁ hret hx hby hml hown hnm hlk hZ X0 e0
 have N0 := Fr.nil n0
 rw [ef_m21_25 m a0 p2]
 refine w_getS X0 hx "" hZ hown (Or.inl (wd_111 hw)) Via.refl e0 (zz0.ext O0.2) (d21_0 hby) (pc' := 3) rfl ?_
 intro T20 X20 e20
 refine w_ifY X20 hx (d21_3 hby) (feq (by decide : ¬ ((1 : Int32) = (0 : Int32)))).2 (pc' := 28) (by decide) (by decide) ?_
 refine w_iloadN X20 hx (d21_28 hby) rfl (pc' := 29) rfl ?_
 refine w_iconst X20 hx (d21_29 hby) (v := (1 : Int32)) rfl (pc' := 30) rfl ?_
 refine w_ishl X20 hx (d21_30 hby) (pc' := 31) rfl ?_
 rw [show ((0 : Int32) <<< ((1 : Int32) &&& 31)) = (0 : Int32) from by decide]
 refine w_istoreN X20 hx (d21_31 hby) (L' := #[.val (.ref a0), .val (.int (0 : Int32)), .val (.int p2)]) rfl (pc' := 32) rfl ?_
 refine w_aloadN X20 hx (d21_32 hby) rfl rfl (pc' := 33) rfl ?_
 refine w_iloadN X20 hx (d21_33 hby) rfl (pc' := 34) rfl ?_
 refine w_iinc X20 hx (d21_34 hby) (v := (1 : Int32)) rfl rfl (L' := #[.val (.ref a0), .val (.int ((0 : Int32) + (1 : Int32))), .val (.int p2)]) rfl (pc' := 37) rfl ?_
 rw [show ((0 : Int32) + (1 : Int32)) = (1 : Int32) from by decide]
 refine w_iloadN X20 hx (d21_37 hby) rfl (pc' := 38) rfl ?_
 refine w_getS X20 hx "" hZ hown (Or.inl (wd_112 hw)) Via.refl e20 (zz1.ext O0.2) (d21_38 hby) (pc' := 41) rfl ?_
 intro T21 X21 e21
 refine w_ishr X21 hx (d21_41 hby) (pc' := 42) rfl ?_
 refine w_i2b X21 hx (d21_42 hby) (pc' := 43) rfl ?_
 obtain ⟨clu22, Aru22, qu22, Su22, Nu22, Hu22, Gu22⟩ := id V_a0
 have hinu22 := inb_of (j := (0 : Int32)) Su22 ⟨by decide, by decide⟩
 refine w_stB X21 hx hZ e21 Aru22 hinu22 (d21_43 hby) (pc' := 44) rfl ?_
 intro T23 h23 X23 e23 W23
 have V24 : Arv Z h23 a0 k_a0 .byte (4 : Int32) [(.int (nar .byte ((p2 >>> ((0 : Int32) &&& 31)).toInt8.toInt32))), (.int (0 : Int32)), (.int (0 : Int32)), (.int (0 : Int32))] (.int (0 : Int32)) := Arv.set Aru22 qu22 Su22 Nu22 Hu22 Gu22 (fits_nar_byte _) W23 0 rfl (Nat.le_of_ble_eq_true rfl)
 have V25 : Arv Z h23 a0 k_a0 .byte (4 : Int32) [(.int ((p2 >>> ((0 : Int32) &&& 31)).toInt8.toInt32)), (.int (0 : Int32)), (.int (0 : Int32)), (.int (0 : Int32))] (.int (0 : Int32)) := by rw [nar_b] at V24; exact V24
 have K26 : Keep h0 h23 [a0] := (Keep.refl h0 [a0]).wr W23 (Or.inl (by simp))
 have N27 := Fr.snoc X23 N0 zz2
 refine w_aloadN X23 hx (d21_44 hby) rfl rfl (pc' := 45) rfl ?_
 refine w_iloadN X23 hx (d21_45 hby) rfl (pc' := 46) rfl ?_
 refine w_iloadN X23 hx (d21_46 hby) rfl (pc' := 47) rfl ?_
 have f28 : Old Z n0 h23 := (O0.wr W23 zz2)
 refine w_getS X23 hx "" hZ hown (Or.inl (wd_113 hw)) Via.refl e23 (zz3.ext f28.2) (d21_47 hby) (pc' := 50) rfl ?_
 intro T29 X29 e29
 refine w_ishr X29 hx (d21_50 hby) (pc' := 51) rfl ?_
 refine w_i2b X29 hx (d21_51 hby) (pc' := 52) rfl ?_
 obtain ⟨clu30, Aru30, qu30, Su30, Nu30, Hu30, Gu30⟩ := id V25
 have hinu30 := inb_of (j := (1 : Int32)) Su30 ⟨by decide, by decide⟩
 refine w_stB X29 hx hZ e29 Aru30 hinu30 (d21_52 hby) (pc' := 53) rfl ?_
 intro T31 h31 X31 e31 W31
 have V32 : Arv Z h31 a0 k_a0 .byte (4 : Int32) [(.int ((p2 >>> ((0 : Int32) &&& 31)).toInt8.toInt32)), (.int (nar .byte ((p2 >>> ((8 : Int32) &&& 31)).toInt8.toInt32))), (.int (0 : Int32)), (.int (0 : Int32))] (.int (0 : Int32)) := Arv.set Aru30 qu30 Su30 Nu30 Hu30 Gu30 (fits_nar_byte _) W31 1 rfl (Nat.le_of_ble_eq_true rfl)
 have V33 : Arv Z h31 a0 k_a0 .byte (4 : Int32) [(.int ((p2 >>> ((0 : Int32) &&& 31)).toInt8.toInt32)), (.int ((p2 >>> ((8 : Int32) &&& 31)).toInt8.toInt32)), (.int (0 : Int32)), (.int (0 : Int32))] (.int (0 : Int32)) := by rw [nar_b] at V32; exact V32
 have K34 : Keep h0 h31 [a0] := K26.wr W31 (Or.inl (by simp))
 have N35 := Fr.snoc X31 N27 zz2
 exact w_done X31 hlk (v := none) e31 (fun _ => rfl) (fun fs hr => X31.returnOut hx hret (d21_53 hby) hr) (by decide) (by decide) (⟨rfl, N35, K34, V33⟩)
theorem ef_m21_26 (m : MethodId) (a0 : Addr) (p2 : Int32)  : entryFrame m #[(.ref a0), (.int (1 : Int32)), (.int p2)] 3 = mkF m 0 #[.val (.ref a0), .val (.int (1 : Int32)), .val (.int p2)] [] := by first | (simp [entryFrame, mkF, argsToLocals, Value.category]; done) | rfl
def Q_m21_26 (Z : State) (a0 : Addr) (p2 : Int32) (k_a0 : ClassId) (jj0 : Int32) (jj1 : Int32) (h0 : Heap) (n0 : Nat) (v : Option Value) (h : Heap) (L : List Loc) : Prop := v = none ∧ Fr n0 L ∧ Keep h0 h [a0] ∧ Arv Z h a0 k_a0 .byte (4 : Int32) [(.int jj0), (.int jj1), (.int ((p2 >>> ((0 : Int32) &&& 31)).toInt8.toInt32)), (.int ((p2 >>> ((8 : Int32) &&& 31)).toInt8.toInt32))] (.int (0 : Int32))
theorem rm_m21_26 (l : Launch) (Z : State) (aZ : Array Value) (hw : ∀ d ∈ tables_1, d.before aZ Z = true) (ws : List Jvm.Cond) (a0 : Addr) (p2 : Int32) (k_a0 : ClassId) (jj0 : Int32) (jj1 : Int32) (h0 : Heap) (n0 : Nat) (Z0 : n0 ≤ h0.size) (zz2 : Sta Z Z.heap kc1 "$assertionsDisabled" "Z" (.int (1 : Int32))) (O0 : Old Z n0 h0) (zz3 : Sta Z Z.heap kc1 "HI_BYTE_SHIFT" "I" (.int (0 : Int32))) (V_a0 : Arv Z h0 a0 k_a0 .byte (4 : Int32) [(.int jj0), (.int jj1), (.int (0 : Int32)), (.int (0 : Int32))] (.int (0 : Int32))) (zz4 : n0 ≤ a0) (zz5 : Sta Z Z.heap kc1 "LO_BYTE_SHIFT" "I" (.int (8 : Int32))) :
    MetN l Z yn_21 jdk_52_method_4_code 3 none ws ({ frames := 0, cells := 0, slots := 0, locals := 0 } : Room) #[(.ref a0), (.int (1 : Int32)), (.int p2)] h0 (Q_m21_26 Z a0 p2 k_a0 jj0 jj1 h0 n0) := by
 refine MetN.of (plainFor_of_name pn_1) ?_
 intro p e s m below meth c s₁ hret hx hby hml hown hnm hlk hZ X0 e0
 have N0 := Fr.nil n0
 rw [ef_m21_26 m a0 p2]
 refine w_getS X0 hx "" hZ hown (Or.inl (wd_111 hw)) Via.refl e0 (zz2.ext O0.2) (d21_0 hby) (pc' := 3) rfl ?_
 intro T20 X20 e20
 refine w_ifY X20 hx (d21_3 hby) (feq (by decide : ¬ ((1 : Int32) = (0 : Int32)))).2 (pc' := 28) (by decide) (by decide) ?_
 refine w_iloadN X20 hx (d21_28 hby) rfl (pc' := 29) rfl ?_
 refine w_iconst X20 hx (d21_29 hby) (v := (1 : Int32)) rfl (pc' := 30) rfl ?_
 refine w_ishl X20 hx (d21_30 hby) (pc' := 31) rfl ?_
 rw [show ((1 : Int32) <<< ((1 : Int32) &&& 31)) = (2 : Int32) from by decide]
 refine w_istoreN X20 hx (d21_31 hby) (L' := #[.val (.ref a0), .val (.int (2 : Int32)), .val (.int p2)]) rfl (pc' := 32) rfl ?_
 refine w_aloadN X20 hx (d21_32 hby) rfl rfl (pc' := 33) rfl ?_
 refine w_iloadN X20 hx (d21_33 hby) rfl (pc' := 34) rfl ?_
 refine w_iinc X20 hx (d21_34 hby) (v := (1 : Int32)) rfl rfl (L' := #[.val (.ref a0), .val (.int ((2 : Int32) + (1 : Int32))), .val (.int p2)]) rfl (pc' := 37) rfl ?_
 rw [show ((2 : Int32) + (1 : Int32)) = (3 : Int32) from by decide]
 refine w_iloadN X20 hx (d21_37 hby) rfl (pc' := 38) rfl ?_
 refine w_getS X20 hx "" hZ hown (Or.inl (wd_112 hw)) Via.refl e20 (zz3.ext O0.2) (d21_38 hby) (pc' := 41) rfl ?_
 intro T21 X21 e21
 refine w_ishr X21 hx (d21_41 hby) (pc' := 42) rfl ?_
 refine w_i2b X21 hx (d21_42 hby) (pc' := 43) rfl ?_
 obtain ⟨clu22, Aru22, qu22, Su22, Nu22, Hu22, Gu22⟩ := id V_a0
 have hinu22 := inb_of (j := (2 : Int32)) Su22 ⟨by decide, by decide⟩
 refine w_stB X21 hx hZ e21 Aru22 hinu22 (d21_43 hby) (pc' := 44) rfl ?_
 intro T23 h23 X23 e23 W23
 have V24 : Arv Z h23 a0 k_a0 .byte (4 : Int32) [(.int jj0), (.int jj1), (.int (nar .byte ((p2 >>> ((0 : Int32) &&& 31)).toInt8.toInt32))), (.int (0 : Int32))] (.int (0 : Int32)) := Arv.set Aru22 qu22 Su22 Nu22 Hu22 Gu22 (fits_nar_byte _) W23 2 rfl (Nat.le_of_ble_eq_true rfl)
 have V25 : Arv Z h23 a0 k_a0 .byte (4 : Int32) [(.int jj0), (.int jj1), (.int ((p2 >>> ((0 : Int32) &&& 31)).toInt8.toInt32)), (.int (0 : Int32))] (.int (0 : Int32)) := by rw [nar_b] at V24; exact V24
 have K26 : Keep h0 h23 [a0] := (Keep.refl h0 [a0]).wr W23 (Or.inl (by simp))
 have N27 := Fr.snoc X23 N0 zz4
 refine w_aloadN X23 hx (d21_44 hby) rfl rfl (pc' := 45) rfl ?_
 refine w_iloadN X23 hx (d21_45 hby) rfl (pc' := 46) rfl ?_
 refine w_iloadN X23 hx (d21_46 hby) rfl (pc' := 47) rfl ?_
 have f28 : Old Z n0 h23 := (O0.wr W23 zz4)
 refine w_getS X23 hx "" hZ hown (Or.inl (wd_113 hw)) Via.refl e23 (zz5.ext f28.2) (d21_47 hby) (pc' := 50) rfl ?_
 intro T29 X29 e29
 refine w_ishr X29 hx (d21_50 hby) (pc' := 51) rfl ?_
 refine w_i2b X29 hx (d21_51 hby) (pc' := 52) rfl ?_
 obtain ⟨clu30, Aru30, qu30, Su30, Nu30, Hu30, Gu30⟩ := id V25
 have hinu30 := inb_of (j := (3 : Int32)) Su30 ⟨by decide, by decide⟩
 refine w_stB X29 hx hZ e29 Aru30 hinu30 (d21_52 hby) (pc' := 53) rfl ?_
 intro T31 h31 X31 e31 W31
 have V32 : Arv Z h31 a0 k_a0 .byte (4 : Int32) [(.int jj0), (.int jj1), (.int ((p2 >>> ((0 : Int32) &&& 31)).toInt8.toInt32)), (.int (nar .byte ((p2 >>> ((8 : Int32) &&& 31)).toInt8.toInt32)))] (.int (0 : Int32)) := Arv.set Aru30 qu30 Su30 Nu30 Hu30 Gu30 (fits_nar_byte _) W31 3 rfl (Nat.le_of_ble_eq_true rfl)
 have V33 : Arv Z h31 a0 k_a0 .byte (4 : Int32) [(.int jj0), (.int jj1), (.int ((p2 >>> ((0 : Int32) &&& 31)).toInt8.toInt32)), (.int ((p2 >>> ((8 : Int32) &&& 31)).toInt8.toInt32))] (.int (0 : Int32)) := by rw [nar_b] at V32; exact V32
 have K34 : Keep h0 h31 [a0] := K26.wr W31 (Or.inl (by simp))
 have N35 := Fr.snoc X31 N27 zz4
 exact w_done X31 hlk (v := none) e31 (fun _ => rfl) (fun fs hr => X31.returnOut hx hret (d21_53 hby) hr) (by decide) (by decide) (⟨rfl, N35, K34, V33⟩)
theorem ef_m18_22 (m : MethodId) (a0 : Addr)  : entryFrame m #[(.ref a0), (.int (0 : Int32)), (.int (2 : Int32))] 5 = mkF m 0 #[.val (.ref a0), .val (.int (0 : Int32)), .val (.int (2 : Int32)), .unset, .unset] [] := by first | (simp [entryFrame, mkF, argsToLocals, Value.category]; done) | rfl
def Q_m18_22 (Z : State) (a0 : Addr) (k_a0 : ClassId) (jj0 : Int32) (jj1 : Int32) (h0 : Heap) (n0 : Nat) (v : Option Value) (h : Heap) (L : List Loc) : Prop := ∃ (r0 : Addr) (c0 : ClassId), v = some (.ref r0) ∧ Fr n0 L ∧ Keep h0 h [] ∧ h0.size ≤ r0 ∧ Arv Z h r0 c0 .byte (4 : Int32) [(.int ((jj0 >>> ((0 : Int32) &&& 31)).toInt8.toInt32)), (.int ((jj0 >>> ((8 : Int32) &&& 31)).toInt8.toInt32)), (.int ((jj1 >>> ((0 : Int32) &&& 31)).toInt8.toInt32)), (.int ((jj1 >>> ((8 : Int32) &&& 31)).toInt8.toInt32))] (.int (0 : Int32))
theorem rm_m18_22 (l : Launch) (Z : State) (aZ : Array Value) (hw : ∀ d ∈ tables_1, d.before aZ Z = true) (ws : List Jvm.Cond) (a0 : Addr) (k_a0 : ClassId) (jj0 : Int32) (jj1 : Int32) (h0 : Heap) (n0 : Nat) (Z0 : n0 ≤ h0.size) (V_a0 : Arv Z h0 a0 k_a0 .char (2 : Int32) [(.int jj0), (.int jj1)] (.int (0 : Int32))) (zz2 : Sta Z Z.heap kc1 "$assertionsDisabled" "Z" (.int (1 : Int32))) (O0 : Old Z n0 h0) (zz3 : Sta Z Z.heap kc1 "HI_BYTE_SHIFT" "I" (.int (0 : Int32))) (zz4 : Sta Z Z.heap kc1 "LO_BYTE_SHIFT" "I" (.int (8 : Int32))) :
    MetN l Z yn_18 jdk_52_method_14_code 5 (some (.array .byte)) ws ({ frames := 2, cells := 1, slots := 4, locals := 24 } : Room) #[(.ref a0), (.int (0 : Int32)), (.int (2 : Int32))] h0 (Q_m18_22 Z a0 k_a0 jj0 jj1 h0 n0) := by
 refine MetN.of (plainFor_of_name pn_1) ?_
 intro p e s m below meth c s₁ hret hx hby hml hown hnm hlk hZ X0 e0
 have N0 := Fr.nil n0
 rw [ef_m18_22 m a0]
 refine w_iloadN X0 hx (d18_0 hby) rfl (pc' := 1) rfl ?_
 refine w_static X0 hx (y := yn_19) hown (mvT hZ (wd_101 hw)) (mvT hZ (wd_102 hw)) (mvT hZ (wd_68 hw)) (mvT hZ (wd_103 hw)) (by decide) (backOf (W := 0) (rm_m19_23 l Z aZ hw []  h0 n0 Z0 ) hZ (wd_103 hw) (wd_68 hw) (by decide) (by decide)) (by rw [hml]; rfl) [(.int (2 : Int32))] (lenOf pd_4 rfl) rfl (Nat.le_of_eq rfl) (d18_1 hby) (fun _ _ => ⟨rfl, e0, (by decide : 0 + 1 ≤ _), (by decide : 0 + 4 ≤ _)⟩) (pc' := 4) rfl ?_
 rintro _ _ ⟨T20, L20, k20, n20⟩ X20 ⟨Lc20, hQ20, l20, y20, z20⟩
 dsimp only [Pt.U, Pt.locs, Pt.cells, Pt.slots] at X20 l20 y20 z20 hQ20 ⊢
 subst l20 y20 z20
 obtain ⟨r0_20, c0_20, rfl, N20q, K20, g20_0, g20_1⟩ := hQ20
 have N21 := Fr.app N0 N20q
 have K22 : Keep h0 T20.heap [] := (Keep.refl h0 []).trans K20 (all0 (P := fun x => x ∈ [] ∨ h0.size ≤ x))
 have ge23 : n0 ≤ r0_20 := Nat.le_trans Z0 g20_0
 have sz24 : h0.size ≤ r0_20 := Nat.le_trans (Nat.le_refl _) g20_0
 show Runs _ _ _ _ (T20.setTop (mkF m 4 #[.val (.ref a0), .val (.int (0 : Int32)), .val (.int (2 : Int32)), .unset, .unset] [(.ref r0_20)]))
 refine w_astoreN X20 hx (d18_4 hby) rfl (L' := #[.val (.ref a0), .val (.int (0 : Int32)), .val (.int (2 : Int32)), .val (.ref r0_20), .unset]) rfl (pc' := 5) rfl ?_
 refine w_iconst X20 hx (d18_5 hby) (v := (0 : Int32)) rfl (pc' := 6) rfl ?_
 refine w_istore X20 hx (d18_6 hby) (L' := #[.val (.ref a0), .val (.int (0 : Int32)), .val (.int (2 : Int32)), .val (.ref r0_20), .val (.int (0 : Int32))]) rfl (pc' := 8) rfl ?_
 refine w_iload X20 hx (d18_8 hby) rfl (pc' := 10) rfl ?_
 refine w_iloadN X20 hx (d18_10 hby) rfl (pc' := 11) rfl ?_
 refine w_icN X20 hx (d18_11 hby) (tlt (by decide : (0 : Int32) < (2 : Int32))).2.1 (pc' := 14) rfl ?_
 refine w_aloadN X20 hx (d18_14 hby) rfl rfl (pc' := 15) rfl ?_
 refine w_iload X20 hx (d18_15 hby) rfl (pc' := 17) rfl ?_
 refine w_aloadN X20 hx (d18_17 hby) rfl rfl (pc' := 18) rfl ?_
 refine w_iloadN X20 hx (d18_18 hby) rfl (pc' := 19) rfl ?_
 have f25 : Arv Z T20.heap a0 k_a0 .char (2 : Int32) [(.int jj0), (.int jj1)] (.int (0 : Int32)) := (V_a0.keep K20 nin0)
 obtain ⟨clu26, Aru26, qu26, Su26, Nu26, Hu26, Gu26⟩ := id f25
 have hinu26 := inb_of (j := (0 : Int32)) Su26 ⟨by decide, by decide⟩
 refine w_caload X20 hx hZ rfl Aru26 hinu26 (Hu26.at hinu26 rfl) (d18_19 hby) (pc' := 20) rfl ?_
 have f28 : Old Z n0 T20.heap := (O0.keep K20 all0)
 refine w_static X20 hx (y := yn_21) hown (mvT hZ (wd_108 hw)) (mvT hZ (wd_109 hw)) (mvT hZ (wd_68 hw)) (mvT hZ (wd_110 hw)) (by decide) (backOf (W := 0) (rm_m21_25 l Z aZ hw [] r0_20 jj0 c0_20 T20.heap n0 (Nat.le_trans Z0 K20.1) zz2 f28 zz3 g20_1 ge23 zz4) hZ (wd_110 hw) (wd_68 hw) (by decide) (by decide)) (by rw [hml]; rfl) [(.ref r0_20), (.int (0 : Int32)), (.int jj0)] (lenOf pd_5 rfl) rfl (Nat.le_of_eq rfl) (d18_20 hby) (fun _ _ => ⟨rfl, rfl, (by decide : 1 + 0 ≤ _), (by decide : 4 + 0 ≤ _)⟩) (pc' := 23) rfl ?_
 rintro _ _ ⟨T29, L29, k29, n29⟩ X29 ⟨Lc29, hQ29, l29, y29, z29⟩
 dsimp only [Pt.U, Pt.locs, Pt.cells, Pt.slots] at X29 l29 y29 z29 hQ29 ⊢
 subst l29 y29 z29
 obtain ⟨rfl, N29q, K29, g29_0⟩ := hQ29
 have N30 := Fr.app N21 N29q
 have K31 : Keep h0 T29.heap [] := K22.trans K29 (allS (Or.inr sz24) (all0 (P := fun x => x ∈ [] ∨ h0.size ≤ x)))
 show Runs _ _ _ _ (T29.setTop (mkF m 23 #[.val (.ref a0), .val (.int (0 : Int32)), .val (.int (2 : Int32)), .val (.ref r0_20), .val (.int (0 : Int32))] []))
 refine w_iinc X29 hx (d18_23 hby) (v := (1 : Int32)) rfl rfl (L' := #[.val (.ref a0), .val (.int ((0 : Int32) + (1 : Int32))), .val (.int (2 : Int32)), .val (.ref r0_20), .val (.int (0 : Int32))]) rfl (pc' := 26) rfl ?_
 rw [show ((0 : Int32) + (1 : Int32)) = (1 : Int32) from by decide]
 refine w_iinc X29 hx (d18_26 hby) (v := (1 : Int32)) rfl rfl (L' := #[.val (.ref a0), .val (.int (1 : Int32)), .val (.int (2 : Int32)), .val (.ref r0_20), .val (.int ((0 : Int32) + (1 : Int32)))]) rfl (pc' := 29) rfl ?_
 rw [show ((0 : Int32) + (1 : Int32)) = (1 : Int32) from by decide]
 refine w_goto X29 hx (d18_29 hby) (pc' := 8) (by decide) (by decide) ?_
 refine w_iload X29 hx (d18_8 hby) rfl (pc' := 10) rfl ?_
 refine w_iloadN X29 hx (d18_10 hby) rfl (pc' := 11) rfl ?_
 refine w_icN X29 hx (d18_11 hby) (tlt (by decide : (1 : Int32) < (2 : Int32))).2.1 (pc' := 14) rfl ?_
 refine w_aloadN X29 hx (d18_14 hby) rfl rfl (pc' := 15) rfl ?_
 refine w_iload X29 hx (d18_15 hby) rfl (pc' := 17) rfl ?_
 refine w_aloadN X29 hx (d18_17 hby) rfl rfl (pc' := 18) rfl ?_
 refine w_iloadN X29 hx (d18_18 hby) rfl (pc' := 19) rfl ?_
 have ne32 : a0 ≠ r0_20 := (Nat.ne_of_lt (Nat.lt_of_lt_of_le V_a0.lt (Nat.le_trans (Nat.le_refl _) g20_0)))
 have f33 : Arv Z T29.heap a0 k_a0 .char (2 : Int32) [(.int jj0), (.int jj1)] (.int (0 : Int32)) := (f25.keep K29 (ninS ne32 nin0))
 obtain ⟨clu34, Aru34, qu34, Su34, Nu34, Hu34, Gu34⟩ := id f33
 have hinu34 := inb_of (j := (1 : Int32)) Su34 ⟨by decide, by decide⟩
 refine w_caload X29 hx hZ rfl Aru34 hinu34 (Hu34.at hinu34 rfl) (d18_19 hby) (pc' := 20) rfl ?_
 have f35 : Old Z n0 T29.heap := (f28.keep K29 (allS ge23 all0))
 have le36 : h0.size ≤ T29.heap.size := (Nat.le_trans K20.1 K29.1)
 refine w_static X29 hx (y := yn_21) hown (mvT hZ (wd_108 hw)) (mvT hZ (wd_109 hw)) (mvT hZ (wd_68 hw)) (mvT hZ (wd_110 hw)) (by decide) (backOf (W := 0) (rm_m21_26 l Z aZ hw [] r0_20 jj1 c0_20 ((jj0 >>> ((0 : Int32) &&& 31)).toInt8.toInt32) ((jj0 >>> ((8 : Int32) &&& 31)).toInt8.toInt32) T29.heap n0 (Nat.le_trans Z0 le36) zz2 f35 zz3 g29_0 ge23 zz4) hZ (wd_110 hw) (wd_68 hw) (by decide) (by decide)) (by rw [hml]; rfl) [(.ref r0_20), (.int (1 : Int32)), (.int jj1)] (lenOf pd_5 rfl) rfl (Nat.le_of_eq rfl) (d18_20 hby) (fun _ _ => ⟨rfl, rfl, (by decide : 1 + 0 ≤ _), (by decide : 4 + 0 ≤ _)⟩) (pc' := 23) rfl ?_
 rintro _ _ ⟨T37, L37, k37, n37⟩ X37 ⟨Lc37, hQ37, l37, y37, z37⟩
 dsimp only [Pt.U, Pt.locs, Pt.cells, Pt.slots] at X37 l37 y37 z37 hQ37 ⊢
 subst l37 y37 z37
 obtain ⟨rfl, N37q, K37, g37_0⟩ := hQ37
 have N38 := Fr.app N30 N37q
 have K39 : Keep h0 T37.heap [] := K31.trans K37 (allS (Or.inr sz24) (all0 (P := fun x => x ∈ [] ∨ h0.size ≤ x)))
 show Runs _ _ _ _ (T37.setTop (mkF m 23 #[.val (.ref a0), .val (.int (1 : Int32)), .val (.int (2 : Int32)), .val (.ref r0_20), .val (.int (1 : Int32))] []))
 refine w_iinc X37 hx (d18_23 hby) (v := (1 : Int32)) rfl rfl (L' := #[.val (.ref a0), .val (.int ((1 : Int32) + (1 : Int32))), .val (.int (2 : Int32)), .val (.ref r0_20), .val (.int (1 : Int32))]) rfl (pc' := 26) rfl ?_
 rw [show ((1 : Int32) + (1 : Int32)) = (2 : Int32) from by decide]
 refine w_iinc X37 hx (d18_26 hby) (v := (1 : Int32)) rfl rfl (L' := #[.val (.ref a0), .val (.int (2 : Int32)), .val (.int (2 : Int32)), .val (.ref r0_20), .val (.int ((1 : Int32) + (1 : Int32)))]) rfl (pc' := 29) rfl ?_
 rw [show ((1 : Int32) + (1 : Int32)) = (2 : Int32) from by decide]
 refine w_goto X37 hx (d18_29 hby) (pc' := 8) (by decide) (by decide) ?_
 refine w_iload X37 hx (d18_8 hby) rfl (pc' := 10) rfl ?_
 refine w_iloadN X37 hx (d18_10 hby) rfl (pc' := 11) rfl ?_
 refine w_icY X37 hx (d18_11 hby) (flt (by decide : ¬ ((2 : Int32) < (2 : Int32)))).2.1 (pc' := 32) (by decide) (by decide) ?_
 refine w_aloadN X37 hx (d18_32 hby) rfl rfl (pc' := 33) rfl ?_
 exact w_done X37 hlk (v := some (.ref r0_20)) rfl (fun h => by rw [hret] at h; cases h) (fun fs hr => retOut X37 hx hret rfl (Or.inr (Or.inr (Or.inr (Or.inr ⟨rfl, rfl, rfl⟩)))) (d18_33 hby) hr) (by decide) (by decide) (⟨r0_20, c0_20, rfl, N38, K39, sz24, g37_0⟩)
theorem ef_m22_27 (m : MethodId) (a0 : Addr) (p1 : Int32)  : entryFrame m #[(.ref a0), (.int p1)] 2 = mkF m 0 #[.val (.ref a0), .val (.int p1)] [] := by first | (simp [entryFrame, mkF, argsToLocals, Value.category]; done) | rfl
def Q_m22_27 (Z : State) (a0 : Addr) (p1 : Int32) (k_a0 : ClassId) (jj0 : Int32) (jj1 : Int32) (jj2 : Int32) (jj3 : Int32) (h0 : Heap) (n0 : Nat) (v : Option Value) (h : Heap) (L : List Loc) : Prop := v = some (.int (((((gI [jj0, jj1, jj2, jj3] (p1 <<< ((1 : Int32) &&& 31))) &&& (255 : Int32)) <<< ((0 : Int32) &&& 31)) ||| (((gI [jj0, jj1, jj2, jj3] ((p1 <<< ((1 : Int32) &&& 31)) + (1 : Int32))) &&& (255 : Int32)) <<< ((8 : Int32) &&& 31))).toUInt32.toUInt16.toUInt32.toInt32)) ∧ Fr n0 L ∧ h = h0
theorem rm_m22_27 (l : Launch) (Z : State) (aZ : Array Value) (hw : ∀ d ∈ tables_1, d.before aZ Z = true) (ws : List Jvm.Cond) (a0 : Addr) (p1 : Int32) (k_a0 : ClassId) (jj0 : Int32) (jj1 : Int32) (jj2 : Int32) (jj3 : Int32) (h0 : Heap) (n0 : Nat) (Z0 : n0 ≤ h0.size) (zz4 : Sta Z Z.heap kc1 "$assertionsDisabled" "Z" (.int (1 : Int32))) (O0 : Old Z n0 h0) (V_a0 : Arv Z h0 a0 k_a0 .byte (4 : Int32) [(.int jj0), (.int jj1), (.int jj2), (.int jj3)] (.int (0 : Int32))) (hP_3 : ¬ (p1 < (0 : Int32))) (hP_4 : p1 < (2 : Int32)) (zz5 : Sta Z Z.heap kc1 "HI_BYTE_SHIFT" "I" (.int (0 : Int32))) (zz6 : Sta Z Z.heap kc1 "LO_BYTE_SHIFT" "I" (.int (8 : Int32))) :
    MetN l Z yn_22 jdk_52_method_5_code 2 (some .char) ws ({ frames := 0, cells := 0, slots := 0, locals := 0 } : Room) #[(.ref a0), (.int p1)] h0 (Q_m22_27 Z a0 p1 k_a0 jj0 jj1 jj2 jj3 h0 n0) := by
 refine MetN.of (plainFor_of_name pn_1) ?_
 intro p e s m below meth c s₁ hret hx hby hml hown hnm hlk hZ X0 e0
 have N0 := Fr.nil n0
 rw [ef_m22_27 m a0 p1]
 refine w_getS X0 hx "" hZ hown (Or.inl (wd_111 hw)) Via.refl e0 (zz4.ext O0.2) (d22_0 hby) (pc' := 3) rfl ?_
 intro T20 X20 e20
 refine w_ifY X20 hx (d22_3 hby) (feq (by decide : ¬ ((1 : Int32) = (0 : Int32)))).2 (pc' := 28) (by decide) (by decide) ?_
 refine w_iloadN X20 hx (d22_28 hby) rfl (pc' := 29) rfl ?_
 refine w_iconst X20 hx (d22_29 hby) (v := (1 : Int32)) rfl (pc' := 30) rfl ?_
 refine w_ishl X20 hx (d22_30 hby) (pc' := 31) rfl ?_
 refine w_istoreN X20 hx (d22_31 hby) (L' := #[.val (.ref a0), .val (.int (p1 <<< ((1 : Int32) &&& 31)))]) rfl (pc' := 32) rfl ?_
 refine w_aloadN X20 hx (d22_32 hby) rfl rfl (pc' := 33) rfl ?_
 refine w_iloadN X20 hx (d22_33 hby) rfl (pc' := 34) rfl ?_
 refine w_iinc X20 hx (d22_34 hby) (v := (1 : Int32)) rfl rfl (L' := #[.val (.ref a0), .val (.int ((p1 <<< ((1 : Int32) &&& 31)) + (1 : Int32)))]) rfl (pc' := 37) rfl ?_
 obtain ⟨clu21, Aru21, qu21, Su21, Nu21, Hu21, Gu21⟩ := id V_a0
 have hinu21 := inb_of (j := (p1 <<< ((1 : Int32) &&& 31))) Su21 ⟨(own_shl_in (n := 2) (by decide) (by decide) hP_3 hP_4).1.1, (Eq.mp (congrArg (fun z => (p1 <<< ((1 : Int32) &&& 31)) < z) (by decide : (2 : Int32) <<< ((1 : Int32) &&& 31) = 4)) (own_shl_in (n := 2) (by decide) (by decide) hP_3 hP_4).1.2)⟩
 refine w_baload X20 hx hZ e20 Aru21 hinu21 (Hu21.at hinu21 (own_gI [jj0, jj1, jj2, jj3] (p1 <<< ((1 : Int32) &&& 31)))) (d22_37 hby) (pc' := 38) rfl ?_
 refine w_sipush X20 hx (d22_38 hby) (v := (255 : Int32)) rfl (pc' := 41) rfl ?_
 refine w_iand X20 hx (d22_41 hby) (pc' := 42) rfl ?_
 refine w_getS X20 hx "" hZ hown (Or.inl (wd_112 hw)) Via.refl e20 (zz5.ext O0.2) (d22_42 hby) (pc' := 45) rfl ?_
 intro T22 X22 e22
 refine w_ishl X22 hx (d22_45 hby) (pc' := 46) rfl ?_
 refine w_aloadN X22 hx (d22_46 hby) rfl rfl (pc' := 47) rfl ?_
 refine w_iloadN X22 hx (d22_47 hby) rfl (pc' := 48) rfl ?_
 obtain ⟨clu23, Aru23, qu23, Su23, Nu23, Hu23, Gu23⟩ := id V_a0
 have hinu23 := inb_of (j := ((p1 <<< ((1 : Int32) &&& 31)) + (1 : Int32))) Su23 ⟨(own_shl_in (n := 2) (by decide) (by decide) hP_3 hP_4).2.1, (Eq.mp (congrArg (fun z => ((p1 <<< ((1 : Int32) &&& 31)) + (1 : Int32)) < z) (by decide : (2 : Int32) <<< ((1 : Int32) &&& 31) = 4)) (own_shl_in (n := 2) (by decide) (by decide) hP_3 hP_4).2.2)⟩
 refine w_baload X22 hx hZ e22 Aru23 hinu23 (Hu23.at hinu23 (own_gI [jj0, jj1, jj2, jj3] ((p1 <<< ((1 : Int32) &&& 31)) + (1 : Int32)))) (d22_48 hby) (pc' := 49) rfl ?_
 refine w_sipush X22 hx (d22_49 hby) (v := (255 : Int32)) rfl (pc' := 52) rfl ?_
 refine w_iand X22 hx (d22_52 hby) (pc' := 53) rfl ?_
 refine w_getS X22 hx "" hZ hown (Or.inl (wd_113 hw)) Via.refl e22 (zz6.ext O0.2) (d22_53 hby) (pc' := 56) rfl ?_
 intro T24 X24 e24
 refine w_ishl X24 hx (d22_56 hby) (pc' := 57) rfl ?_
 refine w_ior X24 hx (d22_57 hby) (pc' := 58) rfl ?_
 refine w_i2c X24 hx (d22_58 hby) (pc' := 59) rfl ?_
 exact w_done X24 hlk (v := some (.int (((((gI [jj0, jj1, jj2, jj3] (p1 <<< ((1 : Int32) &&& 31))) &&& (255 : Int32)) <<< ((0 : Int32) &&& 31)) ||| (((gI [jj0, jj1, jj2, jj3] ((p1 <<< ((1 : Int32) &&& 31)) + (1 : Int32))) &&& (255 : Int32)) <<< ((8 : Int32) &&& 31))).toUInt32.toUInt16.toUInt32.toInt32))) e24 (fun h => by rw [hret] at h; cases h) (fun fs hr => retOut X24 hx hret (t := .char) (XT.narrow_c _) (Or.inl ⟨rfl, by simp, _, rfl⟩) (d22_59 hby) hr) (by decide) (by decide) (⟨rfl, N0, rfl⟩)
theorem ef_m10_20 (m : MethodId) (a0 : Addr)  : entryFrame m #[(.ref a0), (.int (0 : Int32)), (.int (2 : Int32))] 6 = mkF m 0 #[.val (.ref a0), .val (.int (0 : Int32)), .val (.int (2 : Int32)), .unset, .unset, .unset] [] := by first | (simp [entryFrame, mkF, argsToLocals, Value.category]; done) | rfl
def Q_m10_20 (Z : State) (a0 : Addr) (k_a0 : ClassId) (jj0 : Int32) (jj1 : Int32) (h0 : Heap) (n0 : Nat) (v : Option Value) (h : Heap) (L : List Loc) : Prop := (∃ (t : Addr) (kb : ClassId), v = some (.ref t) ∧ Fr n0 L ∧ Keep h0 h [] ∧ h0.size ≤ t ∧ Arv Z h t kb .byte (2 : Int32) [(.int (jj0.toInt8.toInt32)), (.int (jj1.toInt8.toInt32))] (.int (0 : Int32)) ∧ ¬ ((255 : Int32) < jj0) ∧ ¬ ((255 : Int32) < jj1)) ∨ (∃ (t : Addr) (kb : ClassId), v = some (.ref t) ∧ Fr n0 L ∧ Keep h0 h [] ∧ h0.size ≤ t ∧ Arv Z h t kb .byte (4 : Int32) [(.int ((jj0 >>> ((0 : Int32) &&& 31)).toInt8.toInt32)), (.int ((jj0 >>> ((8 : Int32) &&& 31)).toInt8.toInt32)), (.int ((jj1 >>> ((0 : Int32) &&& 31)).toInt8.toInt32)), (.int ((jj1 >>> ((8 : Int32) &&& 31)).toInt8.toInt32))] (.int (0 : Int32)) ∧ ((255 : Int32) < jj0 ∨ (255 : Int32) < jj1))
theorem rm_m10_20 (l : Launch) (Z : State) (aZ : Array Value) (hw : ∀ d ∈ tables_1, d.before aZ Z = true) (ws : List Jvm.Cond) (a0 : Addr) (k_a0 : ClassId) (jj0 : Int32) (jj1 : Int32) (h0 : Heap) (n0 : Nat) (Z0 : n0 ≤ h0.size) (V_a0 : Arv Z h0 a0 k_a0 .char (2 : Int32) [(.int jj0), (.int jj1)] (.int (0 : Int32))) (zz2 : Sta Z Z.heap kc1 "$assertionsDisabled" "Z" (.int (1 : Int32))) (O0 : Old Z n0 h0) (zz3 : Sta Z Z.heap kc1 "HI_BYTE_SHIFT" "I" (.int (0 : Int32))) (zz4 : Sta Z Z.heap kc1 "LO_BYTE_SHIFT" "I" (.int (8 : Int32))) (zz5 : nar .char jj0 = jj0) (zz6 : nar .char jj1 = jj1) :
    MetN l Z yn_10 jdk_52_method_16_code 6 (some (.array .byte)) ws ({ frames := 3, cells := 2, slots := 6, locals := 40 } : Room) #[(.ref a0), (.int (0 : Int32)), (.int (2 : Int32))] h0 (Q_m10_20 Z a0 k_a0 jj0 jj1 h0 n0) := by
 refine MetN.of (plainFor_of_name pn_1) ?_
 intro p e s m below meth c s₁ hret hx hby hml hown hnm hlk hZ X0 e0
 have N0 := Fr.nil n0
 rw [ef_m10_20 m a0]
 refine w_iloadN X0 hx (d10_0 hby) rfl (pc' := 1) rfl ?_
 refine w_newP X0 hx .byte .byte 2 rfl hZ (wd_20 hw) e0 (d10_1 hby) (by decide) (by decide) (by decide) (by decide) (by decide) (pc' := 3) rfl ?_
 intro T20 h20 k20 b20 X20 e20 E20 g20 A20
 have ge21 : n0 ≤ b20 := Nat.le_trans Z0 (Nat.le_of_eq g20.symm)
 have sz22 : h0.size ≤ b20 := Nat.le_trans (Nat.le_refl _) (Nat.le_of_eq g20.symm)
 have K23 : Keep h0 h20 [] := (Keep.refl h0 []).ext E20
 have V24 : Arv Z h20 b20 k20 .byte (2 : Int32) [(.int (0 : Int32)), (.int (0 : Int32))] (.int (0 : Int32)) := (Arv.new A20 (by decide)).pad (pad_rep [] (.int (0 : Int32)) 2)
 refine w_astoreN X20 hx (d10_3 hby) rfl (L' := #[.val (.ref a0), .val (.int (0 : Int32)), .val (.int (2 : Int32)), .val (.ref b20), .unset, .unset]) rfl (pc' := 4) rfl ?_
 refine w_aloadN X20 hx (d10_4 hby) rfl rfl (pc' := 5) rfl ?_
 refine w_iloadN X20 hx (d10_5 hby) rfl (pc' := 6) rfl ?_
 refine w_aloadN X20 hx (d10_6 hby) rfl rfl (pc' := 7) rfl ?_
 refine w_iconst X20 hx (d10_7 hby) (v := (0 : Int32)) rfl (pc' := 8) rfl ?_
 refine w_iloadN X20 hx (d10_8 hby) rfl (pc' := 9) rfl ?_
 have f25 : Arv Z h20 a0 k_a0 .char (2 : Int32) [(.int jj0), (.int jj1)] (.int (0 : Int32)) := (V_a0.ext E20)
 have ne26 : a0 ≠ b20 := (Nat.ne_of_lt (Nat.lt_of_lt_of_le V_a0.lt (Nat.le_trans (Nat.le_refl _) (Nat.le_of_eq g20.symm))))
 refine w_static X20 hx (y := yn_11) hown (mvT hZ (wd_70 hw)) (mvT hZ (wd_71 hw)) (mvT hZ (wd_68 hw)) (mvT hZ (wd_72 hw)) (by decide) (backOf (W := 0) (rm_m11_21 l Z aZ hw [] a0 b20 k_a0 jj0 jj1 k20 h20 n0 (Nat.le_trans Z0 E20.1) f25 V24 ge21 ne26) hZ (wd_72 hw) (wd_68 hw) (by decide) (by decide)) (by rw [hml]; rfl) [(.ref a0), (.int (0 : Int32)), (.ref b20), (.int (0 : Int32)), (.int (2 : Int32))] (lenOf pd_2 rfl) rfl (Nat.le_of_eq rfl) (d10_9 hby) (fun _ _ => ⟨rfl, e20, (by decide : 1 + 0 ≤ _), (by decide : 2 + 0 ≤ _)⟩) (pc' := 12) rfl ?_
 rintro _ _ ⟨T27, L27, k27, n27⟩ X27 ⟨Lc27, hQ27, l27, y27, z27⟩
 dsimp only [Pt.U, Pt.locs, Pt.cells, Pt.slots] at X27 l27 y27 z27 hQ27 ⊢
 subst l27 y27 z27
 rcases hQ27 with ⟨rfl, N27q, K27, g27_0, g27_1, g27_2⟩ | ⟨j_27, rfl, N27q, K27, g27_0, g27_1, g27_2⟩
 · have N28 := Fr.app N0 N27q
   have K29 : Keep h0 T27.heap [] := K23.trans K27 (allS (Or.inr sz22) (all0 (P := fun x => x ∈ [] ∨ h0.size ≤ x)))
   show Runs _ _ _ _ (T27.setTop (mkF m 12 #[.val (.ref a0), .val (.int (0 : Int32)), .val (.int (2 : Int32)), .val (.ref b20), .unset, .unset] [(.int (2 : Int32))]))
   refine w_istore X27 hx (d10_12 hby) (L' := #[.val (.ref a0), .val (.int (0 : Int32)), .val (.int (2 : Int32)), .val (.ref b20), .val (.int (2 : Int32)), .unset]) rfl (pc' := 14) rfl ?_
   refine w_iload X27 hx (d10_14 hby) rfl (pc' := 16) rfl ?_
   refine w_iloadN X27 hx (d10_16 hby) rfl (pc' := 17) rfl ?_
   refine w_icY X27 hx (d10_17 hby) (teq (by decide : (2 : Int32) = (2 : Int32))).1 (pc' := 57) (by decide) (by decide) ?_
   refine w_aloadN X27 hx (d10_57 hby) rfl rfl (pc' := 58) rfl ?_
   exact w_done X27 hlk (v := some (.ref b20)) rfl (fun h => by rw [hret] at h; cases h) (fun fs hr => retOut X27 hx hret rfl (Or.inr (Or.inr (Or.inr (Or.inr ⟨rfl, rfl, rfl⟩)))) (d10_58 hby) hr) (by decide) (by decide) (Or.inl ⟨b20, k20, rfl, N28, K29, sz22, g27_0, g27_1, g27_2⟩)
 · have N30 := Fr.app N0 N27q
   have K31 : Keep h0 T27.heap [] := K23.trans K27 (allS (Or.inr sz22) (all0 (P := fun x => x ∈ [] ∨ h0.size ≤ x)))
   show Runs _ _ _ _ (T27.setTop (mkF m 12 #[.val (.ref a0), .val (.int (0 : Int32)), .val (.int (2 : Int32)), .val (.ref b20), .unset, .unset] [(.int j_27)]))
   refine w_istore X27 hx (d10_12 hby) (L' := #[.val (.ref a0), .val (.int (0 : Int32)), .val (.int (2 : Int32)), .val (.ref b20), .val (.int j_27), .unset]) rfl (pc' := 14) rfl ?_
   refine w_iload X27 hx (d10_14 hby) rfl (pc' := 16) rfl ?_
   refine w_iloadN X27 hx (d10_16 hby) rfl (pc' := 17) rfl ?_
   refine w_icN X27 hx (d10_17 hby) (feq (fun q => by have h9 := g27_1; rw [q] at h9; exact absurd h9 (by decide))).1 (pc' := 20) rfl ?_
   refine w_aloadN X27 hx (d10_20 hby) rfl rfl (pc' := 21) rfl ?_
   refine w_iloadN X27 hx (d10_21 hby) rfl (pc' := 22) rfl ?_
   refine w_iloadN X27 hx (d10_22 hby) rfl (pc' := 23) rfl ?_
   have f32 : Arv Z T27.heap a0 k_a0 .char (2 : Int32) [(.int jj0), (.int jj1)] (.int (0 : Int32)) := (f25.keep K27 (ninS ne26 nin0))
   have f33 : Old Z n0 T27.heap := ((O0.ext E20).keep K27 (allS ge21 all0))
   have le34 : h0.size ≤ T27.heap.size := (Nat.le_trans E20.1 K27.1)
   refine w_static X27 hx (y := yn_18) hown (mvT hZ (wd_98 hw)) (mvT hZ (wd_99 hw)) (mvT hZ (wd_68 hw)) (mvT hZ (wd_100 hw)) (by decide) (backOf (W := 0) (rm_m18_22 l Z aZ hw [] a0 k_a0 jj0 jj1 T27.heap n0 (Nat.le_trans Z0 le34) f32 zz2 f33 zz3 zz4) hZ (wd_100 hw) (wd_68 hw) (by decide) (by decide)) (by rw [hml]; rfl) [(.ref a0), (.int (0 : Int32)), (.int (2 : Int32))] (lenOf pd_6 rfl) rfl (Nat.le_of_eq rfl) (d10_23 hby) (fun _ _ => ⟨rfl, rfl, (by decide : 1 + 1 ≤ _), (by decide : 2 + 4 ≤ _)⟩) (pc' := 26) rfl ?_
   rintro _ _ ⟨T35, L35, k35, n35⟩ X35 ⟨Lc35, hQ35, l35, y35, z35⟩
   dsimp only [Pt.U, Pt.locs, Pt.cells, Pt.slots] at X35 l35 y35 z35 hQ35 ⊢
   subst l35 y35 z35
   obtain ⟨r0_35, c0_35, rfl, N35q, K35, g35_0, g35_1⟩ := hQ35
   have N36 := Fr.app N30 N35q
   have K37 : Keep h0 T35.heap [] := K31.trans K35 (all0 (P := fun x => x ∈ [] ∨ h0.size ≤ x))
   have ge38 : n0 ≤ r0_35 := Nat.le_trans (Nat.le_trans Z0 le34) g35_0
   have sz39 : h0.size ≤ r0_35 := Nat.le_trans le34 g35_0
   show Runs _ _ _ _ (T35.setTop (mkF m 26 #[.val (.ref a0), .val (.int (0 : Int32)), .val (.int (2 : Int32)), .val (.ref b20), .val (.int j_27), .unset] [(.ref r0_35)]))
   refine w_astore X35 hx (d10_26 hby) rfl (L' := #[.val (.ref a0), .val (.int (0 : Int32)), .val (.int (2 : Int32)), .val (.ref b20), .val (.int j_27), .val (.ref r0_35)]) rfl (pc' := 28) rfl ?_
   refine w_aload X35 hx (d10_28 hby) rfl rfl (pc' := 30) rfl ?_
   refine w_iload X35 hx (d10_30 hby) rfl (pc' := 32) rfl ?_
   have f41 : Old Z n0 T35.heap := (f33.keep K35 all0)
   have le42 : h0.size ≤ T35.heap.size := (Nat.le_trans le34 K35.1)
   refine w_static X35 hx (y := yn_22) hown (mvT hZ (wd_114 hw)) (mvT hZ (wd_115 hw)) (mvT hZ (wd_68 hw)) (mvT hZ (wd_116 hw)) (by decide) (backOf (W := 0) (rm_m22_27 l Z aZ hw [] r0_35 j_27 c0_35 ((jj0 >>> ((0 : Int32) &&& 31)).toInt8.toInt32) ((jj0 >>> ((8 : Int32) &&& 31)).toInt8.toInt32) ((jj1 >>> ((0 : Int32) &&& 31)).toInt8.toInt32) ((jj1 >>> ((8 : Int32) &&& 31)).toInt8.toInt32) T35.heap n0 (Nat.le_trans Z0 le42) zz2 f41 g35_1 g27_0 g27_1 zz3 zz4) hZ (wd_116 hw) (wd_68 hw) (by decide) (by decide)) (by rw [hml]; rfl) [(.ref r0_35), (.int j_27)] (lenOf pd_7 rfl) rfl (Nat.le_of_eq rfl) (d10_32 hby) (fun _ _ => ⟨rfl, rfl, (by decide : 2 + 0 ≤ _), (by decide : 6 + 0 ≤ _)⟩) (pc' := 35) rfl ?_
   rintro _ _ ⟨T43, L43, k43, n43⟩ X43 ⟨Lc43, hQ43, l43, y43, z43⟩
   dsimp only [Pt.U, Pt.locs, Pt.cells, Pt.slots] at X43 l43 y43 z43 hQ43 ⊢
   subst l43 y43 z43
   obtain ⟨rfl, N43q, e43⟩ := hQ43
   have N44 := Fr.app N36 N43q
   show Runs _ _ _ _ (T43.setTop (mkF m 35 #[.val (.ref a0), .val (.int (0 : Int32)), .val (.int (2 : Int32)), .val (.ref b20), .val (.int j_27), .val (.ref r0_35)] [(.int (((((gI [((jj0 >>> ((0 : Int32) &&& 31)).toInt8.toInt32), ((jj0 >>> ((8 : Int32) &&& 31)).toInt8.toInt32), ((jj1 >>> ((0 : Int32) &&& 31)).toInt8.toInt32), ((jj1 >>> ((8 : Int32) &&& 31)).toInt8.toInt32)] (j_27 <<< ((1 : Int32) &&& 31))) &&& (255 : Int32)) <<< ((0 : Int32) &&& 31)) ||| (((gI [((jj0 >>> ((0 : Int32) &&& 31)).toInt8.toInt32), ((jj0 >>> ((8 : Int32) &&& 31)).toInt8.toInt32), ((jj1 >>> ((0 : Int32) &&& 31)).toInt8.toInt32), ((jj1 >>> ((8 : Int32) &&& 31)).toInt8.toInt32)] ((j_27 <<< ((1 : Int32) &&& 31)) + (1 : Int32))) &&& (255 : Int32)) <<< ((8 : Int32) &&& 31))).toUInt32.toUInt16.toUInt32.toInt32))]))
   refine w_sipush X43 hx (d10_35 hby) (v := (255 : Int32)) rfl (pc' := 38) rfl ?_
   refine w_icY X43 hx (d10_38 hby) (tlt (show (255 : Int32) < (((((gI [((jj0 >>> ((0 : Int32) &&& 31)).toInt8.toInt32), ((jj0 >>> ((8 : Int32) &&& 31)).toInt8.toInt32), ((jj1 >>> ((0 : Int32) &&& 31)).toInt8.toInt32), ((jj1 >>> ((8 : Int32) &&& 31)).toInt8.toInt32)] (j_27 <<< ((1 : Int32) &&& 31))) &&& (255 : Int32)) <<< ((0 : Int32) &&& 31)) ||| (((gI [((jj0 >>> ((0 : Int32) &&& 31)).toInt8.toInt32), ((jj0 >>> ((8 : Int32) &&& 31)).toInt8.toInt32), ((jj1 >>> ((0 : Int32) &&& 31)).toInt8.toInt32), ((jj1 >>> ((8 : Int32) &&& 31)).toInt8.toInt32)] ((j_27 <<< ((1 : Int32) &&& 31)) + (1 : Int32))) &&& (255 : Int32)) <<< ((8 : Int32) &&& 31))).toUInt32.toUInt16.toUInt32.toInt32) from by rw [own_uj2 g27_0 g27_1 zz5 zz6]; exact g27_2)).2.2.1 (pc' := 54) (by decide) (by decide) ?_
   refine w_aload X43 hx (d10_54 hby) rfl rfl (pc' := 56) rfl ?_
   exact w_done X43 hlk (v := some (.ref r0_35)) e43 (fun h => by rw [hret] at h; cases h) (fun fs hr => retOut X43 hx hret rfl (Or.inr (Or.inr (Or.inr (Or.inr ⟨rfl, rfl, rfl⟩)))) (d10_56 hby) hr) (by decide) (by decide) (Or.inr (⟨r0_35, c0_35, rfl, N44, K37, sz39, g35_1, (own_or2 g27_0 g27_1 g27_2)⟩))
theorem ef_m12_28 (m : MethodId) (a0 : Addr)  : entryFrame m #[(.ref a0), (.int (2 : Int32))] 2 = mkF m 0 #[.val (.ref a0), .val (.int (2 : Int32))] [] := by first | (simp [entryFrame, mkF, argsToLocals, Value.category]; done) | rfl
def Q_m12_28 (Z : State) (a0 : Addr) (k_a0 : ClassId) (jj0 : Int32) (jj1 : Int32) (h0 : Heap) (n0 : Nat) (v : Option Value) (h : Heap) (L : List Loc) : Prop := v = some (.int (0 : Int32)) ∧ Fr n0 L ∧ h = h0
theorem rm_m12_28 (l : Launch) (Z : State) (aZ : Array Value) (hw : ∀ d ∈ tables_1, d.before aZ Z = true) (ws : List Jvm.Cond) (a0 : Addr) (k_a0 : ClassId) (jj0 : Int32) (jj1 : Int32) (h0 : Heap) (n0 : Nat) (Z0 : n0 ≤ h0.size) (V_a0 : Arv Z h0 a0 k_a0 .byte (2 : Int32) [(.int jj0), (.int jj1)] (.int (0 : Int32))) :
    MetN l Z yn_12 jdk_52_method_15_code 2 (some .byte) ws ({ frames := 0, cells := 0, slots := 0, locals := 0 } : Room) #[(.ref a0), (.int (2 : Int32))] h0 (Q_m12_28 Z a0 k_a0 jj0 jj1 h0 n0) := by
 refine MetN.of (plainFor_of_name pn_1) ?_
 intro p e s m below meth c s₁ hret hx hby hml hown hnm hlk hZ X0 e0
 have N0 := Fr.nil n0
 rw [ef_m12_28 m a0]
 refine w_iloadN X0 hx (d12_0 hby) rfl (pc' := 1) rfl ?_
 refine w_aloadN X0 hx (d12_1 hby) rfl rfl (pc' := 2) rfl ?_
 refine w_alen X0 hx hZ e0 V_a0 (d12_2 hby) (pc' := 3) rfl ?_
 refine w_isub X0 hx (d12_3 hby) (pc' := 4) rfl ?_
 rw [show ((2 : Int32) - (2 : Int32)) = (0 : Int32) from by decide]
 refine w_bipush X0 hx (d12_4 hby) (v := (31 : Int32)) rfl (pc' := 6) rfl ?_
 refine w_iushr X0 hx (d12_6 hby) (pc' := 7) rfl ?_
 rw [show (((0 : Int32).toUInt32 >>> ((31 : Int32) &&& 31).toUInt32).toInt32) = (0 : Int32) from by decide]
 refine w_i2b X0 hx (d12_7 hby) (pc' := 8) rfl ?_
 rw [show ((0 : Int32).toInt8.toInt32) = (0 : Int32) from by decide]
 exact w_done X0 hlk (v := some (.int (0 : Int32))) e0 (fun h => by rw [hret] at h; cases h) (fun fs hr => retN X0 hx (t := .byte) hret (by simp) (d12_8 hby) hr) (by decide) (by decide) (⟨rfl, N0, rfl⟩)
theorem ef_m12_29 (m : MethodId) (a0 : Addr)  : entryFrame m #[(.ref a0), (.int (2 : Int32))] 2 = mkF m 0 #[.val (.ref a0), .val (.int (2 : Int32))] [] := by first | (simp [entryFrame, mkF, argsToLocals, Value.category]; done) | rfl
def Q_m12_29 (Z : State) (a0 : Addr) (k_a0 : ClassId) (jj0 : Int32) (jj1 : Int32) (jj2 : Int32) (jj3 : Int32) (h0 : Heap) (n0 : Nat) (v : Option Value) (h : Heap) (L : List Loc) : Prop := v = some (.int (1 : Int32)) ∧ Fr n0 L ∧ h = h0
theorem rm_m12_29 (l : Launch) (Z : State) (aZ : Array Value) (hw : ∀ d ∈ tables_1, d.before aZ Z = true) (ws : List Jvm.Cond) (a0 : Addr) (k_a0 : ClassId) (jj0 : Int32) (jj1 : Int32) (jj2 : Int32) (jj3 : Int32) (h0 : Heap) (n0 : Nat) (Z0 : n0 ≤ h0.size) (V_a0 : Arv Z h0 a0 k_a0 .byte (4 : Int32) [(.int jj0), (.int jj1), (.int jj2), (.int jj3)] (.int (0 : Int32))) :
    MetN l Z yn_12 jdk_52_method_15_code 2 (some .byte) ws ({ frames := 0, cells := 0, slots := 0, locals := 0 } : Room) #[(.ref a0), (.int (2 : Int32))] h0 (Q_m12_29 Z a0 k_a0 jj0 jj1 jj2 jj3 h0 n0) := by
 refine MetN.of (plainFor_of_name pn_1) ?_
 intro p e s m below meth c s₁ hret hx hby hml hown hnm hlk hZ X0 e0
 have N0 := Fr.nil n0
 rw [ef_m12_29 m a0]
 refine w_iloadN X0 hx (d12_0 hby) rfl (pc' := 1) rfl ?_
 refine w_aloadN X0 hx (d12_1 hby) rfl rfl (pc' := 2) rfl ?_
 refine w_alen X0 hx hZ e0 V_a0 (d12_2 hby) (pc' := 3) rfl ?_
 refine w_isub X0 hx (d12_3 hby) (pc' := 4) rfl ?_
 rw [show ((2 : Int32) - (4 : Int32)) = (-2 : Int32) from by decide]
 refine w_bipush X0 hx (d12_4 hby) (v := (31 : Int32)) rfl (pc' := 6) rfl ?_
 refine w_iushr X0 hx (d12_6 hby) (pc' := 7) rfl ?_
 rw [show (((-2 : Int32).toUInt32 >>> ((31 : Int32) &&& 31).toUInt32).toInt32) = (1 : Int32) from by decide]
 refine w_i2b X0 hx (d12_7 hby) (pc' := 8) rfl ?_
 rw [show ((1 : Int32).toInt8.toInt32) = (1 : Int32) from by decide]
 exact w_done X0 hlk (v := some (.int (1 : Int32))) e0 (fun h => by rw [hret] at h; cases h) (fun fs hr => retN X0 hx (t := .byte) hret (by simp) (d12_8 hby) hr) (by decide) (by decide) (⟨rfl, N0, rfl⟩)
theorem ef_m3_19 (m : MethodId) (a0 : Addr) (a1 : Addr)  : entryFrame m #[(.ref a0), (.ref a1), (.int (0 : Int32)), (.int (2 : Int32)), .null] 6 = mkF m 0 #[.val (.ref a0), .val (.ref a1), .val (.int (0 : Int32)), .val (.int (2 : Int32)), .val .null, .unset] [] := by first | (simp [entryFrame, mkF, argsToLocals, Value.category]; done) | rfl
def Q_m3_19 (Z : State) (a0 : Addr) (a1 : Addr) (jj0 : Int32) (k_a1 : ClassId) (jj1 : Int32) (jj2 : Int32) (h0 : Heap) (n0 : Nat) (v : Option Value) (h : Heap) (L : List Loc) : Prop := (∃ (t : Addr) (kb : ClassId), v = none ∧ Fr n0 L ∧ Keep h0 h [a0] ∧ Exa Z h a0 kc0 ∧ Fld Z h a0 kc0 "coder" "B" (.int (0 : Int32)) ∧ Fld Z h a0 kc0 "value" "[B" (.ref t) ∧ h0.size ≤ t ∧ Arv Z h t kb .byte (2 : Int32) [(.int (jj1.toInt8.toInt32)), (.int (jj2.toInt8.toInt32))] (.int (0 : Int32)) ∧ ¬ ((255 : Int32) < jj1) ∧ ¬ ((255 : Int32) < jj2)) ∨ (∃ (t : Addr) (kb : ClassId), v = none ∧ Fr n0 L ∧ Keep h0 h [a0] ∧ Exa Z h a0 kc0 ∧ Fld Z h a0 kc0 "coder" "B" (.int (1 : Int32)) ∧ Fld Z h a0 kc0 "value" "[B" (.ref t) ∧ h0.size ≤ t ∧ Arv Z h t kb .byte (4 : Int32) [(.int ((jj1 >>> ((0 : Int32) &&& 31)).toInt8.toInt32)), (.int ((jj1 >>> ((8 : Int32) &&& 31)).toInt8.toInt32)), (.int ((jj2 >>> ((0 : Int32) &&& 31)).toInt8.toInt32)), (.int ((jj2 >>> ((8 : Int32) &&& 31)).toInt8.toInt32))] (.int (0 : Int32)) ∧ ((255 : Int32) < jj1 ∨ (255 : Int32) < jj2))
theorem rm_m3_19 (l : Launch) (Z : State) (aZ : Array Value) (hw : ∀ d ∈ tables_1, d.before aZ Z = true) (ws : List Jvm.Cond) (a0 : Addr) (a1 : Addr) (jj0 : Int32) (k_a1 : ClassId) (jj1 : Int32) (jj2 : Int32) (h0 : Heap) (n0 : Nat) (Z0 : n0 ≤ h0.size) (zz3 : Sta Z Z.heap kc0 "COMPACT_STRINGS" "Z" (.int jj0)) (O0 : Old Z n0 h0) (hP_2 : ¬ (jj0 = (0 : Int32))) (V_a1 : Arv Z h0 a1 k_a1 .char (2 : Int32) [(.int jj1), (.int jj2)] (.int (0 : Int32))) (zz4 : nar .char jj1 = jj1) (zz5 : nar .char jj2 = jj2) (zz6 : Sta Z Z.heap kc1 "$assertionsDisabled" "Z" (.int (1 : Int32))) (zz7 : Sta Z Z.heap kc1 "HI_BYTE_SHIFT" "I" (.int (0 : Int32))) (zz8 : Sta Z Z.heap kc1 "LO_BYTE_SHIFT" "I" (.int (8 : Int32))) (E_a0 : Exa Z h0 a0 kc0) (zz9 : Fld Z h0 a0 kc0 "coder" "B" (.int (0 : Int32))) (zz10 : n0 ≤ a0) (zz11 : Fld Z h0 a0 kc0 "value" "[B" .null) :
    MetN l Z yn_3 jdk_42_method_149_code 6 none ws ({ frames := 4, cells := 2, slots := 6, locals := 57 } : Room) #[(.ref a0), (.ref a1), (.int (0 : Int32)), (.int (2 : Int32)), .null] h0 (Q_m3_19 Z a0 a1 jj0 k_a1 jj1 jj2 h0 n0) := by
 refine MetN.of (plainFor_of_name pn_0) ?_
 intro p e s m below meth c s₁ hret hx hby hml hown hnm hlk hZ X0 e0
 have N0 := Fr.nil n0
 rw [ef_m3_19 m a0 a1]
 refine w_aloadN X0 hx (d3_0 hby) rfl rfl (pc' := 1) rfl ?_
 refine w_initO X0 hx 0 hZ hown (wd_16 hw) (wd_17 hw) (wd_18 hw) e0 (by rw [hml]; rfl) (d3_1 hby) (by decide) (Nat.le_of_eq rfl) (by decide) (pc' := 4) rfl ?_
 intro T20 X20 e20
 refine w_iloadN X20 hx (d3_4 hby) rfl (pc' := 5) rfl ?_
 refine w_ifY X20 hx (d3_5 hby) (feq (by decide : ¬ ((2 : Int32) = (0 : Int32)))).2 (pc' := 27) (by decide) (by decide) ?_
 refine w_getS X20 hx "" hZ hown (Or.inl (wd_63 hw)) Via.refl e20 (zz3.ext O0.2) (d3_27 hby) (pc' := 30) rfl ?_
 intro T21 X21 e21
 refine w_ifN X21 hx (d3_30 hby) (feq hP_2).1 (pc' := 33) rfl ?_
 refine w_aloadN X21 hx (d3_33 hby) rfl rfl (pc' := 34) rfl ?_
 refine w_iloadN X21 hx (d3_34 hby) rfl (pc' := 35) rfl ?_
 refine w_iloadN X21 hx (d3_35 hby) rfl (pc' := 36) rfl ?_
 refine w_static X21 hx (y := yn_10) hown (mvT hZ (wd_66 hw)) (mvT hZ (wd_67 hw)) (mvT hZ (wd_68 hw)) (mvT hZ (wd_69 hw)) (by decide) (backOf (W := 0) (rm_m10_20 l Z aZ hw [] a1 k_a1 jj1 jj2 h0 n0 Z0 V_a1 zz6 O0 zz7 zz8 zz4 zz5) hZ (wd_69 hw) (wd_68 hw) (by decide) (by decide)) (by rw [hml]; rfl) [(.ref a1), (.int (0 : Int32)), (.int (2 : Int32))] (lenOf pd_6 rfl) rfl (Nat.le_of_eq rfl) (d3_36 hby) (fun _ _ => ⟨rfl, e21, (by decide : 0 + 2 ≤ _), (by decide : 0 + 6 ≤ _)⟩) (pc' := 39) rfl ?_
 rintro _ _ ⟨T22, L22, k22, n22⟩ X22 ⟨Lc22, hQ22, l22, y22, z22⟩
 dsimp only [Pt.U, Pt.locs, Pt.cells, Pt.slots] at X22 l22 y22 z22 hQ22 ⊢
 subst l22 y22 z22
 rcases hQ22 with ⟨t_22, kb_22, rfl, N22q, K22, g22_0, g22_1, g22_2, g22_3⟩ | ⟨t_22, kb_22, rfl, N22q, K22, g22_0, g22_1, g22_2⟩
 · have N23 := Fr.app N0 N22q
   have K24 : Keep h0 T22.heap [a0] := (Keep.refl h0 [a0]).trans K22 (all0 (P := fun x => x ∈ [a0] ∨ h0.size ≤ x))
   have ge25 : n0 ≤ t_22 := Nat.le_trans Z0 g22_0
   have sz26 : h0.size ≤ t_22 := Nat.le_trans (Nat.le_refl _) g22_0
   show Runs _ _ _ _ (T22.setTop (mkF m 39 #[.val (.ref a0), .val (.ref a1), .val (.int (0 : Int32)), .val (.int (2 : Int32)), .val .null, .unset] [(.ref t_22)]))
   refine w_astore X22 hx (d3_39 hby) rfl (L' := #[.val (.ref a0), .val (.ref a1), .val (.int (0 : Int32)), .val (.int (2 : Int32)), .val .null, .val (.ref t_22)]) rfl (pc' := 41) rfl ?_
   refine w_aloadN X22 hx (d3_41 hby) rfl rfl (pc' := 42) rfl ?_
   refine w_aload X22 hx (d3_42 hby) rfl rfl (pc' := 44) rfl ?_
   refine w_iloadN X22 hx (d3_44 hby) rfl (pc' := 45) rfl ?_
   refine w_static X22 hx (y := yn_12) hown (mvT hZ (wd_73 hw)) (mvT hZ (wd_74 hw)) (mvT hZ (wd_68 hw)) (mvT hZ (wd_75 hw)) (by decide) (backOf (W := 1) (rm_m12_28 l Z aZ hw [] t_22 kb_22 (jj1.toInt8.toInt32) (jj2.toInt8.toInt32) T22.heap n0 (Nat.le_trans Z0 K22.1) g22_1) hZ (wd_75 hw) (wd_68 hw) (by decide) (by decide)) (by rw [hml]; rfl) [(.ref t_22), (.int (2 : Int32))] (lenOf pd_8 rfl) rfl (Nat.le_of_eq rfl) (d3_45 hby) (fun _ _ => ⟨rfl, rfl, (by decide : 2 + 0 ≤ _), (by decide : 6 + 0 ≤ _)⟩) (pc' := 48) rfl ?_
   rintro _ _ ⟨T27, L27, k27, n27⟩ X27 ⟨Lc27, hQ27, l27, y27, z27⟩
   dsimp only [Pt.U, Pt.locs, Pt.cells, Pt.slots] at X27 l27 y27 z27 hQ27 ⊢
   subst l27 y27 z27
   obtain ⟨rfl, N27q, e27⟩ := hQ27
   have N28 := Fr.app N23 N27q
   show Runs _ _ _ _ (T27.setTop (mkF m 48 #[.val (.ref a0), .val (.ref a1), .val (.int (0 : Int32)), .val (.int (2 : Int32)), .val .null, .val (.ref t_22)] [(.int (0 : Int32)), (.ref a0)]))
   have f29 : Exa Z T22.heap a0 kc0 := (E_a0.keep K22)
   have f30 : Fld Z T22.heap a0 kc0 "coder" "B" (.int (0 : Int32)) := (zz9.keep K22 nin0)
   refine w_putF X27 hx "" hZ hown (Or.inl (wd_26 hw)) Via.refl e27 f30 f29 (Or.inr ⟨(wd_22 hw), rfl, hnm⟩) (wd_7 hw) (ty := .byte) (by decide) rfl rfl (d3_48 hby) (pc' := 51) rfl ?_
   intro T31 h31 X31 e31 W31
   have f32 : Fld Z h31 a0 kc0 "coder" "B" (.int (0 : Int32)) := f30.same W31
   have K33 : Keep h0 h31 [a0] := K24.wr W31 (Or.inl (by simp))
   have N34 := Fr.snoc X31 N28 zz10
   refine w_aloadN X31 hx (d3_51 hby) rfl rfl (pc' := 52) rfl ?_
   refine w_aload X31 hx (d3_52 hby) rfl rfl (pc' := 54) rfl ?_
   have f35 : Exa Z h31 a0 kc0 := (f29.wr W31)
   have f36 : Fld Z h31 a0 kc0 "value" "[B" .null := ((zz11.keep K22 nin0).other W31 (Or.inr (slot_ne (Or.inr (wd_21 hw)) (Or.inr (wd_22 hw)) (by decide) (t := (.array .byte)) (t' := .byte) (by decide) (by decide))))
   refine w_putF X31 hx "" hZ hown (Or.inl (wd_25 hw)) Via.refl e31 f36 f35 (Or.inr ⟨(wd_21 hw), rfl, hnm⟩) (wd_7 hw) (ty := (.array .byte)) (by decide) rfl rfl (d3_54 hby) (pc' := 57) rfl ?_
   intro T37 h37 X37 e37 W37
   have f38 : Fld Z h37 a0 kc0 "value" "[B" (.ref t_22) := f36.same W37
   have K39 : Keep h0 h37 [a0] := K33.wr W37 (Or.inl (by simp))
   have N40 := Fr.snoc X37 N34 zz10
   have f41 : Exa Z h37 a0 kc0 := (f35.wr W37)
   have f42 : Fld Z h37 a0 kc0 "coder" "B" (.int (0 : Int32)) := (f32.other W37 (Or.inr (slot_ne (Or.inr (wd_22 hw)) (Or.inr (wd_21 hw)) (by decide) (t := .byte) (t' := (.array .byte)) (by decide) (by decide))))
   have ne43 : a0 ≠ t_22 := (Nat.ne_of_lt (Nat.lt_of_lt_of_le E_a0.lt (Nat.le_trans (Nat.le_refl _) g22_0)))
   have f44 : Arv Z h37 t_22 kb_22 .byte (2 : Int32) [(.int (jj1.toInt8.toInt32)), (.int (jj2.toInt8.toInt32))] (.int (0 : Int32)) := ((g22_1.other W31 (Ne.symm ne43)).other W37 (Ne.symm ne43))
   exact w_done X37 hlk (v := none) e37 (fun _ => rfl) (fun fs hr => X37.returnOut hx hret (d3_57 hby) hr) (by decide) (by decide) (Or.inl ⟨t_22, kb_22, rfl, N40, K39, f41, f42, f38, sz26, f44, g22_2, g22_3⟩)
 · have N45 := Fr.app N0 N22q
   have K46 : Keep h0 T22.heap [a0] := (Keep.refl h0 [a0]).trans K22 (all0 (P := fun x => x ∈ [a0] ∨ h0.size ≤ x))
   have ge47 : n0 ≤ t_22 := Nat.le_trans Z0 g22_0
   have sz48 : h0.size ≤ t_22 := Nat.le_trans (Nat.le_refl _) g22_0
   show Runs _ _ _ _ (T22.setTop (mkF m 39 #[.val (.ref a0), .val (.ref a1), .val (.int (0 : Int32)), .val (.int (2 : Int32)), .val .null, .unset] [(.ref t_22)]))
   refine w_astore X22 hx (d3_39 hby) rfl (L' := #[.val (.ref a0), .val (.ref a1), .val (.int (0 : Int32)), .val (.int (2 : Int32)), .val .null, .val (.ref t_22)]) rfl (pc' := 41) rfl ?_
   refine w_aloadN X22 hx (d3_41 hby) rfl rfl (pc' := 42) rfl ?_
   refine w_aload X22 hx (d3_42 hby) rfl rfl (pc' := 44) rfl ?_
   refine w_iloadN X22 hx (d3_44 hby) rfl (pc' := 45) rfl ?_
   refine w_static X22 hx (y := yn_12) hown (mvT hZ (wd_73 hw)) (mvT hZ (wd_74 hw)) (mvT hZ (wd_68 hw)) (mvT hZ (wd_75 hw)) (by decide) (backOf (W := 1) (rm_m12_29 l Z aZ hw [] t_22 kb_22 ((jj1 >>> ((0 : Int32) &&& 31)).toInt8.toInt32) ((jj1 >>> ((8 : Int32) &&& 31)).toInt8.toInt32) ((jj2 >>> ((0 : Int32) &&& 31)).toInt8.toInt32) ((jj2 >>> ((8 : Int32) &&& 31)).toInt8.toInt32) T22.heap n0 (Nat.le_trans Z0 K22.1) g22_1) hZ (wd_75 hw) (wd_68 hw) (by decide) (by decide)) (by rw [hml]; rfl) [(.ref t_22), (.int (2 : Int32))] (lenOf pd_8 rfl) rfl (Nat.le_of_eq rfl) (d3_45 hby) (fun _ _ => ⟨rfl, rfl, (by decide : 2 + 0 ≤ _), (by decide : 6 + 0 ≤ _)⟩) (pc' := 48) rfl ?_
   rintro _ _ ⟨T49, L49, k49, n49⟩ X49 ⟨Lc49, hQ49, l49, y49, z49⟩
   dsimp only [Pt.U, Pt.locs, Pt.cells, Pt.slots] at X49 l49 y49 z49 hQ49 ⊢
   subst l49 y49 z49
   obtain ⟨rfl, N49q, e49⟩ := hQ49
   have N50 := Fr.app N45 N49q
   show Runs _ _ _ _ (T49.setTop (mkF m 48 #[.val (.ref a0), .val (.ref a1), .val (.int (0 : Int32)), .val (.int (2 : Int32)), .val .null, .val (.ref t_22)] [(.int (1 : Int32)), (.ref a0)]))
   have f51 : Exa Z T22.heap a0 kc0 := (E_a0.keep K22)
   have f52 : Fld Z T22.heap a0 kc0 "coder" "B" (.int (0 : Int32)) := (zz9.keep K22 nin0)
   refine w_putF X49 hx "" hZ hown (Or.inl (wd_26 hw)) Via.refl e49 f52 f51 (Or.inr ⟨(wd_22 hw), rfl, hnm⟩) (wd_7 hw) (ty := .byte) (by decide) rfl rfl (d3_48 hby) (pc' := 51) rfl ?_
   intro T53 h53 X53 e53 W53
   have f54 : Fld Z h53 a0 kc0 "coder" "B" (.int (1 : Int32)) := f52.same W53
   have K55 : Keep h0 h53 [a0] := K46.wr W53 (Or.inl (by simp))
   have N56 := Fr.snoc X53 N50 zz10
   refine w_aloadN X53 hx (d3_51 hby) rfl rfl (pc' := 52) rfl ?_
   refine w_aload X53 hx (d3_52 hby) rfl rfl (pc' := 54) rfl ?_
   have f57 : Exa Z h53 a0 kc0 := (f51.wr W53)
   have f58 : Fld Z h53 a0 kc0 "value" "[B" .null := ((zz11.keep K22 nin0).other W53 (Or.inr (slot_ne (Or.inr (wd_21 hw)) (Or.inr (wd_22 hw)) (by decide) (t := (.array .byte)) (t' := .byte) (by decide) (by decide))))
   refine w_putF X53 hx "" hZ hown (Or.inl (wd_25 hw)) Via.refl e53 f58 f57 (Or.inr ⟨(wd_21 hw), rfl, hnm⟩) (wd_7 hw) (ty := (.array .byte)) (by decide) rfl rfl (d3_54 hby) (pc' := 57) rfl ?_
   intro T59 h59 X59 e59 W59
   have f60 : Fld Z h59 a0 kc0 "value" "[B" (.ref t_22) := f58.same W59
   have K61 : Keep h0 h59 [a0] := K55.wr W59 (Or.inl (by simp))
   have N62 := Fr.snoc X59 N56 zz10
   have f64 : Exa Z h59 a0 kc0 := (f57.wr W59)
   have f65 : Fld Z h59 a0 kc0 "coder" "B" (.int (1 : Int32)) := (f54.other W59 (Or.inr (slot_ne (Or.inr (wd_22 hw)) (Or.inr (wd_21 hw)) (by decide) (t := .byte) (t' := (.array .byte)) (by decide) (by decide))))
   have ne66 : a0 ≠ t_22 := (Nat.ne_of_lt (Nat.lt_of_lt_of_le E_a0.lt (Nat.le_trans (Nat.le_refl _) g22_0)))
   have f67 : Arv Z h59 t_22 kb_22 .byte (4 : Int32) [(.int ((jj1 >>> ((0 : Int32) &&& 31)).toInt8.toInt32)), (.int ((jj1 >>> ((8 : Int32) &&& 31)).toInt8.toInt32)), (.int ((jj2 >>> ((0 : Int32) &&& 31)).toInt8.toInt32)), (.int ((jj2 >>> ((8 : Int32) &&& 31)).toInt8.toInt32))] (.int (0 : Int32)) := ((g22_1.other W53 (Ne.symm ne66)).other W59 (Ne.symm ne66))
   exact w_done X59 hlk (v := none) e59 (fun _ => rfl) (fun fs hr => X59.returnOut hx hret (d3_57 hby) hr) (by decide) (by decide) (Or.inr (⟨t_22, kb_22, rfl, N62, K61, f64, f65, f60, sz48, f67, g22_2⟩))
theorem ef_m2_18 (m : MethodId) (a0 : Addr) (a1 : Addr)  : entryFrame m #[(.ref a0), (.ref a1)] 2 = mkF m 0 #[.val (.ref a0), .val (.ref a1)] [] := by first | (simp [entryFrame, mkF, argsToLocals, Value.category]; done) | rfl
def Q_m2_18 (Z : State) (a0 : Addr) (a1 : Addr) (k_a1 : ClassId) (jj0 : Int32) (jj1 : Int32) (jj2 : Int32) (h0 : Heap) (n0 : Nat) (v : Option Value) (h : Heap) (L : List Loc) : Prop := (∃ (t : Addr) (kb : ClassId), v = none ∧ Fr n0 L ∧ Keep h0 h [a0] ∧ Exa Z h a0 kc0 ∧ Fld Z h a0 kc0 "coder" "B" (.int (0 : Int32)) ∧ Fld Z h a0 kc0 "value" "[B" (.ref t) ∧ h0.size ≤ t ∧ Arv Z h t kb .byte (2 : Int32) [(.int (jj0.toInt8.toInt32)), (.int (jj1.toInt8.toInt32))] (.int (0 : Int32)) ∧ ¬ ((255 : Int32) < jj0) ∧ ¬ ((255 : Int32) < jj1)) ∨ (∃ (t : Addr) (kb : ClassId), v = none ∧ Fr n0 L ∧ Keep h0 h [a0] ∧ Exa Z h a0 kc0 ∧ Fld Z h a0 kc0 "coder" "B" (.int (1 : Int32)) ∧ Fld Z h a0 kc0 "value" "[B" (.ref t) ∧ h0.size ≤ t ∧ Arv Z h t kb .byte (4 : Int32) [(.int ((jj0 >>> ((0 : Int32) &&& 31)).toInt8.toInt32)), (.int ((jj0 >>> ((8 : Int32) &&& 31)).toInt8.toInt32)), (.int ((jj1 >>> ((0 : Int32) &&& 31)).toInt8.toInt32)), (.int ((jj1 >>> ((8 : Int32) &&& 31)).toInt8.toInt32))] (.int (0 : Int32)) ∧ ((255 : Int32) < jj0 ∨ (255 : Int32) < jj1))
theorem rm_m2_18 (l : Launch) (Z : State) (aZ : Array Value) (hw : ∀ d ∈ tables_1, d.before aZ Z = true) (ws : List Jvm.Cond) (a0 : Addr) (a1 : Addr) (k_a1 : ClassId) (jj0 : Int32) (jj1 : Int32) (jj2 : Int32) (h0 : Heap) (n0 : Nat) (Z0 : n0 ≤ h0.size) (V_a1 : Arv Z h0 a1 k_a1 .char (2 : Int32) [(.int jj0), (.int jj1)] (.int (0 : Int32))) (hP_1 : ¬ (jj2 = (0 : Int32))) (zz3 : nar .char jj0 = jj0) (zz4 : nar .char jj1 = jj1) (E_a0 : Exa Z h0 a0 kc0) (zz5 : Fld Z h0 a0 kc0 "coder" "B" (.int (0 : Int32))) (zz6 : Fld Z h0 a0 kc0 "value" "[B" .null) (zz7 : Sta Z Z.heap kc0 "COMPACT_STRINGS" "Z" (.int jj2)) (O0 : Old Z n0 h0) (zz8 : Sta Z Z.heap kc1 "$assertionsDisabled" "Z" (.int (1 : Int32))) (zz9 : Sta Z Z.heap kc1 "HI_BYTE_SHIFT" "I" (.int (0 : Int32))) (zz10 : Sta Z Z.heap kc1 "LO_BYTE_SHIFT" "I" (.int (8 : Int32))) (zz11 : n0 ≤ a0) :
    MetN l Z yn_2 jdk_42_method_3_code 2 none ws ({ frames := 5, cells := 2, slots := 6, locals := 74 } : Room) #[(.ref a0), (.ref a1)] h0 (Q_m2_18 Z a0 a1 k_a1 jj0 jj1 jj2 h0 n0) := by
 refine MetN.of (plainFor_of_name pn_0) ?_
 intro p e s m below meth c s₁ hret hx hby hml hown hnm hlk hZ X0 e0
 have N0 := Fr.nil n0
 rw [ef_m2_18 m a0 a1]
 refine w_aloadN X0 hx (d2_0 hby) rfl rfl (pc' := 1) rfl ?_
 refine w_aloadN X0 hx (d2_1 hby) rfl rfl (pc' := 2) rfl ?_
 refine w_iconst X0 hx (d2_2 hby) (v := (0 : Int32)) rfl (pc' := 3) rfl ?_
 refine w_aloadN X0 hx (d2_3 hby) rfl rfl (pc' := 4) rfl ?_
 refine w_alen X0 hx hZ e0 V_a1 (d2_4 hby) (pc' := 5) rfl ?_
 refine w_null X0 hx (d2_5 hby) (pc' := 6) rfl ?_
 refine w_special X0 hx (y := yn_3) rfl hown (mvT hZ (wd_12 hw)) (mvT hZ (wd_13 hw)) (mvT hZ (wd_15 hw)) (by decide) (backOf (W := 0) (rm_m3_19 l Z aZ hw [] a0 a1 jj2 k_a1 jj0 jj1 h0 n0 Z0 zz7 O0 hP_1 V_a1 zz3 zz4 zz8 zz9 zz10 E_a0 zz5 zz11 zz6) hZ (wd_15 hw) (wd_8 hw) (by decide) (by decide)) (by rw [hml]; rfl) [(.ref a1), (.int (0 : Int32)), (.int (2 : Int32)), .null] (lenOf pd_0 rfl) rfl (Nat.le_of_eq rfl) (d2_6 hby) (fun _ _ => ⟨rfl, e0, (by decide : 0 + 2 ≤ _), (by decide : 0 + 6 ≤ _)⟩) (pc' := 9) rfl ?_
 rintro _ _ ⟨T20, L20, k20, n20⟩ X20 ⟨Lc20, hQ20, l20, y20, z20⟩
 dsimp only [Pt.U, Pt.locs, Pt.cells, Pt.slots] at X20 l20 y20 z20 hQ20 ⊢
 subst l20 y20 z20
 rcases hQ20 with ⟨t_20, kb_20, rfl, N20q, K20, g20_0, g20_1, g20_2, g20_3, g20_4, g20_5, g20_6⟩ | ⟨t_20, kb_20, rfl, N20q, K20, g20_0, g20_1, g20_2, g20_3, g20_4, g20_5⟩
 · have N21 := Fr.app N0 N20q
   have K22 : Keep h0 T20.heap [a0] := (Keep.refl h0 [a0]).trans K20 (allS (Or.inl (by simp)) (all0 (P := fun x => x ∈ [a0] ∨ h0.size ≤ x)))
   have ge23 : n0 ≤ t_20 := Nat.le_trans Z0 g20_3
   have sz24 : h0.size ≤ t_20 := Nat.le_trans (Nat.le_refl _) g20_3
   show Runs _ _ _ _ (T20.setTop (mkF m 9 #[.val (.ref a0), .val (.ref a1)] []))
   exact w_done X20 hlk (v := none) rfl (fun _ => rfl) (fun fs hr => X20.returnOut hx hret (d2_9 hby) hr) (by decide) (by decide) (Or.inl ⟨t_20, kb_20, rfl, N21, K22, g20_0, g20_1, g20_2, sz24, g20_4, g20_5, g20_6⟩)
 · have N25 := Fr.app N0 N20q
   have K26 : Keep h0 T20.heap [a0] := (Keep.refl h0 [a0]).trans K20 (allS (Or.inl (by simp)) (all0 (P := fun x => x ∈ [a0] ∨ h0.size ≤ x)))
   have ge27 : n0 ≤ t_20 := Nat.le_trans Z0 g20_3
   have sz28 : h0.size ≤ t_20 := Nat.le_trans (Nat.le_refl _) g20_3
   show Runs _ _ _ _ (T20.setTop (mkF m 9 #[.val (.ref a0), .val (.ref a1)] []))
   exact w_done X20 hlk (v := none) rfl (fun _ => rfl) (fun fs hr => X20.returnOut hx hret (d2_9 hby) hr) (by decide) (by decide) (Or.inr (⟨t_20, kb_20, rfl, N25, K26, g20_0, g20_1, g20_2, sz28, g20_4, g20_5⟩))
theorem ef_m11_33 (m : MethodId) (a0 : Addr) (a2 : Addr)  : entryFrame m #[(.ref a0), (.int (0 : Int32)), (.ref a2), (.int (0 : Int32)), (.int (3 : Int32))] 7 = mkF m 0 #[.val (.ref a0), .val (.int (0 : Int32)), .val (.ref a2), .val (.int (0 : Int32)), .val (.int (3 : Int32)), .unset, .unset] [] := by first | (simp [entryFrame, mkF, argsToLocals, Value.category]; done) | rfl
def Q_m11_33 (Z : State) (a0 : Addr) (a2 : Addr) (k_a0 : ClassId) (jj0 : Int32) (jj1 : Int32) (jj2 : Int32) (k_a2 : ClassId) (h0 : Heap) (n0 : Nat) (v : Option Value) (h : Heap) (L : List Loc) : Prop := (v = some (.int (3 : Int32)) ∧ Fr n0 L ∧ Keep h0 h [a2] ∧ Arv Z h a2 k_a2 .byte (3 : Int32) [(.int (jj0.toInt8.toInt32)), (.int (jj1.toInt8.toInt32)), (.int (jj2.toInt8.toInt32))] (.int (0 : Int32)) ∧ ¬ ((255 : Int32) < jj0) ∧ ¬ ((255 : Int32) < jj1) ∧ ¬ ((255 : Int32) < jj2)) ∨ (∃ (j : Int32), v = some (.int j) ∧ Fr n0 L ∧ Keep h0 h [a2] ∧ ¬ (j < (0 : Int32)) ∧ j < (3 : Int32) ∧ (255 : Int32) < (gI [jj0, jj1, jj2, (0 : Int32)] j))
theorem rm_m11_33 (l : Launch) (Z : State) (aZ : Array Value) (hw : ∀ d ∈ tables_1, d.before aZ Z = true) (ws : List Jvm.Cond) (a0 : Addr) (a2 : Addr) (k_a0 : ClassId) (jj0 : Int32) (jj1 : Int32) (jj2 : Int32) (k_a2 : ClassId) (h0 : Heap) (n0 : Nat) (Z0 : n0 ≤ h0.size) (V_a0 : Arv Z h0 a0 k_a0 .char (3 : Int32) [(.int jj0), (.int jj1), (.int jj2)] (.int (0 : Int32))) (V_a2 : Arv Z h0 a2 k_a2 .byte (3 : Int32) [(.int (0 : Int32)), (.int (0 : Int32)), (.int (0 : Int32))] (.int (0 : Int32))) (zz3 : n0 ≤ a2) (zz4 : a0 ≠ a2) :
    MetN l Z yn_11 jdk_52_method_21_code 7 (some .int) ws ({ frames := 0, cells := 0, slots := 0, locals := 0 } : Room) #[(.ref a0), (.int (0 : Int32)), (.ref a2), (.int (0 : Int32)), (.int (3 : Int32))] h0 (Q_m11_33 Z a0 a2 k_a0 jj0 jj1 jj2 k_a2 h0 n0) := by
 refine MetN.of (plainFor_of_name pn_1) ?_
 intro p e s m below meth c s₁ hret hx hby hml hown hnm hlk hZ X0 e0
 have N0 := Fr.nil n0
 rw [ef_m11_33 m a0 a2]
 refine w_iconst X0 hx (d11_0 hby) (v := (0 : Int32)) rfl (pc' := 1) rfl ?_
 refine w_istore X0 hx (d11_1 hby) (L' := #[.val (.ref a0), .val (.int (0 : Int32)), .val (.ref a2), .val (.int (0 : Int32)), .val (.int (3 : Int32)), .val (.int (0 : Int32)), .unset]) rfl (pc' := 3) rfl ?_
 refine w_iload X0 hx (d11_3 hby) rfl (pc' := 5) rfl ?_
 refine w_iload X0 hx (d11_5 hby) rfl (pc' := 7) rfl ?_
 refine w_icN X0 hx (d11_7 hby) (tlt (by decide : (0 : Int32) < (3 : Int32))).2.1 (pc' := 10) rfl ?_
 refine w_aloadN X0 hx (d11_10 hby) rfl rfl (pc' := 11) rfl ?_
 refine w_iloadN X0 hx (d11_11 hby) rfl (pc' := 12) rfl ?_
 obtain ⟨clu20, Aru20, qu20, Su20, Nu20, Hu20, Gu20⟩ := id V_a0
 have hinu20 := inb_of (j := (0 : Int32)) Su20 ⟨by decide, by decide⟩
 refine w_caload X0 hx hZ e0 Aru20 hinu20 (Hu20.at hinu20 rfl) (d11_12 hby) (pc' := 13) rfl ?_
 refine w_istore X0 hx (d11_13 hby) (L' := #[.val (.ref a0), .val (.int (0 : Int32)), .val (.ref a2), .val (.int (0 : Int32)), .val (.int (3 : Int32)), .val (.int (0 : Int32)), .val (.int jj0)]) rfl (pc' := 15) rfl ?_
 refine w_iload X0 hx (d11_15 hby) rfl (pc' := 17) rfl ?_
 refine w_sipush X0 hx (d11_17 hby) (v := (255 : Int32)) rfl (pc' := 20) rfl ?_
 by_cases hc21 : (255 : Int32) < jj0
 · refine w_icN X0 hx (d11_20 hby) (tlt hc21).2.2.2 (pc' := 23) rfl ?_
   refine w_iload X0 hx (d11_23 hby) rfl (pc' := 25) rfl ?_
   exact w_done X0 hlk (v := some (.int (0 : Int32))) e0 (fun h => by rw [hret] at h; cases h) (fun fs hr => retI X0 hx hret (d11_25 hby) hr) (by decide) (by decide) (Or.inr (⟨(0 : Int32), rfl, N0, (Keep.refl h0 [a2]), (by decide : ¬ ((0 : Int32) < (0 : Int32))), (by decide : (0 : Int32) < (3 : Int32)), (show (255 : Int32) < (gI [jj0, jj1, jj2, (0 : Int32)] (0 : Int32)) from hc21)⟩))
 · refine w_icY X0 hx (d11_20 hby) (flt hc21).2.2.2 (pc' := 26) (by decide) (by decide) ?_
   refine w_aloadN X0 hx (d11_26 hby) rfl rfl (pc' := 27) rfl ?_
   refine w_iloadN X0 hx (d11_27 hby) rfl (pc' := 28) rfl ?_
   refine w_iload X0 hx (d11_28 hby) rfl (pc' := 30) rfl ?_
   refine w_i2b X0 hx (d11_30 hby) (pc' := 31) rfl ?_
   obtain ⟨clu22, Aru22, qu22, Su22, Nu22, Hu22, Gu22⟩ := id V_a2
   have hinu22 := inb_of (j := (0 : Int32)) Su22 ⟨by decide, by decide⟩
   refine w_stB X0 hx hZ e0 Aru22 hinu22 (d11_31 hby) (pc' := 32) rfl ?_
   intro T23 h23 X23 e23 W23
   have V24 : Arv Z h23 a2 k_a2 .byte (3 : Int32) [(.int (nar .byte (jj0.toInt8.toInt32))), (.int (0 : Int32)), (.int (0 : Int32))] (.int (0 : Int32)) := Arv.set Aru22 qu22 Su22 Nu22 Hu22 Gu22 (fits_nar_byte _) W23 0 rfl (Nat.le_of_ble_eq_true rfl)
   have V25 : Arv Z h23 a2 k_a2 .byte (3 : Int32) [(.int (jj0.toInt8.toInt32)), (.int (0 : Int32)), (.int (0 : Int32))] (.int (0 : Int32)) := by rw [nar_b] at V24; exact V24
   have K26 : Keep h0 h23 [a2] := (Keep.refl h0 [a2]).wr W23 (Or.inl (by simp))
   have N27 := Fr.snoc X23 N0 zz3
   refine w_iinc X23 hx (d11_32 hby) (v := (1 : Int32)) rfl rfl (L' := #[.val (.ref a0), .val (.int ((0 : Int32) + (1 : Int32))), .val (.ref a2), .val (.int (0 : Int32)), .val (.int (3 : Int32)), .val (.int (0 : Int32)), .val (.int jj0)]) rfl (pc' := 35) rfl ?_
   rw [show ((0 : Int32) + (1 : Int32)) = (1 : Int32) from by decide]
   refine w_iinc X23 hx (d11_35 hby) (v := (1 : Int32)) rfl rfl (L' := #[.val (.ref a0), .val (.int (1 : Int32)), .val (.ref a2), .val (.int ((0 : Int32) + (1 : Int32))), .val (.int (3 : Int32)), .val (.int (0 : Int32)), .val (.int jj0)]) rfl (pc' := 38) rfl ?_
   rw [show ((0 : Int32) + (1 : Int32)) = (1 : Int32) from by decide]
   refine w_iinc X23 hx (d11_38 hby) (v := (1 : Int32)) rfl rfl (L' := #[.val (.ref a0), .val (.int (1 : Int32)), .val (.ref a2), .val (.int (1 : Int32)), .val (.int (3 : Int32)), .val (.int ((0 : Int32) + (1 : Int32))), .val (.int jj0)]) rfl (pc' := 41) rfl ?_
   rw [show ((0 : Int32) + (1 : Int32)) = (1 : Int32) from by decide]
   refine w_goto X23 hx (d11_41 hby) (pc' := 3) (by decide) (by decide) ?_
   refine w_iload X23 hx (d11_3 hby) rfl (pc' := 5) rfl ?_
   refine w_iload X23 hx (d11_5 hby) rfl (pc' := 7) rfl ?_
   refine w_icN X23 hx (d11_7 hby) (tlt (by decide : (1 : Int32) < (3 : Int32))).2.1 (pc' := 10) rfl ?_
   refine w_aloadN X23 hx (d11_10 hby) rfl rfl (pc' := 11) rfl ?_
   refine w_iloadN X23 hx (d11_11 hby) rfl (pc' := 12) rfl ?_
   have f28 : Arv Z h23 a0 k_a0 .char (3 : Int32) [(.int jj0), (.int jj1), (.int jj2)] (.int (0 : Int32)) := (V_a0.other W23 zz4)
   obtain ⟨clu29, Aru29, qu29, Su29, Nu29, Hu29, Gu29⟩ := id f28
   have hinu29 := inb_of (j := (1 : Int32)) Su29 ⟨by decide, by decide⟩
   refine w_caload X23 hx hZ e23 Aru29 hinu29 (Hu29.at hinu29 rfl) (d11_12 hby) (pc' := 13) rfl ?_
   refine w_istore X23 hx (d11_13 hby) (L' := #[.val (.ref a0), .val (.int (1 : Int32)), .val (.ref a2), .val (.int (1 : Int32)), .val (.int (3 : Int32)), .val (.int (1 : Int32)), .val (.int jj1)]) rfl (pc' := 15) rfl ?_
   refine w_iload X23 hx (d11_15 hby) rfl (pc' := 17) rfl ?_
   refine w_sipush X23 hx (d11_17 hby) (v := (255 : Int32)) rfl (pc' := 20) rfl ?_
   by_cases hc30 : (255 : Int32) < jj1
   · refine w_icN X23 hx (d11_20 hby) (tlt hc30).2.2.2 (pc' := 23) rfl ?_
     refine w_iload X23 hx (d11_23 hby) rfl (pc' := 25) rfl ?_
     exact w_done X23 hlk (v := some (.int (1 : Int32))) e23 (fun h => by rw [hret] at h; cases h) (fun fs hr => retI X23 hx hret (d11_25 hby) hr) (by decide) (by decide) (Or.inr (⟨(1 : Int32), rfl, N27, K26, (by decide : ¬ ((1 : Int32) < (0 : Int32))), (by decide : (1 : Int32) < (3 : Int32)), (show (255 : Int32) < (gI [jj0, jj1, jj2, (0 : Int32)] (1 : Int32)) from hc30)⟩))
   · refine w_icY X23 hx (d11_20 hby) (flt hc30).2.2.2 (pc' := 26) (by decide) (by decide) ?_
     refine w_aloadN X23 hx (d11_26 hby) rfl rfl (pc' := 27) rfl ?_
     refine w_iloadN X23 hx (d11_27 hby) rfl (pc' := 28) rfl ?_
     refine w_iload X23 hx (d11_28 hby) rfl (pc' := 30) rfl ?_
     refine w_i2b X23 hx (d11_30 hby) (pc' := 31) rfl ?_
     obtain ⟨clu31, Aru31, qu31, Su31, Nu31, Hu31, Gu31⟩ := id V25
     have hinu31 := inb_of (j := (1 : Int32)) Su31 ⟨by decide, by decide⟩
     refine w_stB X23 hx hZ e23 Aru31 hinu31 (d11_31 hby) (pc' := 32) rfl ?_
     intro T32 h32 X32 e32 W32
     have V33 : Arv Z h32 a2 k_a2 .byte (3 : Int32) [(.int (jj0.toInt8.toInt32)), (.int (nar .byte (jj1.toInt8.toInt32))), (.int (0 : Int32))] (.int (0 : Int32)) := Arv.set Aru31 qu31 Su31 Nu31 Hu31 Gu31 (fits_nar_byte _) W32 1 rfl (Nat.le_of_ble_eq_true rfl)
     have V34 : Arv Z h32 a2 k_a2 .byte (3 : Int32) [(.int (jj0.toInt8.toInt32)), (.int (jj1.toInt8.toInt32)), (.int (0 : Int32))] (.int (0 : Int32)) := by rw [nar_b] at V33; exact V33
     have K35 : Keep h0 h32 [a2] := K26.wr W32 (Or.inl (by simp))
     have N36 := Fr.snoc X32 N27 zz3
     refine w_iinc X32 hx (d11_32 hby) (v := (1 : Int32)) rfl rfl (L' := #[.val (.ref a0), .val (.int ((1 : Int32) + (1 : Int32))), .val (.ref a2), .val (.int (1 : Int32)), .val (.int (3 : Int32)), .val (.int (1 : Int32)), .val (.int jj1)]) rfl (pc' := 35) rfl ?_
     rw [show ((1 : Int32) + (1 : Int32)) = (2 : Int32) from by decide]
     refine w_iinc X32 hx (d11_35 hby) (v := (1 : Int32)) rfl rfl (L' := #[.val (.ref a0), .val (.int (2 : Int32)), .val (.ref a2), .val (.int ((1 : Int32) + (1 : Int32))), .val (.int (3 : Int32)), .val (.int (1 : Int32)), .val (.int jj1)]) rfl (pc' := 38) rfl ?_
     rw [show ((1 : Int32) + (1 : Int32)) = (2 : Int32) from by decide]
     refine w_iinc X32 hx (d11_38 hby) (v := (1 : Int32)) rfl rfl (L' := #[.val (.ref a0), .val (.int (2 : Int32)), .val (.ref a2), .val (.int (2 : Int32)), .val (.int (3 : Int32)), .val (.int ((1 : Int32) + (1 : Int32))), .val (.int jj1)]) rfl (pc' := 41) rfl ?_
     rw [show ((1 : Int32) + (1 : Int32)) = (2 : Int32) from by decide]
     refine w_goto X32 hx (d11_41 hby) (pc' := 3) (by decide) (by decide) ?_
     refine w_iload X32 hx (d11_3 hby) rfl (pc' := 5) rfl ?_
     refine w_iload X32 hx (d11_5 hby) rfl (pc' := 7) rfl ?_
     refine w_icN X32 hx (d11_7 hby) (tlt (by decide : (2 : Int32) < (3 : Int32))).2.1 (pc' := 10) rfl ?_
     refine w_aloadN X32 hx (d11_10 hby) rfl rfl (pc' := 11) rfl ?_
     refine w_iloadN X32 hx (d11_11 hby) rfl (pc' := 12) rfl ?_
     have f37 : Arv Z h32 a0 k_a0 .char (3 : Int32) [(.int jj0), (.int jj1), (.int jj2)] (.int (0 : Int32)) := (f28.other W32 zz4)
     obtain ⟨clu38, Aru38, qu38, Su38, Nu38, Hu38, Gu38⟩ := id f37
     have hinu38 := inb_of (j := (2 : Int32)) Su38 ⟨by decide, by decide⟩
     refine w_caload X32 hx hZ e32 Aru38 hinu38 (Hu38.at hinu38 rfl) (d11_12 hby) (pc' := 13) rfl ?_
     refine w_istore X32 hx (d11_13 hby) (L' := #[.val (.ref a0), .val (.int (2 : Int32)), .val (.ref a2), .val (.int (2 : Int32)), .val (.int (3 : Int32)), .val (.int (2 : Int32)), .val (.int jj2)]) rfl (pc' := 15) rfl ?_
     refine w_iload X32 hx (d11_15 hby) rfl (pc' := 17) rfl ?_
     refine w_sipush X32 hx (d11_17 hby) (v := (255 : Int32)) rfl (pc' := 20) rfl ?_
     by_cases hc39 : (255 : Int32) < jj2
     · refine w_icN X32 hx (d11_20 hby) (tlt hc39).2.2.2 (pc' := 23) rfl ?_
       refine w_iload X32 hx (d11_23 hby) rfl (pc' := 25) rfl ?_
       exact w_done X32 hlk (v := some (.int (2 : Int32))) e32 (fun h => by rw [hret] at h; cases h) (fun fs hr => retI X32 hx hret (d11_25 hby) hr) (by decide) (by decide) (Or.inr (⟨(2 : Int32), rfl, N36, K35, (by decide : ¬ ((2 : Int32) < (0 : Int32))), (by decide : (2 : Int32) < (3 : Int32)), (show (255 : Int32) < (gI [jj0, jj1, jj2, (0 : Int32)] (2 : Int32)) from hc39)⟩))
     · refine w_icY X32 hx (d11_20 hby) (flt hc39).2.2.2 (pc' := 26) (by decide) (by decide) ?_
       refine w_aloadN X32 hx (d11_26 hby) rfl rfl (pc' := 27) rfl ?_
       refine w_iloadN X32 hx (d11_27 hby) rfl (pc' := 28) rfl ?_
       refine w_iload X32 hx (d11_28 hby) rfl (pc' := 30) rfl ?_
       refine w_i2b X32 hx (d11_30 hby) (pc' := 31) rfl ?_
       obtain ⟨clu40, Aru40, qu40, Su40, Nu40, Hu40, Gu40⟩ := id V34
       have hinu40 := inb_of (j := (2 : Int32)) Su40 ⟨by decide, by decide⟩
       refine w_stB X32 hx hZ e32 Aru40 hinu40 (d11_31 hby) (pc' := 32) rfl ?_
       intro T41 h41 X41 e41 W41
       have V42 : Arv Z h41 a2 k_a2 .byte (3 : Int32) [(.int (jj0.toInt8.toInt32)), (.int (jj1.toInt8.toInt32)), (.int (nar .byte (jj2.toInt8.toInt32)))] (.int (0 : Int32)) := Arv.set Aru40 qu40 Su40 Nu40 Hu40 Gu40 (fits_nar_byte _) W41 2 rfl (Nat.le_of_ble_eq_true rfl)
       have V43 : Arv Z h41 a2 k_a2 .byte (3 : Int32) [(.int (jj0.toInt8.toInt32)), (.int (jj1.toInt8.toInt32)), (.int (jj2.toInt8.toInt32))] (.int (0 : Int32)) := by rw [nar_b] at V42; exact V42
       have K44 : Keep h0 h41 [a2] := K35.wr W41 (Or.inl (by simp))
       have N45 := Fr.snoc X41 N36 zz3
       refine w_iinc X41 hx (d11_32 hby) (v := (1 : Int32)) rfl rfl (L' := #[.val (.ref a0), .val (.int ((2 : Int32) + (1 : Int32))), .val (.ref a2), .val (.int (2 : Int32)), .val (.int (3 : Int32)), .val (.int (2 : Int32)), .val (.int jj2)]) rfl (pc' := 35) rfl ?_
       rw [show ((2 : Int32) + (1 : Int32)) = (3 : Int32) from by decide]
       refine w_iinc X41 hx (d11_35 hby) (v := (1 : Int32)) rfl rfl (L' := #[.val (.ref a0), .val (.int (3 : Int32)), .val (.ref a2), .val (.int ((2 : Int32) + (1 : Int32))), .val (.int (3 : Int32)), .val (.int (2 : Int32)), .val (.int jj2)]) rfl (pc' := 38) rfl ?_
       rw [show ((2 : Int32) + (1 : Int32)) = (3 : Int32) from by decide]
       refine w_iinc X41 hx (d11_38 hby) (v := (1 : Int32)) rfl rfl (L' := #[.val (.ref a0), .val (.int (3 : Int32)), .val (.ref a2), .val (.int (3 : Int32)), .val (.int (3 : Int32)), .val (.int ((2 : Int32) + (1 : Int32))), .val (.int jj2)]) rfl (pc' := 41) rfl ?_
       rw [show ((2 : Int32) + (1 : Int32)) = (3 : Int32) from by decide]
       refine w_goto X41 hx (d11_41 hby) (pc' := 3) (by decide) (by decide) ?_
       refine w_iload X41 hx (d11_3 hby) rfl (pc' := 5) rfl ?_
       refine w_iload X41 hx (d11_5 hby) rfl (pc' := 7) rfl ?_
       refine w_icY X41 hx (d11_7 hby) (flt (by decide : ¬ ((3 : Int32) < (3 : Int32)))).2.1 (pc' := 44) (by decide) (by decide) ?_
       refine w_iload X41 hx (d11_44 hby) rfl (pc' := 46) rfl ?_
       exact w_done X41 hlk (v := some (.int (3 : Int32))) e41 (fun h => by rw [hret] at h; cases h) (fun fs hr => retI X41 hx hret (d11_46 hby) hr) (by decide) (by decide) (Or.inl ⟨rfl, N45, K44, V43, hc21, hc30, hc39⟩)
theorem ef_m20_36 (m : MethodId)   : entryFrame m #[(.int (3 : Int32))] 1 = mkF m 0 #[.val (.int (3 : Int32))] [] := by first | (simp [entryFrame, mkF, argsToLocals, Value.category]; done) | rfl
def Q_m20_36 (Z : State)  (h0 : Heap) (n0 : Nat) (v : Option Value) (h : Heap) (L : List Loc) : Prop := v = some (.int (6 : Int32)) ∧ Fr n0 L ∧ h = h0
theorem rm_m20_36 (l : Launch) (Z : State) (aZ : Array Value) (hw : ∀ d ∈ tables_1, d.before aZ Z = true) (ws : List Jvm.Cond)  (h0 : Heap) (n0 : Nat) (Z0 : n0 ≤ h0.size) :
    MetN l Z yn_20 jdk_52_method_3_code 1 (some .int) ws ({ frames := 0, cells := 0, slots := 0, locals := 0 } : Room) #[(.int (3 : Int32))] h0 (Q_m20_36 Z  h0 n0) := by
 refine MetN.of (plainFor_of_name pn_1) ?_
 intro p e s m below meth c s₁ hret hx hby hml hown hnm hlk hZ X0 e0
 have N0 := Fr.nil n0
 rw [ef_m20_36 m ]
 refine w_iloadN X0 hx (d20_0 hby) rfl (pc' := 1) rfl ?_
 refine w_ifY X0 hx (d20_1 hby) (flt (by decide : ¬ ((3 : Int32) < (0 : Int32)))).2.1 (pc' := 12) (by decide) (by decide) ?_
 refine w_iloadN X0 hx (d20_12 hby) rfl (pc' := 13) rfl ?_
 refine w_ldcI X0 hx hZ hown (wd_107 hw) (d20_13 hby) (pc' := 15) rfl ?_
 refine w_icY X0 hx (d20_15 hby) (tlt (by decide : (3 : Int32) < (1073741823 : Int32))).1 (pc' := 55) (by decide) (by decide) ?_
 refine w_iloadN X0 hx (d20_55 hby) rfl (pc' := 56) rfl ?_
 refine w_iconst X0 hx (d20_56 hby) (v := (1 : Int32)) rfl (pc' := 57) rfl ?_
 refine w_ishl X0 hx (d20_57 hby) (pc' := 58) rfl ?_
 rw [show ((3 : Int32) <<< ((1 : Int32) &&& 31)) = (6 : Int32) from by decide]
 exact w_done X0 hlk (v := some (.int (6 : Int32))) e0 (fun h => by rw [hret] at h; cases h) (fun fs hr => retI X0 hx hret (d20_58 hby) hr) (by decide) (by decide) (⟨rfl, N0, rfl⟩)
theorem ef_m19_35 (m : MethodId)   : entryFrame m #[(.int (3 : Int32))] 1 = mkF m 0 #[.val (.int (3 : Int32))] [] := by first | (simp [entryFrame, mkF, argsToLocals, Value.category]; done) | rfl
def Q_m19_35 (Z : State)  (h0 : Heap) (n0 : Nat) (v : Option Value) (h : Heap) (L : List Loc) : Prop := ∃ (r0 : Addr) (c0 : ClassId), v = some (.ref r0) ∧ Fr n0 L ∧ Keep h0 h [] ∧ h0.size ≤ r0 ∧ Arv Z h r0 c0 .byte (6 : Int32) [(.int (0 : Int32)), (.int (0 : Int32)), (.int (0 : Int32)), (.int (0 : Int32)), (.int (0 : Int32)), (.int (0 : Int32))] (.int (0 : Int32))
theorem rm_m19_35 (l : Launch) (Z : State) (aZ : Array Value) (hw : ∀ d ∈ tables_1, d.before aZ Z = true) (ws : List Jvm.Cond)  (h0 : Heap) (n0 : Nat) (Z0 : n0 ≤ h0.size) :
    MetN l Z yn_19 jdk_52_method_2_code 1 (some (.array .byte)) ws ({ frames := 1, cells := 1, slots := 6, locals := 12 } : Room) #[(.int (3 : Int32))] h0 (Q_m19_35 Z  h0 n0) := by
 refine MetN.of (plainFor_of_name pn_1) ?_
 intro p e s m below meth c s₁ hret hx hby hml hown hnm hlk hZ X0 e0
 have N0 := Fr.nil n0
 rw [ef_m19_35 m ]
 refine w_iloadN X0 hx (d19_0 hby) rfl (pc' := 1) rfl ?_
 refine w_static X0 hx (y := yn_20) hown (mvT hZ (wd_104 hw)) (mvT hZ (wd_105 hw)) (mvT hZ (wd_68 hw)) (mvT hZ (wd_106 hw)) (by decide) (backOf (W := 0) (rm_m20_36 l Z aZ hw []  h0 n0 Z0 ) hZ (wd_106 hw) (wd_68 hw) (by decide) (by decide)) (by rw [hml]; rfl) [(.int (3 : Int32))] (lenOf pd_3 rfl) rfl (Nat.le_of_eq rfl) (d19_1 hby) (fun _ _ => ⟨rfl, e0, (by decide : 0 + 0 ≤ _), (by decide : 0 + 0 ≤ _)⟩) (pc' := 4) rfl ?_
 rintro _ _ ⟨T20, L20, k20, n20⟩ X20 ⟨Lc20, hQ20, l20, y20, z20⟩
 dsimp only [Pt.U, Pt.locs, Pt.cells, Pt.slots] at X20 l20 y20 z20 hQ20 ⊢
 subst l20 y20 z20
 obtain ⟨rfl, N20q, e20⟩ := hQ20
 have N21 := Fr.app N0 N20q
 show Runs _ _ _ _ (T20.setTop (mkF m 4 #[.val (.int (3 : Int32))] [(.int (6 : Int32))]))
 refine w_newP X20 hx .byte .byte 6 rfl hZ (wd_20 hw) e20 (d19_4 hby) (by decide) (by decide) (by decide) (by decide) (by decide) (pc' := 6) rfl ?_
 intro T22 h22 k22 b22 X22 e22 E22 g22 A22
 have ge23 : n0 ≤ b22 := Nat.le_trans Z0 (Nat.le_of_eq g22.symm)
 have sz24 : h0.size ≤ b22 := Nat.le_trans (Nat.le_refl _) (Nat.le_of_eq g22.symm)
 have K25 : Keep h0 h22 [] := (Keep.refl h0 []).ext E22
 have V26 : Arv Z h22 b22 k22 .byte (6 : Int32) [(.int (0 : Int32)), (.int (0 : Int32)), (.int (0 : Int32)), (.int (0 : Int32)), (.int (0 : Int32)), (.int (0 : Int32))] (.int (0 : Int32)) := (Arv.new A22 (by decide)).pad (pad_rep [] (.int (0 : Int32)) 6)
 exact w_done X22 hlk (v := some (.ref b22)) e22 (fun h => by rw [hret] at h; cases h) (fun fs hr => retOut X22 hx hret rfl (Or.inr (Or.inr (Or.inr (Or.inr ⟨rfl, rfl, rfl⟩)))) (d19_6 hby) hr) (by decide) (by decide) (⟨b22, k22, rfl, N21, K25, sz24, V26⟩)
theorem ef_m21_37 (m : MethodId) (a0 : Addr) (p2 : Int32)  : entryFrame m #[(.ref a0), (.int (0 : Int32)), (.int p2)] 3 = mkF m 0 #[.val (.ref a0), .val (.int (0 : Int32)), .val (.int p2)] [] := by first | (simp [entryFrame, mkF, argsToLocals, Value.category]; done) | rfl
def Q_m21_37 (Z : State) (a0 : Addr) (p2 : Int32) (k_a0 : ClassId) (h0 : Heap) (n0 : Nat) (v : Option Value) (h : Heap) (L : List Loc) : Prop := v = none ∧ Fr n0 L ∧ Keep h0 h [a0] ∧ Arv Z h a0 k_a0 .byte (6 : Int32) [(.int ((p2 >>> ((0 : Int32) &&& 31)).toInt8.toInt32)), (.int ((p2 >>> ((8 : Int32) &&& 31)).toInt8.toInt32)), (.int (0 : Int32)), (.int (0 : Int32)), (.int (0 : Int32)), (.int (0 : Int32))] (.int (0 : Int32))
theorem rm_m21_37 (l : Launch) (Z : State) (aZ : Array Value) (hw : ∀ d ∈ tables_1, d.before aZ Z = true) (ws : List Jvm.Cond) (a0 : Addr) (p2 : Int32) (k_a0 : ClassId) (h0 : Heap) (n0 : Nat) (Z0 : n0 ≤ h0.size) (zz0 : Sta Z Z.heap kc1 "$assertionsDisabled" "Z" (.int (1 : Int32))) (O0 : Old Z n0 h0) (zz1 : Sta Z Z.heap kc1 "HI_BYTE_SHIFT" "I" (.int (0 : Int32))) (V_a0 : Arv Z h0 a0 k_a0 .byte (6 : Int32) [(.int (0 : Int32)), (.int (0 : Int32)), (.int (0 : Int32)), (.int (0 : Int32)), (.int (0 : Int32)), (.int (0 : Int32))] (.int (0 : Int32))) (zz2 : n0 ≤ a0) (zz3 : Sta Z Z.heap kc1 "LO_BYTE_SHIFT" "I" (.int (8 : Int32))) :
    MetN l Z yn_21 jdk_52_method_4_code 3 none ws ({ frames := 0, cells := 0, slots := 0, locals := 0 } : Room) #[(.ref a0), (.int (0 : Int32)), (.int p2)] h0 (Q_m21_37 Z a0 p2 k_a0 h0 n0) := by
 refine MetN.of (plainFor_of_name pn_1) ?_
 intro p e s m below meth c s₁ hret hx hby hml hown hnm hlk hZ X0 e0
 have N0 := Fr.nil n0
 rw [ef_m21_37 m a0 p2]
 refine w_getS X0 hx "" hZ hown (Or.inl (wd_111 hw)) Via.refl e0 (zz0.ext O0.2) (d21_0 hby) (pc' := 3) rfl ?_
 intro T20 X20 e20
 refine w_ifY X20 hx (d21_3 hby) (feq (by decide : ¬ ((1 : Int32) = (0 : Int32)))).2 (pc' := 28) (by decide) (by decide) ?_
 refine w_iloadN X20 hx (d21_28 hby) rfl (pc' := 29) rfl ?_
 refine w_iconst X20 hx (d21_29 hby) (v := (1 : Int32)) rfl (pc' := 30) rfl ?_
 refine w_ishl X20 hx (d21_30 hby) (pc' := 31) rfl ?_
 rw [show ((0 : Int32) <<< ((1 : Int32) &&& 31)) = (0 : Int32) from by decide]
 refine w_istoreN X20 hx (d21_31 hby) (L' := #[.val (.ref a0), .val (.int (0 : Int32)), .val (.int p2)]) rfl (pc' := 32) rfl ?_
 refine w_aloadN X20 hx (d21_32 hby) rfl rfl (pc' := 33) rfl ?_
 refine w_iloadN X20 hx (d21_33 hby) rfl (pc' := 34) rfl ?_
 refine w_iinc X20 hx (d21_34 hby) (v := (1 : Int32)) rfl rfl (L' := #[.val (.ref a0), .val (.int ((0 : Int32) + (1 : Int32))), .val (.int p2)]) rfl (pc' := 37) rfl ?_
 rw [show ((0 : Int32) + (1 : Int32)) = (1 : Int32) from by decide]
 refine w_iloadN X20 hx (d21_37 hby) rfl (pc' := 38) rfl ?_
 refine w_getS X20 hx "" hZ hown (Or.inl (wd_112 hw)) Via.refl e20 (zz1.ext O0.2) (d21_38 hby) (pc' := 41) rfl ?_
 intro T21 X21 e21
 refine w_ishr X21 hx (d21_41 hby) (pc' := 42) rfl ?_
 refine w_i2b X21 hx (d21_42 hby) (pc' := 43) rfl ?_
 obtain ⟨clu22, Aru22, qu22, Su22, Nu22, Hu22, Gu22⟩ := id V_a0
 have hinu22 := inb_of (j := (0 : Int32)) Su22 ⟨by decide, by decide⟩
 refine w_stB X21 hx hZ e21 Aru22 hinu22 (d21_43 hby) (pc' := 44) rfl ?_
 intro T23 h23 X23 e23 W23
 have V24 : Arv Z h23 a0 k_a0 .byte (6 : Int32) [(.int (nar .byte ((p2 >>> ((0 : Int32) &&& 31)).toInt8.toInt32))), (.int (0 : Int32)), (.int (0 : Int32)), (.int (0 : Int32)), (.int (0 : Int32)), (.int (0 : Int32))] (.int (0 : Int32)) := Arv.set Aru22 qu22 Su22 Nu22 Hu22 Gu22 (fits_nar_byte _) W23 0 rfl (Nat.le_of_ble_eq_true rfl)
 have V25 : Arv Z h23 a0 k_a0 .byte (6 : Int32) [(.int ((p2 >>> ((0 : Int32) &&& 31)).toInt8.toInt32)), (.int (0 : Int32)), (.int (0 : Int32)), (.int (0 : Int32)), (.int (0 : Int32)), (.int (0 : Int32))] (.int (0 : Int32)) := by rw [nar_b] at V24; exact V24
 have K26 : Keep h0 h23 [a0] := (Keep.refl h0 [a0]).wr W23 (Or.inl (by simp))
 have N27 := Fr.snoc X23 N0 zz2
 refine w_aloadN X23 hx (d21_44 hby) rfl rfl (pc' := 45) rfl ?_
 refine w_iloadN X23 hx (d21_45 hby) rfl (pc' := 46) rfl ?_
 refine w_iloadN X23 hx (d21_46 hby) rfl (pc' := 47) rfl ?_
 have f28 : Old Z n0 h23 := (O0.wr W23 zz2)
 refine w_getS X23 hx "" hZ hown (Or.inl (wd_113 hw)) Via.refl e23 (zz3.ext f28.2) (d21_47 hby) (pc' := 50) rfl ?_
 intro T29 X29 e29
 refine w_ishr X29 hx (d21_50 hby) (pc' := 51) rfl ?_
 refine w_i2b X29 hx (d21_51 hby) (pc' := 52) rfl ?_
 obtain ⟨clu30, Aru30, qu30, Su30, Nu30, Hu30, Gu30⟩ := id V25
 have hinu30 := inb_of (j := (1 : Int32)) Su30 ⟨by decide, by decide⟩
 refine w_stB X29 hx hZ e29 Aru30 hinu30 (d21_52 hby) (pc' := 53) rfl ?_
 intro T31 h31 X31 e31 W31
 have V32 : Arv Z h31 a0 k_a0 .byte (6 : Int32) [(.int ((p2 >>> ((0 : Int32) &&& 31)).toInt8.toInt32)), (.int (nar .byte ((p2 >>> ((8 : Int32) &&& 31)).toInt8.toInt32))), (.int (0 : Int32)), (.int (0 : Int32)), (.int (0 : Int32)), (.int (0 : Int32))] (.int (0 : Int32)) := Arv.set Aru30 qu30 Su30 Nu30 Hu30 Gu30 (fits_nar_byte _) W31 1 rfl (Nat.le_of_ble_eq_true rfl)
 have V33 : Arv Z h31 a0 k_a0 .byte (6 : Int32) [(.int ((p2 >>> ((0 : Int32) &&& 31)).toInt8.toInt32)), (.int ((p2 >>> ((8 : Int32) &&& 31)).toInt8.toInt32)), (.int (0 : Int32)), (.int (0 : Int32)), (.int (0 : Int32)), (.int (0 : Int32))] (.int (0 : Int32)) := by rw [nar_b] at V32; exact V32
 have K34 : Keep h0 h31 [a0] := K26.wr W31 (Or.inl (by simp))
 have N35 := Fr.snoc X31 N27 zz2
 exact w_done X31 hlk (v := none) e31 (fun _ => rfl) (fun fs hr => X31.returnOut hx hret (d21_53 hby) hr) (by decide) (by decide) (⟨rfl, N35, K34, V33⟩)
theorem ef_m21_38 (m : MethodId) (a0 : Addr) (p2 : Int32)  : entryFrame m #[(.ref a0), (.int (1 : Int32)), (.int p2)] 3 = mkF m 0 #[.val (.ref a0), .val (.int (1 : Int32)), .val (.int p2)] [] := by first | (simp [entryFrame, mkF, argsToLocals, Value.category]; done) | rfl
def Q_m21_38 (Z : State) (a0 : Addr) (p2 : Int32) (k_a0 : ClassId) (jj0 : Int32) (jj1 : Int32) (h0 : Heap) (n0 : Nat) (v : Option Value) (h : Heap) (L : List Loc) : Prop := v = none ∧ Fr n0 L ∧ Keep h0 h [a0] ∧ Arv Z h a0 k_a0 .byte (6 : Int32) [(.int jj0), (.int jj1), (.int ((p2 >>> ((0 : Int32) &&& 31)).toInt8.toInt32)), (.int ((p2 >>> ((8 : Int32) &&& 31)).toInt8.toInt32)), (.int (0 : Int32)), (.int (0 : Int32))] (.int (0 : Int32))
theorem rm_m21_38 (l : Launch) (Z : State) (aZ : Array Value) (hw : ∀ d ∈ tables_1, d.before aZ Z = true) (ws : List Jvm.Cond) (a0 : Addr) (p2 : Int32) (k_a0 : ClassId) (jj0 : Int32) (jj1 : Int32) (h0 : Heap) (n0 : Nat) (Z0 : n0 ≤ h0.size) (zz2 : Sta Z Z.heap kc1 "$assertionsDisabled" "Z" (.int (1 : Int32))) (O0 : Old Z n0 h0) (zz3 : Sta Z Z.heap kc1 "HI_BYTE_SHIFT" "I" (.int (0 : Int32))) (V_a0 : Arv Z h0 a0 k_a0 .byte (6 : Int32) [(.int jj0), (.int jj1), (.int (0 : Int32)), (.int (0 : Int32)), (.int (0 : Int32)), (.int (0 : Int32))] (.int (0 : Int32))) (zz4 : n0 ≤ a0) (zz5 : Sta Z Z.heap kc1 "LO_BYTE_SHIFT" "I" (.int (8 : Int32))) :
    MetN l Z yn_21 jdk_52_method_4_code 3 none ws ({ frames := 0, cells := 0, slots := 0, locals := 0 } : Room) #[(.ref a0), (.int (1 : Int32)), (.int p2)] h0 (Q_m21_38 Z a0 p2 k_a0 jj0 jj1 h0 n0) := by
 refine MetN.of (plainFor_of_name pn_1) ?_
 intro p e s m below meth c s₁ hret hx hby hml hown hnm hlk hZ X0 e0
 have N0 := Fr.nil n0
 rw [ef_m21_38 m a0 p2]
 refine w_getS X0 hx "" hZ hown (Or.inl (wd_111 hw)) Via.refl e0 (zz2.ext O0.2) (d21_0 hby) (pc' := 3) rfl ?_
 intro T20 X20 e20
 refine w_ifY X20 hx (d21_3 hby) (feq (by decide : ¬ ((1 : Int32) = (0 : Int32)))).2 (pc' := 28) (by decide) (by decide) ?_
 refine w_iloadN X20 hx (d21_28 hby) rfl (pc' := 29) rfl ?_
 refine w_iconst X20 hx (d21_29 hby) (v := (1 : Int32)) rfl (pc' := 30) rfl ?_
 refine w_ishl X20 hx (d21_30 hby) (pc' := 31) rfl ?_
 rw [show ((1 : Int32) <<< ((1 : Int32) &&& 31)) = (2 : Int32) from by decide]
 refine w_istoreN X20 hx (d21_31 hby) (L' := #[.val (.ref a0), .val (.int (2 : Int32)), .val (.int p2)]) rfl (pc' := 32) rfl ?_
 refine w_aloadN X20 hx (d21_32 hby) rfl rfl (pc' := 33) rfl ?_
 refine w_iloadN X20 hx (d21_33 hby) rfl (pc' := 34) rfl ?_
 refine w_iinc X20 hx (d21_34 hby) (v := (1 : Int32)) rfl rfl (L' := #[.val (.ref a0), .val (.int ((2 : Int32) + (1 : Int32))), .val (.int p2)]) rfl (pc' := 37) rfl ?_
 rw [show ((2 : Int32) + (1 : Int32)) = (3 : Int32) from by decide]
 refine w_iloadN X20 hx (d21_37 hby) rfl (pc' := 38) rfl ?_
 refine w_getS X20 hx "" hZ hown (Or.inl (wd_112 hw)) Via.refl e20 (zz3.ext O0.2) (d21_38 hby) (pc' := 41) rfl ?_
 intro T21 X21 e21
 refine w_ishr X21 hx (d21_41 hby) (pc' := 42) rfl ?_
 refine w_i2b X21 hx (d21_42 hby) (pc' := 43) rfl ?_
 obtain ⟨clu22, Aru22, qu22, Su22, Nu22, Hu22, Gu22⟩ := id V_a0
 have hinu22 := inb_of (j := (2 : Int32)) Su22 ⟨by decide, by decide⟩
 refine w_stB X21 hx hZ e21 Aru22 hinu22 (d21_43 hby) (pc' := 44) rfl ?_
 intro T23 h23 X23 e23 W23
 have V24 : Arv Z h23 a0 k_a0 .byte (6 : Int32) [(.int jj0), (.int jj1), (.int (nar .byte ((p2 >>> ((0 : Int32) &&& 31)).toInt8.toInt32))), (.int (0 : Int32)), (.int (0 : Int32)), (.int (0 : Int32))] (.int (0 : Int32)) := Arv.set Aru22 qu22 Su22 Nu22 Hu22 Gu22 (fits_nar_byte _) W23 2 rfl (Nat.le_of_ble_eq_true rfl)
 have V25 : Arv Z h23 a0 k_a0 .byte (6 : Int32) [(.int jj0), (.int jj1), (.int ((p2 >>> ((0 : Int32) &&& 31)).toInt8.toInt32)), (.int (0 : Int32)), (.int (0 : Int32)), (.int (0 : Int32))] (.int (0 : Int32)) := by rw [nar_b] at V24; exact V24
 have K26 : Keep h0 h23 [a0] := (Keep.refl h0 [a0]).wr W23 (Or.inl (by simp))
 have N27 := Fr.snoc X23 N0 zz4
 refine w_aloadN X23 hx (d21_44 hby) rfl rfl (pc' := 45) rfl ?_
 refine w_iloadN X23 hx (d21_45 hby) rfl (pc' := 46) rfl ?_
 refine w_iloadN X23 hx (d21_46 hby) rfl (pc' := 47) rfl ?_
 have f28 : Old Z n0 h23 := (O0.wr W23 zz4)
 refine w_getS X23 hx "" hZ hown (Or.inl (wd_113 hw)) Via.refl e23 (zz5.ext f28.2) (d21_47 hby) (pc' := 50) rfl ?_
 intro T29 X29 e29
 refine w_ishr X29 hx (d21_50 hby) (pc' := 51) rfl ?_
 refine w_i2b X29 hx (d21_51 hby) (pc' := 52) rfl ?_
 obtain ⟨clu30, Aru30, qu30, Su30, Nu30, Hu30, Gu30⟩ := id V25
 have hinu30 := inb_of (j := (3 : Int32)) Su30 ⟨by decide, by decide⟩
 refine w_stB X29 hx hZ e29 Aru30 hinu30 (d21_52 hby) (pc' := 53) rfl ?_
 intro T31 h31 X31 e31 W31
 have V32 : Arv Z h31 a0 k_a0 .byte (6 : Int32) [(.int jj0), (.int jj1), (.int ((p2 >>> ((0 : Int32) &&& 31)).toInt8.toInt32)), (.int (nar .byte ((p2 >>> ((8 : Int32) &&& 31)).toInt8.toInt32))), (.int (0 : Int32)), (.int (0 : Int32))] (.int (0 : Int32)) := Arv.set Aru30 qu30 Su30 Nu30 Hu30 Gu30 (fits_nar_byte _) W31 3 rfl (Nat.le_of_ble_eq_true rfl)
 have V33 : Arv Z h31 a0 k_a0 .byte (6 : Int32) [(.int jj0), (.int jj1), (.int ((p2 >>> ((0 : Int32) &&& 31)).toInt8.toInt32)), (.int ((p2 >>> ((8 : Int32) &&& 31)).toInt8.toInt32)), (.int (0 : Int32)), (.int (0 : Int32))] (.int (0 : Int32)) := by rw [nar_b] at V32; exact V32
 have K34 : Keep h0 h31 [a0] := K26.wr W31 (Or.inl (by simp))
 have N35 := Fr.snoc X31 N27 zz4
 exact w_done X31 hlk (v := none) e31 (fun _ => rfl) (fun fs hr => X31.returnOut hx hret (d21_53 hby) hr) (by decide) (by decide) (⟨rfl, N35, K34, V33⟩)
theorem ef_m21_39 (m : MethodId) (a0 : Addr) (p2 : Int32)  : entryFrame m #[(.ref a0), (.int (2 : Int32)), (.int p2)] 3 = mkF m 0 #[.val (.ref a0), .val (.int (2 : Int32)), .val (.int p2)] [] := by first | (simp [entryFrame, mkF, argsToLocals, Value.category]; done) | rfl
def Q_m21_39 (Z : State) (a0 : Addr) (p2 : Int32) (k_a0 : ClassId) (jj0 : Int32) (jj1 : Int32) (jj2 : Int32) (jj3 : Int32) (h0 : Heap) (n0 : Nat) (v : Option Value) (h : Heap) (L : List Loc) : Prop := v = none ∧ Fr n0 L ∧ Keep h0 h [a0] ∧ Arv Z h a0 k_a0 .byte (6 : Int32) [(.int jj0), (.int jj1), (.int jj2), (.int jj3), (.int ((p2 >>> ((0 : Int32) &&& 31)).toInt8.toInt32)), (.int ((p2 >>> ((8 : Int32) &&& 31)).toInt8.toInt32))] (.int (0 : Int32))
theorem rm_m21_39 (l : Launch) (Z : State) (aZ : Array Value) (hw : ∀ d ∈ tables_1, d.before aZ Z = true) (ws : List Jvm.Cond) (a0 : Addr) (p2 : Int32) (k_a0 : ClassId) (jj0 : Int32) (jj1 : Int32) (jj2 : Int32) (jj3 : Int32) (h0 : Heap) (n0 : Nat) (Z0 : n0 ≤ h0.size) (zz4 : Sta Z Z.heap kc1 "$assertionsDisabled" "Z" (.int (1 : Int32))) (O0 : Old Z n0 h0) (zz5 : Sta Z Z.heap kc1 "HI_BYTE_SHIFT" "I" (.int (0 : Int32))) (V_a0 : Arv Z h0 a0 k_a0 .byte (6 : Int32) [(.int jj0), (.int jj1), (.int jj2), (.int jj3), (.int (0 : Int32)), (.int (0 : Int32))] (.int (0 : Int32))) (zz6 : n0 ≤ a0) (zz7 : Sta Z Z.heap kc1 "LO_BYTE_SHIFT" "I" (.int (8 : Int32))) :
    MetN l Z yn_21 jdk_52_method_4_code 3 none ws ({ frames := 0, cells := 0, slots := 0, locals := 0 } : Room) #[(.ref a0), (.int (2 : Int32)), (.int p2)] h0 (Q_m21_39 Z a0 p2 k_a0 jj0 jj1 jj2 jj3 h0 n0) := by
 refine MetN.of (plainFor_of_name pn_1) ?_
 intro p e s m below meth c s₁ hret hx hby hml hown hnm hlk hZ X0 e0
 have N0 := Fr.nil n0
 rw [ef_m21_39 m a0 p2]
 refine w_getS X0 hx "" hZ hown (Or.inl (wd_111 hw)) Via.refl e0 (zz4.ext O0.2) (d21_0 hby) (pc' := 3) rfl ?_
 intro T20 X20 e20
 refine w_ifY X20 hx (d21_3 hby) (feq (by decide : ¬ ((1 : Int32) = (0 : Int32)))).2 (pc' := 28) (by decide) (by decide) ?_
 refine w_iloadN X20 hx (d21_28 hby) rfl (pc' := 29) rfl ?_
 refine w_iconst X20 hx (d21_29 hby) (v := (1 : Int32)) rfl (pc' := 30) rfl ?_
 refine w_ishl X20 hx (d21_30 hby) (pc' := 31) rfl ?_
 rw [show ((2 : Int32) <<< ((1 : Int32) &&& 31)) = (4 : Int32) from by decide]
 refine w_istoreN X20 hx (d21_31 hby) (L' := #[.val (.ref a0), .val (.int (4 : Int32)), .val (.int p2)]) rfl (pc' := 32) rfl ?_
 refine w_aloadN X20 hx (d21_32 hby) rfl rfl (pc' := 33) rfl ?_
 refine w_iloadN X20 hx (d21_33 hby) rfl (pc' := 34) rfl ?_
 refine w_iinc X20 hx (d21_34 hby) (v := (1 : Int32)) rfl rfl (L' := #[.val (.ref a0), .val (.int ((4 : Int32) + (1 : Int32))), .val (.int p2)]) rfl (pc' := 37) rfl ?_
 rw [show ((4 : Int32) + (1 : Int32)) = (5 : Int32) from by decide]
 refine w_iloadN X20 hx (d21_37 hby) rfl (pc' := 38) rfl ?_
 refine w_getS X20 hx "" hZ hown (Or.inl (wd_112 hw)) Via.refl e20 (zz5.ext O0.2) (d21_38 hby) (pc' := 41) rfl ?_
 intro T21 X21 e21
 refine w_ishr X21 hx (d21_41 hby) (pc' := 42) rfl ?_
 refine w_i2b X21 hx (d21_42 hby) (pc' := 43) rfl ?_
 obtain ⟨clu22, Aru22, qu22, Su22, Nu22, Hu22, Gu22⟩ := id V_a0
 have hinu22 := inb_of (j := (4 : Int32)) Su22 ⟨by decide, by decide⟩
 refine w_stB X21 hx hZ e21 Aru22 hinu22 (d21_43 hby) (pc' := 44) rfl ?_
 intro T23 h23 X23 e23 W23
 have V24 : Arv Z h23 a0 k_a0 .byte (6 : Int32) [(.int jj0), (.int jj1), (.int jj2), (.int jj3), (.int (nar .byte ((p2 >>> ((0 : Int32) &&& 31)).toInt8.toInt32))), (.int (0 : Int32))] (.int (0 : Int32)) := Arv.set Aru22 qu22 Su22 Nu22 Hu22 Gu22 (fits_nar_byte _) W23 4 rfl (Nat.le_of_ble_eq_true rfl)
 have V25 : Arv Z h23 a0 k_a0 .byte (6 : Int32) [(.int jj0), (.int jj1), (.int jj2), (.int jj3), (.int ((p2 >>> ((0 : Int32) &&& 31)).toInt8.toInt32)), (.int (0 : Int32))] (.int (0 : Int32)) := by rw [nar_b] at V24; exact V24
 have K26 : Keep h0 h23 [a0] := (Keep.refl h0 [a0]).wr W23 (Or.inl (by simp))
 have N27 := Fr.snoc X23 N0 zz6
 refine w_aloadN X23 hx (d21_44 hby) rfl rfl (pc' := 45) rfl ?_
 refine w_iloadN X23 hx (d21_45 hby) rfl (pc' := 46) rfl ?_
 refine w_iloadN X23 hx (d21_46 hby) rfl (pc' := 47) rfl ?_
 have f28 : Old Z n0 h23 := (O0.wr W23 zz6)
 refine w_getS X23 hx "" hZ hown (Or.inl (wd_113 hw)) Via.refl e23 (zz7.ext f28.2) (d21_47 hby) (pc' := 50) rfl ?_
 intro T29 X29 e29
 refine w_ishr X29 hx (d21_50 hby) (pc' := 51) rfl ?_
 refine w_i2b X29 hx (d21_51 hby) (pc' := 52) rfl ?_
 obtain ⟨clu30, Aru30, qu30, Su30, Nu30, Hu30, Gu30⟩ := id V25
 have hinu30 := inb_of (j := (5 : Int32)) Su30 ⟨by decide, by decide⟩
 refine w_stB X29 hx hZ e29 Aru30 hinu30 (d21_52 hby) (pc' := 53) rfl ?_
 intro T31 h31 X31 e31 W31
 have V32 : Arv Z h31 a0 k_a0 .byte (6 : Int32) [(.int jj0), (.int jj1), (.int jj2), (.int jj3), (.int ((p2 >>> ((0 : Int32) &&& 31)).toInt8.toInt32)), (.int (nar .byte ((p2 >>> ((8 : Int32) &&& 31)).toInt8.toInt32)))] (.int (0 : Int32)) := Arv.set Aru30 qu30 Su30 Nu30 Hu30 Gu30 (fits_nar_byte _) W31 5 rfl (Nat.le_of_ble_eq_true rfl)
 have V33 : Arv Z h31 a0 k_a0 .byte (6 : Int32) [(.int jj0), (.int jj1), (.int jj2), (.int jj3), (.int ((p2 >>> ((0 : Int32) &&& 31)).toInt8.toInt32)), (.int ((p2 >>> ((8 : Int32) &&& 31)).toInt8.toInt32))] (.int (0 : Int32)) := by rw [nar_b] at V32; exact V32
 have K34 : Keep h0 h31 [a0] := K26.wr W31 (Or.inl (by simp))
 have N35 := Fr.snoc X31 N27 zz6
 exact w_done X31 hlk (v := none) e31 (fun _ => rfl) (fun fs hr => X31.returnOut hx hret (d21_53 hby) hr) (by decide) (by decide) (⟨rfl, N35, K34, V33⟩)
theorem ef_m18_34 (m : MethodId) (a0 : Addr)  : entryFrame m #[(.ref a0), (.int (0 : Int32)), (.int (3 : Int32))] 5 = mkF m 0 #[.val (.ref a0), .val (.int (0 : Int32)), .val (.int (3 : Int32)), .unset, .unset] [] := by first | (simp [entryFrame, mkF, argsToLocals, Value.category]; done) | rfl
def Q_m18_34 (Z : State) (a0 : Addr) (k_a0 : ClassId) (jj0 : Int32) (jj1 : Int32) (jj2 : Int32) (h0 : Heap) (n0 : Nat) (v : Option Value) (h : Heap) (L : List Loc) : Prop := ∃ (r0 : Addr) (c0 : ClassId), v = some (.ref r0) ∧ Fr n0 L ∧ Keep h0 h [] ∧ h0.size ≤ r0 ∧ Arv Z h r0 c0 .byte (6 : Int32) [(.int ((jj0 >>> ((0 : Int32) &&& 31)).toInt8.toInt32)), (.int ((jj0 >>> ((8 : Int32) &&& 31)).toInt8.toInt32)), (.int ((jj1 >>> ((0 : Int32) &&& 31)).toInt8.toInt32)), (.int ((jj1 >>> ((8 : Int32) &&& 31)).toInt8.toInt32)), (.int ((jj2 >>> ((0 : Int32) &&& 31)).toInt8.toInt32)), (.int ((jj2 >>> ((8 : Int32) &&& 31)).toInt8.toInt32))] (.int (0 : Int32))
theorem rm_m18_34 (l : Launch) (Z : State) (aZ : Array Value) (hw : ∀ d ∈ tables_1, d.before aZ Z = true) (ws : List Jvm.Cond) (a0 : Addr) (k_a0 : ClassId) (jj0 : Int32) (jj1 : Int32) (jj2 : Int32) (h0 : Heap) (n0 : Nat) (Z0 : n0 ≤ h0.size) (V_a0 : Arv Z h0 a0 k_a0 .char (3 : Int32) [(.int jj0), (.int jj1), (.int jj2)] (.int (0 : Int32))) (zz3 : Sta Z Z.heap kc1 "$assertionsDisabled" "Z" (.int (1 : Int32))) (O0 : Old Z n0 h0) (zz4 : Sta Z Z.heap kc1 "HI_BYTE_SHIFT" "I" (.int (0 : Int32))) (zz5 : Sta Z Z.heap kc1 "LO_BYTE_SHIFT" "I" (.int (8 : Int32))) :
    MetN l Z yn_18 jdk_52_method_14_code 5 (some (.array .byte)) ws ({ frames := 2, cells := 1, slots := 6, locals := 24 } : Room) #[(.ref a0), (.int (0 : Int32)), (.int (3 : Int32))] h0 (Q_m18_34 Z a0 k_a0 jj0 jj1 jj2 h0 n0) := by
 refine MetN.of (plainFor_of_name pn_1) ?_
 intro p e s m below meth c s₁ hret hx hby hml hown hnm hlk hZ X0 e0
 have N0 := Fr.nil n0
 rw [ef_m18_34 m a0]
 refine w_iloadN X0 hx (d18_0 hby) rfl (pc' := 1) rfl ?_
 refine w_static X0 hx (y := yn_19) hown (mvT hZ (wd_101 hw)) (mvT hZ (wd_102 hw)) (mvT hZ (wd_68 hw)) (mvT hZ (wd_103 hw)) (by decide) (backOf (W := 0) (rm_m19_35 l Z aZ hw []  h0 n0 Z0 ) hZ (wd_103 hw) (wd_68 hw) (by decide) (by decide)) (by rw [hml]; rfl) [(.int (3 : Int32))] (lenOf pd_4 rfl) rfl (Nat.le_of_eq rfl) (d18_1 hby) (fun _ _ => ⟨rfl, e0, (by decide : 0 + 1 ≤ _), (by decide : 0 + 6 ≤ _)⟩) (pc' := 4) rfl ?_
 rintro _ _ ⟨T20, L20, k20, n20⟩ X20 ⟨Lc20, hQ20, l20, y20, z20⟩
 dsimp only [Pt.U, Pt.locs, Pt.cells, Pt.slots] at X20 l20 y20 z20 hQ20 ⊢
 subst l20 y20 z20
 obtain ⟨r0_20, c0_20, rfl, N20q, K20, g20_0, g20_1⟩ := hQ20
 have N21 := Fr.app N0 N20q
 have K22 : Keep h0 T20.heap [] := (Keep.refl h0 []).trans K20 (all0 (P := fun x => x ∈ [] ∨ h0.size ≤ x))
 have ge23 : n0 ≤ r0_20 := Nat.le_trans Z0 g20_0
 have sz24 : h0.size ≤ r0_20 := Nat.le_trans (Nat.le_refl _) g20_0
 show Runs _ _ _ _ (T20.setTop (mkF m 4 #[.val (.ref a0), .val (.int (0 : Int32)), .val (.int (3 : Int32)), .unset, .unset] [(.ref r0_20)]))
 refine w_astoreN X20 hx (d18_4 hby) rfl (L' := #[.val (.ref a0), .val (.int (0 : Int32)), .val (.int (3 : Int32)), .val (.ref r0_20), .unset]) rfl (pc' := 5) rfl ?_
 refine w_iconst X20 hx (d18_5 hby) (v := (0 : Int32)) rfl (pc' := 6) rfl ?_
 refine w_istore X20 hx (d18_6 hby) (L' := #[.val (.ref a0), .val (.int (0 : Int32)), .val (.int (3 : Int32)), .val (.ref r0_20), .val (.int (0 : Int32))]) rfl (pc' := 8) rfl ?_
 refine w_iload X20 hx (d18_8 hby) rfl (pc' := 10) rfl ?_
 refine w_iloadN X20 hx (d18_10 hby) rfl (pc' := 11) rfl ?_
 refine w_icN X20 hx (d18_11 hby) (tlt (by decide : (0 : Int32) < (3 : Int32))).2.1 (pc' := 14) rfl ?_
 refine w_aloadN X20 hx (d18_14 hby) rfl rfl (pc' := 15) rfl ?_
 refine w_iload X20 hx (d18_15 hby) rfl (pc' := 17) rfl ?_
 refine w_aloadN X20 hx (d18_17 hby) rfl rfl (pc' := 18) rfl ?_
 refine w_iloadN X20 hx (d18_18 hby) rfl (pc' := 19) rfl ?_
 have f25 : Arv Z T20.heap a0 k_a0 .char (3 : Int32) [(.int jj0), (.int jj1), (.int jj2)] (.int (0 : Int32)) := (V_a0.keep K20 nin0)
 obtain ⟨clu26, Aru26, qu26, Su26, Nu26, Hu26, Gu26⟩ := id f25
 have hinu26 := inb_of (j := (0 : Int32)) Su26 ⟨by decide, by decide⟩
 refine w_caload X20 hx hZ rfl Aru26 hinu26 (Hu26.at hinu26 rfl) (d18_19 hby) (pc' := 20) rfl ?_
 have f29 : Old Z n0 T20.heap := (O0.keep K20 all0)
 refine w_static X20 hx (y := yn_21) hown (mvT hZ (wd_108 hw)) (mvT hZ (wd_109 hw)) (mvT hZ (wd_68 hw)) (mvT hZ (wd_110 hw)) (by decide) (backOf (W := 0) (rm_m21_37 l Z aZ hw [] r0_20 jj0 c0_20 T20.heap n0 (Nat.le_trans Z0 K20.1) zz3 f29 zz4 g20_1 ge23 zz5) hZ (wd_110 hw) (wd_68 hw) (by decide) (by decide)) (by rw [hml]; rfl) [(.ref r0_20), (.int (0 : Int32)), (.int jj0)] (lenOf pd_5 rfl) rfl (Nat.le_of_eq rfl) (d18_20 hby) (fun _ _ => ⟨rfl, rfl, (by decide : 1 + 0 ≤ _), (by decide : 6 + 0 ≤ _)⟩) (pc' := 23) rfl ?_
 rintro _ _ ⟨T30, L30, k30, n30⟩ X30 ⟨Lc30, hQ30, l30, y30, z30⟩
 dsimp only [Pt.U, Pt.locs, Pt.cells, Pt.slots] at X30 l30 y30 z30 hQ30 ⊢
 subst l30 y30 z30
 obtain ⟨rfl, N30q, K30, g30_0⟩ := hQ30
 have N31 := Fr.app N21 N30q
 have K32 : Keep h0 T30.heap [] := K22.trans K30 (allS (Or.inr sz24) (all0 (P := fun x => x ∈ [] ∨ h0.size ≤ x)))
 show Runs _ _ _ _ (T30.setTop (mkF m 23 #[.val (.ref a0), .val (.int (0 : Int32)), .val (.int (3 : Int32)), .val (.ref r0_20), .val (.int (0 : Int32))] []))
 refine w_iinc X30 hx (d18_23 hby) (v := (1 : Int32)) rfl rfl (L' := #[.val (.ref a0), .val (.int ((0 : Int32) + (1 : Int32))), .val (.int (3 : Int32)), .val (.ref r0_20), .val (.int (0 : Int32))]) rfl (pc' := 26) rfl ?_
 rw [show ((0 : Int32) + (1 : Int32)) = (1 : Int32) from by decide]
 refine w_iinc X30 hx (d18_26 hby) (v := (1 : Int32)) rfl rfl (L' := #[.val (.ref a0), .val (.int (1 : Int32)), .val (.int (3 : Int32)), .val (.ref r0_20), .val (.int ((0 : Int32) + (1 : Int32)))]) rfl (pc' := 29) rfl ?_
 rw [show ((0 : Int32) + (1 : Int32)) = (1 : Int32) from by decide]
 refine w_goto X30 hx (d18_29 hby) (pc' := 8) (by decide) (by decide) ?_
 refine w_iload X30 hx (d18_8 hby) rfl (pc' := 10) rfl ?_
 refine w_iloadN X30 hx (d18_10 hby) rfl (pc' := 11) rfl ?_
 refine w_icN X30 hx (d18_11 hby) (tlt (by decide : (1 : Int32) < (3 : Int32))).2.1 (pc' := 14) rfl ?_
 refine w_aloadN X30 hx (d18_14 hby) rfl rfl (pc' := 15) rfl ?_
 refine w_iload X30 hx (d18_15 hby) rfl (pc' := 17) rfl ?_
 refine w_aloadN X30 hx (d18_17 hby) rfl rfl (pc' := 18) rfl ?_
 refine w_iloadN X30 hx (d18_18 hby) rfl (pc' := 19) rfl ?_
 have ne33 : a0 ≠ r0_20 := (Nat.ne_of_lt (Nat.lt_of_lt_of_le V_a0.lt (Nat.le_trans (Nat.le_refl _) g20_0)))
 have f34 : Arv Z T30.heap a0 k_a0 .char (3 : Int32) [(.int jj0), (.int jj1), (.int jj2)] (.int (0 : Int32)) := (f25.keep K30 (ninS ne33 nin0))
 obtain ⟨clu35, Aru35, qu35, Su35, Nu35, Hu35, Gu35⟩ := id f34
 have hinu35 := inb_of (j := (1 : Int32)) Su35 ⟨by decide, by decide⟩
 refine w_caload X30 hx hZ rfl Aru35 hinu35 (Hu35.at hinu35 rfl) (d18_19 hby) (pc' := 20) rfl ?_
 have f37 : Old Z n0 T30.heap := (f29.keep K30 (allS ge23 all0))
 have le38 : h0.size ≤ T30.heap.size := (Nat.le_trans K20.1 K30.1)
 refine w_static X30 hx (y := yn_21) hown (mvT hZ (wd_108 hw)) (mvT hZ (wd_109 hw)) (mvT hZ (wd_68 hw)) (mvT hZ (wd_110 hw)) (by decide) (backOf (W := 0) (rm_m21_38 l Z aZ hw [] r0_20 jj1 c0_20 ((jj0 >>> ((0 : Int32) &&& 31)).toInt8.toInt32) ((jj0 >>> ((8 : Int32) &&& 31)).toInt8.toInt32) T30.heap n0 (Nat.le_trans Z0 le38) zz3 f37 zz4 g30_0 ge23 zz5) hZ (wd_110 hw) (wd_68 hw) (by decide) (by decide)) (by rw [hml]; rfl) [(.ref r0_20), (.int (1 : Int32)), (.int jj1)] (lenOf pd_5 rfl) rfl (Nat.le_of_eq rfl) (d18_20 hby) (fun _ _ => ⟨rfl, rfl, (by decide : 1 + 0 ≤ _), (by decide : 6 + 0 ≤ _)⟩) (pc' := 23) rfl ?_
 rintro _ _ ⟨T39, L39, k39, n39⟩ X39 ⟨Lc39, hQ39, l39, y39, z39⟩
 dsimp only [Pt.U, Pt.locs, Pt.cells, Pt.slots] at X39 l39 y39 z39 hQ39 ⊢
 subst l39 y39 z39
 obtain ⟨rfl, N39q, K39, g39_0⟩ := hQ39
 have N40 := Fr.app N31 N39q
 have K41 : Keep h0 T39.heap [] := K32.trans K39 (allS (Or.inr sz24) (all0 (P := fun x => x ∈ [] ∨ h0.size ≤ x)))
 show Runs _ _ _ _ (T39.setTop (mkF m 23 #[.val (.ref a0), .val (.int (1 : Int32)), .val (.int (3 : Int32)), .val (.ref r0_20), .val (.int (1 : Int32))] []))
 refine w_iinc X39 hx (d18_23 hby) (v := (1 : Int32)) rfl rfl (L' := #[.val (.ref a0), .val (.int ((1 : Int32) + (1 : Int32))), .val (.int (3 : Int32)), .val (.ref r0_20), .val (.int (1 : Int32))]) rfl (pc' := 26) rfl ?_
 rw [show ((1 : Int32) + (1 : Int32)) = (2 : Int32) from by decide]
 refine w_iinc X39 hx (d18_26 hby) (v := (1 : Int32)) rfl rfl (L' := #[.val (.ref a0), .val (.int (2 : Int32)), .val (.int (3 : Int32)), .val (.ref r0_20), .val (.int ((1 : Int32) + (1 : Int32)))]) rfl (pc' := 29) rfl ?_
 rw [show ((1 : Int32) + (1 : Int32)) = (2 : Int32) from by decide]
 refine w_goto X39 hx (d18_29 hby) (pc' := 8) (by decide) (by decide) ?_
 refine w_iload X39 hx (d18_8 hby) rfl (pc' := 10) rfl ?_
 refine w_iloadN X39 hx (d18_10 hby) rfl (pc' := 11) rfl ?_
 refine w_icN X39 hx (d18_11 hby) (tlt (by decide : (2 : Int32) < (3 : Int32))).2.1 (pc' := 14) rfl ?_
 refine w_aloadN X39 hx (d18_14 hby) rfl rfl (pc' := 15) rfl ?_
 refine w_iload X39 hx (d18_15 hby) rfl (pc' := 17) rfl ?_
 refine w_aloadN X39 hx (d18_17 hby) rfl rfl (pc' := 18) rfl ?_
 refine w_iloadN X39 hx (d18_18 hby) rfl (pc' := 19) rfl ?_
 have f42 : Arv Z T39.heap a0 k_a0 .char (3 : Int32) [(.int jj0), (.int jj1), (.int jj2)] (.int (0 : Int32)) := (f34.keep K39 (ninS ne33 nin0))
 obtain ⟨clu43, Aru43, qu43, Su43, Nu43, Hu43, Gu43⟩ := id f42
 have hinu43 := inb_of (j := (2 : Int32)) Su43 ⟨by decide, by decide⟩
 refine w_caload X39 hx hZ rfl Aru43 hinu43 (Hu43.at hinu43 rfl) (d18_19 hby) (pc' := 20) rfl ?_
 have f44 : Old Z n0 T39.heap := (f37.keep K39 (allS ge23 all0))
 have le45 : h0.size ≤ T39.heap.size := (Nat.le_trans le38 K39.1)
 refine w_static X39 hx (y := yn_21) hown (mvT hZ (wd_108 hw)) (mvT hZ (wd_109 hw)) (mvT hZ (wd_68 hw)) (mvT hZ (wd_110 hw)) (by decide) (backOf (W := 0) (rm_m21_39 l Z aZ hw [] r0_20 jj2 c0_20 ((jj0 >>> ((0 : Int32) &&& 31)).toInt8.toInt32) ((jj0 >>> ((8 : Int32) &&& 31)).toInt8.toInt32) ((jj1 >>> ((0 : Int32) &&& 31)).toInt8.toInt32) ((jj1 >>> ((8 : Int32) &&& 31)).toInt8.toInt32) T39.heap n0 (Nat.le_trans Z0 le45) zz3 f44 zz4 g39_0 ge23 zz5) hZ (wd_110 hw) (wd_68 hw) (by decide) (by decide)) (by rw [hml]; rfl) [(.ref r0_20), (.int (2 : Int32)), (.int jj2)] (lenOf pd_5 rfl) rfl (Nat.le_of_eq rfl) (d18_20 hby) (fun _ _ => ⟨rfl, rfl, (by decide : 1 + 0 ≤ _), (by decide : 6 + 0 ≤ _)⟩) (pc' := 23) rfl ?_
 rintro _ _ ⟨T46, L46, k46, n46⟩ X46 ⟨Lc46, hQ46, l46, y46, z46⟩
 dsimp only [Pt.U, Pt.locs, Pt.cells, Pt.slots] at X46 l46 y46 z46 hQ46 ⊢
 subst l46 y46 z46
 obtain ⟨rfl, N46q, K46, g46_0⟩ := hQ46
 have N47 := Fr.app N40 N46q
 have K48 : Keep h0 T46.heap [] := K41.trans K46 (allS (Or.inr sz24) (all0 (P := fun x => x ∈ [] ∨ h0.size ≤ x)))
 show Runs _ _ _ _ (T46.setTop (mkF m 23 #[.val (.ref a0), .val (.int (2 : Int32)), .val (.int (3 : Int32)), .val (.ref r0_20), .val (.int (2 : Int32))] []))
 refine w_iinc X46 hx (d18_23 hby) (v := (1 : Int32)) rfl rfl (L' := #[.val (.ref a0), .val (.int ((2 : Int32) + (1 : Int32))), .val (.int (3 : Int32)), .val (.ref r0_20), .val (.int (2 : Int32))]) rfl (pc' := 26) rfl ?_
 rw [show ((2 : Int32) + (1 : Int32)) = (3 : Int32) from by decide]
 refine w_iinc X46 hx (d18_26 hby) (v := (1 : Int32)) rfl rfl (L' := #[.val (.ref a0), .val (.int (3 : Int32)), .val (.int (3 : Int32)), .val (.ref r0_20), .val (.int ((2 : Int32) + (1 : Int32)))]) rfl (pc' := 29) rfl ?_
 rw [show ((2 : Int32) + (1 : Int32)) = (3 : Int32) from by decide]
 refine w_goto X46 hx (d18_29 hby) (pc' := 8) (by decide) (by decide) ?_
 refine w_iload X46 hx (d18_8 hby) rfl (pc' := 10) rfl ?_
 refine w_iloadN X46 hx (d18_10 hby) rfl (pc' := 11) rfl ?_
 refine w_icY X46 hx (d18_11 hby) (flt (by decide : ¬ ((3 : Int32) < (3 : Int32)))).2.1 (pc' := 32) (by decide) (by decide) ?_
 refine w_aloadN X46 hx (d18_32 hby) rfl rfl (pc' := 33) rfl ?_
 exact w_done X46 hlk (v := some (.ref r0_20)) rfl (fun h => by rw [hret] at h; cases h) (fun fs hr => retOut X46 hx hret rfl (Or.inr (Or.inr (Or.inr (Or.inr ⟨rfl, rfl, rfl⟩)))) (d18_33 hby) hr) (by decide) (by decide) (⟨r0_20, c0_20, rfl, N47, K48, sz24, g46_0⟩)
theorem ef_m22_40 (m : MethodId) (a0 : Addr) (p1 : Int32)  : entryFrame m #[(.ref a0), (.int p1)] 2 = mkF m 0 #[.val (.ref a0), .val (.int p1)] [] := by first | (simp [entryFrame, mkF, argsToLocals, Value.category]; done) | rfl
def Q_m22_40 (Z : State) (a0 : Addr) (p1 : Int32) (k_a0 : ClassId) (jj0 : Int32) (jj1 : Int32) (jj2 : Int32) (jj3 : Int32) (jj4 : Int32) (jj5 : Int32) (h0 : Heap) (n0 : Nat) (v : Option Value) (h : Heap) (L : List Loc) : Prop := v = some (.int (((((gI [jj0, jj1, jj2, jj3, jj4, jj5] (p1 <<< ((1 : Int32) &&& 31))) &&& (255 : Int32)) <<< ((0 : Int32) &&& 31)) ||| (((gI [jj0, jj1, jj2, jj3, jj4, jj5] ((p1 <<< ((1 : Int32) &&& 31)) + (1 : Int32))) &&& (255 : Int32)) <<< ((8 : Int32) &&& 31))).toUInt32.toUInt16.toUInt32.toInt32)) ∧ Fr n0 L ∧ h = h0
theorem rm_m22_40 (l : Launch) (Z : State) (aZ : Array Value) (hw : ∀ d ∈ tables_1, d.before aZ Z = true) (ws : List Jvm.Cond) (a0 : Addr) (p1 : Int32) (k_a0 : ClassId) (jj0 : Int32) (jj1 : Int32) (jj2 : Int32) (jj3 : Int32) (jj4 : Int32) (jj5 : Int32) (h0 : Heap) (n0 : Nat) (Z0 : n0 ≤ h0.size) (zz6 : Sta Z Z.heap kc1 "$assertionsDisabled" "Z" (.int (1 : Int32))) (O0 : Old Z n0 h0) (V_a0 : Arv Z h0 a0 k_a0 .byte (6 : Int32) [(.int jj0), (.int jj1), (.int jj2), (.int jj3), (.int jj4), (.int jj5)] (.int (0 : Int32))) (hP_3 : ¬ (p1 < (0 : Int32))) (hP_4 : p1 < (3 : Int32)) (zz7 : Sta Z Z.heap kc1 "HI_BYTE_SHIFT" "I" (.int (0 : Int32))) (zz8 : Sta Z Z.heap kc1 "LO_BYTE_SHIFT" "I" (.int (8 : Int32))) :
    MetN l Z yn_22 jdk_52_method_5_code 2 (some .char) ws ({ frames := 0, cells := 0, slots := 0, locals := 0 } : Room) #[(.ref a0), (.int p1)] h0 (Q_m22_40 Z a0 p1 k_a0 jj0 jj1 jj2 jj3 jj4 jj5 h0 n0) := by
 refine MetN.of (plainFor_of_name pn_1) ?_
 intro p e s m below meth c s₁ hret hx hby hml hown hnm hlk hZ X0 e0
 have N0 := Fr.nil n0
 rw [ef_m22_40 m a0 p1]
 refine w_getS X0 hx "" hZ hown (Or.inl (wd_111 hw)) Via.refl e0 (zz6.ext O0.2) (d22_0 hby) (pc' := 3) rfl ?_
 intro T20 X20 e20
 refine w_ifY X20 hx (d22_3 hby) (feq (by decide : ¬ ((1 : Int32) = (0 : Int32)))).2 (pc' := 28) (by decide) (by decide) ?_
 refine w_iloadN X20 hx (d22_28 hby) rfl (pc' := 29) rfl ?_
 refine w_iconst X20 hx (d22_29 hby) (v := (1 : Int32)) rfl (pc' := 30) rfl ?_
 refine w_ishl X20 hx (d22_30 hby) (pc' := 31) rfl ?_
 refine w_istoreN X20 hx (d22_31 hby) (L' := #[.val (.ref a0), .val (.int (p1 <<< ((1 : Int32) &&& 31)))]) rfl (pc' := 32) rfl ?_
 refine w_aloadN X20 hx (d22_32 hby) rfl rfl (pc' := 33) rfl ?_
 refine w_iloadN X20 hx (d22_33 hby) rfl (pc' := 34) rfl ?_
 refine w_iinc X20 hx (d22_34 hby) (v := (1 : Int32)) rfl rfl (L' := #[.val (.ref a0), .val (.int ((p1 <<< ((1 : Int32) &&& 31)) + (1 : Int32)))]) rfl (pc' := 37) rfl ?_
 obtain ⟨clu21, Aru21, qu21, Su21, Nu21, Hu21, Gu21⟩ := id V_a0
 have hinu21 := inb_of (j := (p1 <<< ((1 : Int32) &&& 31))) Su21 ⟨(own_shl_in (n := 3) (by decide) (by decide) hP_3 hP_4).1.1, (Eq.mp (congrArg (fun z => (p1 <<< ((1 : Int32) &&& 31)) < z) (by decide : (3 : Int32) <<< ((1 : Int32) &&& 31) = 6)) (own_shl_in (n := 3) (by decide) (by decide) hP_3 hP_4).1.2)⟩
 refine w_baload X20 hx hZ e20 Aru21 hinu21 (Hu21.at hinu21 (own_gI [jj0, jj1, jj2, jj3, jj4, jj5] (p1 <<< ((1 : Int32) &&& 31)))) (d22_37 hby) (pc' := 38) rfl ?_
 refine w_sipush X20 hx (d22_38 hby) (v := (255 : Int32)) rfl (pc' := 41) rfl ?_
 refine w_iand X20 hx (d22_41 hby) (pc' := 42) rfl ?_
 refine w_getS X20 hx "" hZ hown (Or.inl (wd_112 hw)) Via.refl e20 (zz7.ext O0.2) (d22_42 hby) (pc' := 45) rfl ?_
 intro T22 X22 e22
 refine w_ishl X22 hx (d22_45 hby) (pc' := 46) rfl ?_
 refine w_aloadN X22 hx (d22_46 hby) rfl rfl (pc' := 47) rfl ?_
 refine w_iloadN X22 hx (d22_47 hby) rfl (pc' := 48) rfl ?_
 obtain ⟨clu23, Aru23, qu23, Su23, Nu23, Hu23, Gu23⟩ := id V_a0
 have hinu23 := inb_of (j := ((p1 <<< ((1 : Int32) &&& 31)) + (1 : Int32))) Su23 ⟨(own_shl_in (n := 3) (by decide) (by decide) hP_3 hP_4).2.1, (Eq.mp (congrArg (fun z => ((p1 <<< ((1 : Int32) &&& 31)) + (1 : Int32)) < z) (by decide : (3 : Int32) <<< ((1 : Int32) &&& 31) = 6)) (own_shl_in (n := 3) (by decide) (by decide) hP_3 hP_4).2.2)⟩
 refine w_baload X22 hx hZ e22 Aru23 hinu23 (Hu23.at hinu23 (own_gI [jj0, jj1, jj2, jj3, jj4, jj5] ((p1 <<< ((1 : Int32) &&& 31)) + (1 : Int32)))) (d22_48 hby) (pc' := 49) rfl ?_
 refine w_sipush X22 hx (d22_49 hby) (v := (255 : Int32)) rfl (pc' := 52) rfl ?_
 refine w_iand X22 hx (d22_52 hby) (pc' := 53) rfl ?_
 refine w_getS X22 hx "" hZ hown (Or.inl (wd_113 hw)) Via.refl e22 (zz8.ext O0.2) (d22_53 hby) (pc' := 56) rfl ?_
 intro T24 X24 e24
 refine w_ishl X24 hx (d22_56 hby) (pc' := 57) rfl ?_
 refine w_ior X24 hx (d22_57 hby) (pc' := 58) rfl ?_
 refine w_i2c X24 hx (d22_58 hby) (pc' := 59) rfl ?_
 exact w_done X24 hlk (v := some (.int (((((gI [jj0, jj1, jj2, jj3, jj4, jj5] (p1 <<< ((1 : Int32) &&& 31))) &&& (255 : Int32)) <<< ((0 : Int32) &&& 31)) ||| (((gI [jj0, jj1, jj2, jj3, jj4, jj5] ((p1 <<< ((1 : Int32) &&& 31)) + (1 : Int32))) &&& (255 : Int32)) <<< ((8 : Int32) &&& 31))).toUInt32.toUInt16.toUInt32.toInt32))) e24 (fun h => by rw [hret] at h; cases h) (fun fs hr => retOut X24 hx hret (t := .char) (XT.narrow_c _) (Or.inl ⟨rfl, by simp, _, rfl⟩) (d22_59 hby) hr) (by decide) (by decide) (⟨rfl, N0, rfl⟩)
theorem ef_m10_32 (m : MethodId) (a0 : Addr)  : entryFrame m #[(.ref a0), (.int (0 : Int32)), (.int (3 : Int32))] 6 = mkF m 0 #[.val (.ref a0), .val (.int (0 : Int32)), .val (.int (3 : Int32)), .unset, .unset, .unset] [] := by first | (simp [entryFrame, mkF, argsToLocals, Value.category]; done) | rfl
def Q_m10_32 (Z : State) (a0 : Addr) (k_a0 : ClassId) (jj0 : Int32) (jj1 : Int32) (jj2 : Int32) (h0 : Heap) (n0 : Nat) (v : Option Value) (h : Heap) (L : List Loc) : Prop := (∃ (t : Addr) (kb : ClassId), v = some (.ref t) ∧ Fr n0 L ∧ Keep h0 h [] ∧ h0.size ≤ t ∧ Arv Z h t kb .byte (3 : Int32) [(.int (jj0.toInt8.toInt32)), (.int (jj1.toInt8.toInt32)), (.int (jj2.toInt8.toInt32))] (.int (0 : Int32)) ∧ ¬ ((255 : Int32) < jj0) ∧ ¬ ((255 : Int32) < jj1) ∧ ¬ ((255 : Int32) < jj2)) ∨ (∃ (t : Addr) (kb : ClassId), v = some (.ref t) ∧ Fr n0 L ∧ Keep h0 h [] ∧ h0.size ≤ t ∧ Arv Z h t kb .byte (6 : Int32) [(.int ((jj0 >>> ((0 : Int32) &&& 31)).toInt8.toInt32)), (.int ((jj0 >>> ((8 : Int32) &&& 31)).toInt8.toInt32)), (.int ((jj1 >>> ((0 : Int32) &&& 31)).toInt8.toInt32)), (.int ((jj1 >>> ((8 : Int32) &&& 31)).toInt8.toInt32)), (.int ((jj2 >>> ((0 : Int32) &&& 31)).toInt8.toInt32)), (.int ((jj2 >>> ((8 : Int32) &&& 31)).toInt8.toInt32))] (.int (0 : Int32)) ∧ ((255 : Int32) < jj0 ∨ (255 : Int32) < jj1 ∨ (255 : Int32) < jj2))
theorem rm_m10_32 (l : Launch) (Z : State) (aZ : Array Value) (hw : ∀ d ∈ tables_1, d.before aZ Z = true) (ws : List Jvm.Cond) (a0 : Addr) (k_a0 : ClassId) (jj0 : Int32) (jj1 : Int32) (jj2 : Int32) (h0 : Heap) (n0 : Nat) (Z0 : n0 ≤ h0.size) (V_a0 : Arv Z h0 a0 k_a0 .char (3 : Int32) [(.int jj0), (.int jj1), (.int jj2)] (.int (0 : Int32))) (zz3 : Sta Z Z.heap kc1 "$assertionsDisabled" "Z" (.int (1 : Int32))) (O0 : Old Z n0 h0) (zz4 : Sta Z Z.heap kc1 "HI_BYTE_SHIFT" "I" (.int (0 : Int32))) (zz5 : Sta Z Z.heap kc1 "LO_BYTE_SHIFT" "I" (.int (8 : Int32))) (zz6 : nar .char jj0 = jj0) (zz7 : nar .char jj1 = jj1) (zz8 : nar .char jj2 = jj2) :
    MetN l Z yn_10 jdk_52_method_16_code 6 (some (.array .byte)) ws ({ frames := 3, cells := 2, slots := 9, locals := 40 } : Room) #[(.ref a0), (.int (0 : Int32)), (.int (3 : Int32))] h0 (Q_m10_32 Z a0 k_a0 jj0 jj1 jj2 h0 n0) := by
 refine MetN.of (plainFor_of_name pn_1) ?_
 intro p e s m below meth c s₁ hret hx hby hml hown hnm hlk hZ X0 e0
 have N0 := Fr.nil n0
 rw [ef_m10_32 m a0]
 refine w_iloadN X0 hx (d10_0 hby) rfl (pc' := 1) rfl ?_
 refine w_newP X0 hx .byte .byte 3 rfl hZ (wd_20 hw) e0 (d10_1 hby) (by decide) (by decide) (by decide) (by decide) (by decide) (pc' := 3) rfl ?_
 intro T20 h20 k20 b20 X20 e20 E20 g20 A20
 have ge21 : n0 ≤ b20 := Nat.le_trans Z0 (Nat.le_of_eq g20.symm)
 have sz22 : h0.size ≤ b20 := Nat.le_trans (Nat.le_refl _) (Nat.le_of_eq g20.symm)
 have K23 : Keep h0 h20 [] := (Keep.refl h0 []).ext E20
 have V24 : Arv Z h20 b20 k20 .byte (3 : Int32) [(.int (0 : Int32)), (.int (0 : Int32)), (.int (0 : Int32))] (.int (0 : Int32)) := (Arv.new A20 (by decide)).pad (pad_rep [] (.int (0 : Int32)) 3)
 refine w_astoreN X20 hx (d10_3 hby) rfl (L' := #[.val (.ref a0), .val (.int (0 : Int32)), .val (.int (3 : Int32)), .val (.ref b20), .unset, .unset]) rfl (pc' := 4) rfl ?_
 refine w_aloadN X20 hx (d10_4 hby) rfl rfl (pc' := 5) rfl ?_
 refine w_iloadN X20 hx (d10_5 hby) rfl (pc' := 6) rfl ?_
 refine w_aloadN X20 hx (d10_6 hby) rfl rfl (pc' := 7) rfl ?_
 refine w_iconst X20 hx (d10_7 hby) (v := (0 : Int32)) rfl (pc' := 8) rfl ?_
 refine w_iloadN X20 hx (d10_8 hby) rfl (pc' := 9) rfl ?_
 have f25 : Arv Z h20 a0 k_a0 .char (3 : Int32) [(.int jj0), (.int jj1), (.int jj2)] (.int (0 : Int32)) := (V_a0.ext E20)
 have ne26 : a0 ≠ b20 := (Nat.ne_of_lt (Nat.lt_of_lt_of_le V_a0.lt (Nat.le_trans (Nat.le_refl _) (Nat.le_of_eq g20.symm))))
 refine w_static X20 hx (y := yn_11) hown (mvT hZ (wd_70 hw)) (mvT hZ (wd_71 hw)) (mvT hZ (wd_68 hw)) (mvT hZ (wd_72 hw)) (by decide) (backOf (W := 0) (rm_m11_33 l Z aZ hw [] a0 b20 k_a0 jj0 jj1 jj2 k20 h20 n0 (Nat.le_trans Z0 E20.1) f25 V24 ge21 ne26) hZ (wd_72 hw) (wd_68 hw) (by decide) (by decide)) (by rw [hml]; rfl) [(.ref a0), (.int (0 : Int32)), (.ref b20), (.int (0 : Int32)), (.int (3 : Int32))] (lenOf pd_2 rfl) rfl (Nat.le_of_eq rfl) (d10_9 hby) (fun _ _ => ⟨rfl, e20, (by decide : 1 + 0 ≤ _), (by decide : 3 + 0 ≤ _)⟩) (pc' := 12) rfl ?_
 rintro _ _ ⟨T27, L27, k27, n27⟩ X27 ⟨Lc27, hQ27, l27, y27, z27⟩
 dsimp only [Pt.U, Pt.locs, Pt.cells, Pt.slots] at X27 l27 y27 z27 hQ27 ⊢
 subst l27 y27 z27
 rcases hQ27 with ⟨rfl, N27q, K27, g27_0, g27_1, g27_2, g27_3⟩ | ⟨j_27, rfl, N27q, K27, g27_0, g27_1, g27_2⟩
 · have N28 := Fr.app N0 N27q
   have K29 : Keep h0 T27.heap [] := K23.trans K27 (allS (Or.inr sz22) (all0 (P := fun x => x ∈ [] ∨ h0.size ≤ x)))
   show Runs _ _ _ _ (T27.setTop (mkF m 12 #[.val (.ref a0), .val (.int (0 : Int32)), .val (.int (3 : Int32)), .val (.ref b20), .unset, .unset] [(.int (3 : Int32))]))
   refine w_istore X27 hx (d10_12 hby) (L' := #[.val (.ref a0), .val (.int (0 : Int32)), .val (.int (3 : Int32)), .val (.ref b20), .val (.int (3 : Int32)), .unset]) rfl (pc' := 14) rfl ?_
   refine w_iload X27 hx (d10_14 hby) rfl (pc' := 16) rfl ?_
   refine w_iloadN X27 hx (d10_16 hby) rfl (pc' := 17) rfl ?_
   refine w_icY X27 hx (d10_17 hby) (teq (by decide : (3 : Int32) = (3 : Int32))).1 (pc' := 57) (by decide) (by decide) ?_
   refine w_aloadN X27 hx (d10_57 hby) rfl rfl (pc' := 58) rfl ?_
   exact w_done X27 hlk (v := some (.ref b20)) rfl (fun h => by rw [hret] at h; cases h) (fun fs hr => retOut X27 hx hret rfl (Or.inr (Or.inr (Or.inr (Or.inr ⟨rfl, rfl, rfl⟩)))) (d10_58 hby) hr) (by decide) (by decide) (Or.inl ⟨b20, k20, rfl, N28, K29, sz22, g27_0, g27_1, g27_2, g27_3⟩)
 · have N30 := Fr.app N0 N27q
   have K31 : Keep h0 T27.heap [] := K23.trans K27 (allS (Or.inr sz22) (all0 (P := fun x => x ∈ [] ∨ h0.size ≤ x)))
   show Runs _ _ _ _ (T27.setTop (mkF m 12 #[.val (.ref a0), .val (.int (0 : Int32)), .val (.int (3 : Int32)), .val (.ref b20), .unset, .unset] [(.int j_27)]))
   refine w_istore X27 hx (d10_12 hby) (L' := #[.val (.ref a0), .val (.int (0 : Int32)), .val (.int (3 : Int32)), .val (.ref b20), .val (.int j_27), .unset]) rfl (pc' := 14) rfl ?_
   refine w_iload X27 hx (d10_14 hby) rfl (pc' := 16) rfl ?_
   refine w_iloadN X27 hx (d10_16 hby) rfl (pc' := 17) rfl ?_
   refine w_icN X27 hx (d10_17 hby) (feq (fun q => by have h9 := g27_1; rw [q] at h9; exact absurd h9 (by decide))).1 (pc' := 20) rfl ?_
   refine w_aloadN X27 hx (d10_20 hby) rfl rfl (pc' := 21) rfl ?_
   refine w_iloadN X27 hx (d10_21 hby) rfl (pc' := 22) rfl ?_
   refine w_iloadN X27 hx (d10_22 hby) rfl (pc' := 23) rfl ?_
   have f32 : Arv Z T27.heap a0 k_a0 .char (3 : Int32) [(.int jj0), (.int jj1), (.int jj2)] (.int (0 : Int32)) := (f25.keep K27 (ninS ne26 nin0))
   have f33 : Old Z n0 T27.heap := ((O0.ext E20).keep K27 (allS ge21 all0))
   have le34 : h0.size ≤ T27.heap.size := (Nat.le_trans E20.1 K27.1)
   refine w_static X27 hx (y := yn_18) hown (mvT hZ (wd_98 hw)) (mvT hZ (wd_99 hw)) (mvT hZ (wd_68 hw)) (mvT hZ (wd_100 hw)) (by decide) (backOf (W := 0) (rm_m18_34 l Z aZ hw [] a0 k_a0 jj0 jj1 jj2 T27.heap n0 (Nat.le_trans Z0 le34) f32 zz3 f33 zz4 zz5) hZ (wd_100 hw) (wd_68 hw) (by decide) (by decide)) (by rw [hml]; rfl) [(.ref a0), (.int (0 : Int32)), (.int (3 : Int32))] (lenOf pd_6 rfl) rfl (Nat.le_of_eq rfl) (d10_23 hby) (fun _ _ => ⟨rfl, rfl, (by decide : 1 + 1 ≤ _), (by decide : 3 + 6 ≤ _)⟩) (pc' := 26) rfl ?_
   rintro _ _ ⟨T35, L35, k35, n35⟩ X35 ⟨Lc35, hQ35, l35, y35, z35⟩
   dsimp only [Pt.U, Pt.locs, Pt.cells, Pt.slots] at X35 l35 y35 z35 hQ35 ⊢
   subst l35 y35 z35
   obtain ⟨r0_35, c0_35, rfl, N35q, K35, g35_0, g35_1⟩ := hQ35
   have N36 := Fr.app N30 N35q
   have K37 : Keep h0 T35.heap [] := K31.trans K35 (all0 (P := fun x => x ∈ [] ∨ h0.size ≤ x))
   have ge38 : n0 ≤ r0_35 := Nat.le_trans (Nat.le_trans Z0 le34) g35_0
   have sz39 : h0.size ≤ r0_35 := Nat.le_trans le34 g35_0
   show Runs _ _ _ _ (T35.setTop (mkF m 26 #[.val (.ref a0), .val (.int (0 : Int32)), .val (.int (3 : Int32)), .val (.ref b20), .val (.int j_27), .unset] [(.ref r0_35)]))
   refine w_astore X35 hx (d10_26 hby) rfl (L' := #[.val (.ref a0), .val (.int (0 : Int32)), .val (.int (3 : Int32)), .val (.ref b20), .val (.int j_27), .val (.ref r0_35)]) rfl (pc' := 28) rfl ?_
   refine w_aload X35 hx (d10_28 hby) rfl rfl (pc' := 30) rfl ?_
   refine w_iload X35 hx (d10_30 hby) rfl (pc' := 32) rfl ?_
   have f42 : Old Z n0 T35.heap := (f33.keep K35 all0)
   have le43 : h0.size ≤ T35.heap.size := (Nat.le_trans le34 K35.1)
   refine w_static X35 hx (y := yn_22) hown (mvT hZ (wd_114 hw)) (mvT hZ (wd_115 hw)) (mvT hZ (wd_68 hw)) (mvT hZ (wd_116 hw)) (by decide) (backOf (W := 0) (rm_m22_40 l Z aZ hw [] r0_35 j_27 c0_35 ((jj0 >>> ((0 : Int32) &&& 31)).toInt8.toInt32) ((jj0 >>> ((8 : Int32) &&& 31)).toInt8.toInt32) ((jj1 >>> ((0 : Int32) &&& 31)).toInt8.toInt32) ((jj1 >>> ((8 : Int32) &&& 31)).toInt8.toInt32) ((jj2 >>> ((0 : Int32) &&& 31)).toInt8.toInt32) ((jj2 >>> ((8 : Int32) &&& 31)).toInt8.toInt32) T35.heap n0 (Nat.le_trans Z0 le43) zz3 f42 g35_1 g27_0 g27_1 zz4 zz5) hZ (wd_116 hw) (wd_68 hw) (by decide) (by decide)) (by rw [hml]; rfl) [(.ref r0_35), (.int j_27)] (lenOf pd_7 rfl) rfl (Nat.le_of_eq rfl) (d10_32 hby) (fun _ _ => ⟨rfl, rfl, (by decide : 2 + 0 ≤ _), (by decide : 9 + 0 ≤ _)⟩) (pc' := 35) rfl ?_
   rintro _ _ ⟨T44, L44, k44, n44⟩ X44 ⟨Lc44, hQ44, l44, y44, z44⟩
   dsimp only [Pt.U, Pt.locs, Pt.cells, Pt.slots] at X44 l44 y44 z44 hQ44 ⊢
   subst l44 y44 z44
   obtain ⟨rfl, N44q, e44⟩ := hQ44
   have N45 := Fr.app N36 N44q
   show Runs _ _ _ _ (T44.setTop (mkF m 35 #[.val (.ref a0), .val (.int (0 : Int32)), .val (.int (3 : Int32)), .val (.ref b20), .val (.int j_27), .val (.ref r0_35)] [(.int (((((gI [((jj0 >>> ((0 : Int32) &&& 31)).toInt8.toInt32), ((jj0 >>> ((8 : Int32) &&& 31)).toInt8.toInt32), ((jj1 >>> ((0 : Int32) &&& 31)).toInt8.toInt32), ((jj1 >>> ((8 : Int32) &&& 31)).toInt8.toInt32), ((jj2 >>> ((0 : Int32) &&& 31)).toInt8.toInt32), ((jj2 >>> ((8 : Int32) &&& 31)).toInt8.toInt32)] (j_27 <<< ((1 : Int32) &&& 31))) &&& (255 : Int32)) <<< ((0 : Int32) &&& 31)) ||| (((gI [((jj0 >>> ((0 : Int32) &&& 31)).toInt8.toInt32), ((jj0 >>> ((8 : Int32) &&& 31)).toInt8.toInt32), ((jj1 >>> ((0 : Int32) &&& 31)).toInt8.toInt32), ((jj1 >>> ((8 : Int32) &&& 31)).toInt8.toInt32), ((jj2 >>> ((0 : Int32) &&& 31)).toInt8.toInt32), ((jj2 >>> ((8 : Int32) &&& 31)).toInt8.toInt32)] ((j_27 <<< ((1 : Int32) &&& 31)) + (1 : Int32))) &&& (255 : Int32)) <<< ((8 : Int32) &&& 31))).toUInt32.toUInt16.toUInt32.toInt32))]))
   refine w_sipush X44 hx (d10_35 hby) (v := (255 : Int32)) rfl (pc' := 38) rfl ?_
   refine w_icY X44 hx (d10_38 hby) (tlt (show (255 : Int32) < (((((gI [((jj0 >>> ((0 : Int32) &&& 31)).toInt8.toInt32), ((jj0 >>> ((8 : Int32) &&& 31)).toInt8.toInt32), ((jj1 >>> ((0 : Int32) &&& 31)).toInt8.toInt32), ((jj1 >>> ((8 : Int32) &&& 31)).toInt8.toInt32), ((jj2 >>> ((0 : Int32) &&& 31)).toInt8.toInt32), ((jj2 >>> ((8 : Int32) &&& 31)).toInt8.toInt32)] (j_27 <<< ((1 : Int32) &&& 31))) &&& (255 : Int32)) <<< ((0 : Int32) &&& 31)) ||| (((gI [((jj0 >>> ((0 : Int32) &&& 31)).toInt8.toInt32), ((jj0 >>> ((8 : Int32) &&& 31)).toInt8.toInt32), ((jj1 >>> ((0 : Int32) &&& 31)).toInt8.toInt32), ((jj1 >>> ((8 : Int32) &&& 31)).toInt8.toInt32), ((jj2 >>> ((0 : Int32) &&& 31)).toInt8.toInt32), ((jj2 >>> ((8 : Int32) &&& 31)).toInt8.toInt32)] ((j_27 <<< ((1 : Int32) &&& 31)) + (1 : Int32))) &&& (255 : Int32)) <<< ((8 : Int32) &&& 31))).toUInt32.toUInt16.toUInt32.toInt32) from by rw [own_uj3 g27_0 g27_1 zz6 zz7 zz8]; exact g27_2)).2.2.1 (pc' := 54) (by decide) (by decide) ?_
   refine w_aload X44 hx (d10_54 hby) rfl rfl (pc' := 56) rfl ?_
   exact w_done X44 hlk (v := some (.ref r0_35)) e44 (fun h => by rw [hret] at h; cases h) (fun fs hr => retOut X44 hx hret rfl (Or.inr (Or.inr (Or.inr (Or.inr ⟨rfl, rfl, rfl⟩)))) (d10_56 hby) hr) (by decide) (by decide) (Or.inr (⟨r0_35, c0_35, rfl, N45, K37, sz39, g35_1, (own_or3 g27_0 g27_1 g27_2)⟩))
theorem ef_m12_41 (m : MethodId) (a0 : Addr)  : entryFrame m #[(.ref a0), (.int (3 : Int32))] 2 = mkF m 0 #[.val (.ref a0), .val (.int (3 : Int32))] [] := by first | (simp [entryFrame, mkF, argsToLocals, Value.category]; done) | rfl
def Q_m12_41 (Z : State) (a0 : Addr) (k_a0 : ClassId) (jj0 : Int32) (jj1 : Int32) (jj2 : Int32) (h0 : Heap) (n0 : Nat) (v : Option Value) (h : Heap) (L : List Loc) : Prop := v = some (.int (0 : Int32)) ∧ Fr n0 L ∧ h = h0
theorem rm_m12_41 (l : Launch) (Z : State) (aZ : Array Value) (hw : ∀ d ∈ tables_1, d.before aZ Z = true) (ws : List Jvm.Cond) (a0 : Addr) (k_a0 : ClassId) (jj0 : Int32) (jj1 : Int32) (jj2 : Int32) (h0 : Heap) (n0 : Nat) (Z0 : n0 ≤ h0.size) (V_a0 : Arv Z h0 a0 k_a0 .byte (3 : Int32) [(.int jj0), (.int jj1), (.int jj2)] (.int (0 : Int32))) :
    MetN l Z yn_12 jdk_52_method_15_code 2 (some .byte) ws ({ frames := 0, cells := 0, slots := 0, locals := 0 } : Room) #[(.ref a0), (.int (3 : Int32))] h0 (Q_m12_41 Z a0 k_a0 jj0 jj1 jj2 h0 n0) := by
 refine MetN.of (plainFor_of_name pn_1) ?_
 intro p e s m below meth c s₁ hret hx hby hml hown hnm hlk hZ X0 e0
 have N0 := Fr.nil n0
 rw [ef_m12_41 m a0]
 refine w_iloadN X0 hx (d12_0 hby) rfl (pc' := 1) rfl ?_
 refine w_aloadN X0 hx (d12_1 hby) rfl rfl (pc' := 2) rfl ?_
 refine w_alen X0 hx hZ e0 V_a0 (d12_2 hby) (pc' := 3) rfl ?_
 refine w_isub X0 hx (d12_3 hby) (pc' := 4) rfl ?_
 rw [show ((3 : Int32) - (3 : Int32)) = (0 : Int32) from by decide]
 refine w_bipush X0 hx (d12_4 hby) (v := (31 : Int32)) rfl (pc' := 6) rfl ?_
 refine w_iushr X0 hx (d12_6 hby) (pc' := 7) rfl ?_
 rw [show (((0 : Int32).toUInt32 >>> ((31 : Int32) &&& 31).toUInt32).toInt32) = (0 : Int32) from by decide]
 refine w_i2b X0 hx (d12_7 hby) (pc' := 8) rfl ?_
 rw [show ((0 : Int32).toInt8.toInt32) = (0 : Int32) from by decide]
 exact w_done X0 hlk (v := some (.int (0 : Int32))) e0 (fun h => by rw [hret] at h; cases h) (fun fs hr => retN X0 hx (t := .byte) hret (by simp) (d12_8 hby) hr) (by decide) (by decide) (⟨rfl, N0, rfl⟩)
theorem ef_m12_42 (m : MethodId) (a0 : Addr)  : entryFrame m #[(.ref a0), (.int (3 : Int32))] 2 = mkF m 0 #[.val (.ref a0), .val (.int (3 : Int32))] [] := by first | (simp [entryFrame, mkF, argsToLocals, Value.category]; done) | rfl
def Q_m12_42 (Z : State) (a0 : Addr) (k_a0 : ClassId) (jj0 : Int32) (jj1 : Int32) (jj2 : Int32) (jj3 : Int32) (jj4 : Int32) (jj5 : Int32) (h0 : Heap) (n0 : Nat) (v : Option Value) (h : Heap) (L : List Loc) : Prop := v = some (.int (1 : Int32)) ∧ Fr n0 L ∧ h = h0
theorem rm_m12_42 (l : Launch) (Z : State) (aZ : Array Value) (hw : ∀ d ∈ tables_1, d.before aZ Z = true) (ws : List Jvm.Cond) (a0 : Addr) (k_a0 : ClassId) (jj0 : Int32) (jj1 : Int32) (jj2 : Int32) (jj3 : Int32) (jj4 : Int32) (jj5 : Int32) (h0 : Heap) (n0 : Nat) (Z0 : n0 ≤ h0.size) (V_a0 : Arv Z h0 a0 k_a0 .byte (6 : Int32) [(.int jj0), (.int jj1), (.int jj2), (.int jj3), (.int jj4), (.int jj5)] (.int (0 : Int32))) :
    MetN l Z yn_12 jdk_52_method_15_code 2 (some .byte) ws ({ frames := 0, cells := 0, slots := 0, locals := 0 } : Room) #[(.ref a0), (.int (3 : Int32))] h0 (Q_m12_42 Z a0 k_a0 jj0 jj1 jj2 jj3 jj4 jj5 h0 n0) := by
 refine MetN.of (plainFor_of_name pn_1) ?_
 intro p e s m below meth c s₁ hret hx hby hml hown hnm hlk hZ X0 e0
 have N0 := Fr.nil n0
 rw [ef_m12_42 m a0]
 refine w_iloadN X0 hx (d12_0 hby) rfl (pc' := 1) rfl ?_
 refine w_aloadN X0 hx (d12_1 hby) rfl rfl (pc' := 2) rfl ?_
 refine w_alen X0 hx hZ e0 V_a0 (d12_2 hby) (pc' := 3) rfl ?_
 refine w_isub X0 hx (d12_3 hby) (pc' := 4) rfl ?_
 rw [show ((3 : Int32) - (6 : Int32)) = (-3 : Int32) from by decide]
 refine w_bipush X0 hx (d12_4 hby) (v := (31 : Int32)) rfl (pc' := 6) rfl ?_
 refine w_iushr X0 hx (d12_6 hby) (pc' := 7) rfl ?_
 rw [show (((-3 : Int32).toUInt32 >>> ((31 : Int32) &&& 31).toUInt32).toInt32) = (1 : Int32) from by decide]
 refine w_i2b X0 hx (d12_7 hby) (pc' := 8) rfl ?_
 rw [show ((1 : Int32).toInt8.toInt32) = (1 : Int32) from by decide]
 exact w_done X0 hlk (v := some (.int (1 : Int32))) e0 (fun h => by rw [hret] at h; cases h) (fun fs hr => retN X0 hx (t := .byte) hret (by simp) (d12_8 hby) hr) (by decide) (by decide) (⟨rfl, N0, rfl⟩)
theorem ef_m3_31 (m : MethodId) (a0 : Addr) (a1 : Addr)  : entryFrame m #[(.ref a0), (.ref a1), (.int (0 : Int32)), (.int (3 : Int32)), .null] 6 = mkF m 0 #[.val (.ref a0), .val (.ref a1), .val (.int (0 : Int32)), .val (.int (3 : Int32)), .val .null, .unset] [] := by first | (simp [entryFrame, mkF, argsToLocals, Value.category]; done) | rfl
def Q_m3_31 (Z : State) (a0 : Addr) (a1 : Addr) (jj0 : Int32) (k_a1 : ClassId) (jj1 : Int32) (jj2 : Int32) (jj3 : Int32) (h0 : Heap) (n0 : Nat) (v : Option Value) (h : Heap) (L : List Loc) : Prop := (∃ (t : Addr) (kb : ClassId), v = none ∧ Fr n0 L ∧ Keep h0 h [a0] ∧ Exa Z h a0 kc0 ∧ Fld Z h a0 kc0 "coder" "B" (.int (0 : Int32)) ∧ Fld Z h a0 kc0 "value" "[B" (.ref t) ∧ h0.size ≤ t ∧ Arv Z h t kb .byte (3 : Int32) [(.int (jj1.toInt8.toInt32)), (.int (jj2.toInt8.toInt32)), (.int (jj3.toInt8.toInt32))] (.int (0 : Int32)) ∧ ¬ ((255 : Int32) < jj1) ∧ ¬ ((255 : Int32) < jj2) ∧ ¬ ((255 : Int32) < jj3)) ∨ (∃ (t : Addr) (kb : ClassId), v = none ∧ Fr n0 L ∧ Keep h0 h [a0] ∧ Exa Z h a0 kc0 ∧ Fld Z h a0 kc0 "coder" "B" (.int (1 : Int32)) ∧ Fld Z h a0 kc0 "value" "[B" (.ref t) ∧ h0.size ≤ t ∧ Arv Z h t kb .byte (6 : Int32) [(.int ((jj1 >>> ((0 : Int32) &&& 31)).toInt8.toInt32)), (.int ((jj1 >>> ((8 : Int32) &&& 31)).toInt8.toInt32)), (.int ((jj2 >>> ((0 : Int32) &&& 31)).toInt8.toInt32)), (.int ((jj2 >>> ((8 : Int32) &&& 31)).toInt8.toInt32)), (.int ((jj3 >>> ((0 : Int32) &&& 31)).toInt8.toInt32)), (.int ((jj3 >>> ((8 : Int32) &&& 31)).toInt8.toInt32))] (.int (0 : Int32)) ∧ ((255 : Int32) < jj1 ∨ (255 : Int32) < jj2 ∨ (255 : Int32) < jj3))
theorem rm_m3_31 (l : Launch) (Z : State) (aZ : Array Value) (hw : ∀ d ∈ tables_1, d.before aZ Z = true) (ws : List Jvm.Cond) (a0 : Addr) (a1 : Addr) (jj0 : Int32) (k_a1 : ClassId) (jj1 : Int32) (jj2 : Int32) (jj3 : Int32) (h0 : Heap) (n0 : Nat) (Z0 : n0 ≤ h0.size) (zz4 : Sta Z Z.heap kc0 "COMPACT_STRINGS" "Z" (.int jj0)) (O0 : Old Z n0 h0) (hP_2 : ¬ (jj0 = (0 : Int32))) (V_a1 : Arv Z h0 a1 k_a1 .char (3 : Int32) [(.int jj1), (.int jj2), (.int jj3)] (.int (0 : Int32))) (zz5 : nar .char jj1 = jj1) (zz6 : nar .char jj2 = jj2) (zz7 : nar .char jj3 = jj3) (zz8 : Sta Z Z.heap kc1 "$assertionsDisabled" "Z" (.int (1 : Int32))) (zz9 : Sta Z Z.heap kc1 "HI_BYTE_SHIFT" "I" (.int (0 : Int32))) (zz10 : Sta Z Z.heap kc1 "LO_BYTE_SHIFT" "I" (.int (8 : Int32))) (E_a0 : Exa Z h0 a0 kc0) (zz11 : Fld Z h0 a0 kc0 "coder" "B" (.int (0 : Int32))) (zz12 : n0 ≤ a0) (zz13 : Fld Z h0 a0 kc0 "value" "[B" .null) :
    MetN l Z yn_3 jdk_42_method_149_code 6 none ws ({ frames := 4, cells := 2, slots := 9, locals := 57 } : Room) #[(.ref a0), (.ref a1), (.int (0 : Int32)), (.int (3 : Int32)), .null] h0 (Q_m3_31 Z a0 a1 jj0 k_a1 jj1 jj2 jj3 h0 n0) := by
 refine MetN.of (plainFor_of_name pn_0) ?_
 intro p e s m below meth c s₁ hret hx hby hml hown hnm hlk hZ X0 e0
 have N0 := Fr.nil n0
 rw [ef_m3_31 m a0 a1]
 refine w_aloadN X0 hx (d3_0 hby) rfl rfl (pc' := 1) rfl ?_
 refine w_initO X0 hx 0 hZ hown (wd_16 hw) (wd_17 hw) (wd_18 hw) e0 (by rw [hml]; rfl) (d3_1 hby) (by decide) (Nat.le_of_eq rfl) (by decide) (pc' := 4) rfl ?_
 intro T20 X20 e20
 refine w_iloadN X20 hx (d3_4 hby) rfl (pc' := 5) rfl ?_
 refine w_ifY X20 hx (d3_5 hby) (feq (by decide : ¬ ((3 : Int32) = (0 : Int32)))).2 (pc' := 27) (by decide) (by decide) ?_
 refine w_getS X20 hx "" hZ hown (Or.inl (wd_63 hw)) Via.refl e20 (zz4.ext O0.2) (d3_27 hby) (pc' := 30) rfl ?_
 intro T21 X21 e21
 refine w_ifN X21 hx (d3_30 hby) (feq hP_2).1 (pc' := 33) rfl ?_
 refine w_aloadN X21 hx (d3_33 hby) rfl rfl (pc' := 34) rfl ?_
 refine w_iloadN X21 hx (d3_34 hby) rfl (pc' := 35) rfl ?_
 refine w_iloadN X21 hx (d3_35 hby) rfl (pc' := 36) rfl ?_
 refine w_static X21 hx (y := yn_10) hown (mvT hZ (wd_66 hw)) (mvT hZ (wd_67 hw)) (mvT hZ (wd_68 hw)) (mvT hZ (wd_69 hw)) (by decide) (backOf (W := 0) (rm_m10_32 l Z aZ hw [] a1 k_a1 jj1 jj2 jj3 h0 n0 Z0 V_a1 zz8 O0 zz9 zz10 zz5 zz6 zz7) hZ (wd_69 hw) (wd_68 hw) (by decide) (by decide)) (by rw [hml]; rfl) [(.ref a1), (.int (0 : Int32)), (.int (3 : Int32))] (lenOf pd_6 rfl) rfl (Nat.le_of_eq rfl) (d3_36 hby) (fun _ _ => ⟨rfl, e21, (by decide : 0 + 2 ≤ _), (by decide : 0 + 9 ≤ _)⟩) (pc' := 39) rfl ?_
 rintro _ _ ⟨T22, L22, k22, n22⟩ X22 ⟨Lc22, hQ22, l22, y22, z22⟩
 dsimp only [Pt.U, Pt.locs, Pt.cells, Pt.slots] at X22 l22 y22 z22 hQ22 ⊢
 subst l22 y22 z22
 rcases hQ22 with ⟨t_22, kb_22, rfl, N22q, K22, g22_0, g22_1, g22_2, g22_3, g22_4⟩ | ⟨t_22, kb_22, rfl, N22q, K22, g22_0, g22_1, g22_2⟩
 · have N23 := Fr.app N0 N22q
   have K24 : Keep h0 T22.heap [a0] := (Keep.refl h0 [a0]).trans K22 (all0 (P := fun x => x ∈ [a0] ∨ h0.size ≤ x))
   have ge25 : n0 ≤ t_22 := Nat.le_trans Z0 g22_0
   have sz26 : h0.size ≤ t_22 := Nat.le_trans (Nat.le_refl _) g22_0
   show Runs _ _ _ _ (T22.setTop (mkF m 39 #[.val (.ref a0), .val (.ref a1), .val (.int (0 : Int32)), .val (.int (3 : Int32)), .val .null, .unset] [(.ref t_22)]))
   refine w_astore X22 hx (d3_39 hby) rfl (L' := #[.val (.ref a0), .val (.ref a1), .val (.int (0 : Int32)), .val (.int (3 : Int32)), .val .null, .val (.ref t_22)]) rfl (pc' := 41) rfl ?_
   refine w_aloadN X22 hx (d3_41 hby) rfl rfl (pc' := 42) rfl ?_
   refine w_aload X22 hx (d3_42 hby) rfl rfl (pc' := 44) rfl ?_
   refine w_iloadN X22 hx (d3_44 hby) rfl (pc' := 45) rfl ?_
   refine w_static X22 hx (y := yn_12) hown (mvT hZ (wd_73 hw)) (mvT hZ (wd_74 hw)) (mvT hZ (wd_68 hw)) (mvT hZ (wd_75 hw)) (by decide) (backOf (W := 1) (rm_m12_41 l Z aZ hw [] t_22 kb_22 (jj1.toInt8.toInt32) (jj2.toInt8.toInt32) (jj3.toInt8.toInt32) T22.heap n0 (Nat.le_trans Z0 K22.1) g22_1) hZ (wd_75 hw) (wd_68 hw) (by decide) (by decide)) (by rw [hml]; rfl) [(.ref t_22), (.int (3 : Int32))] (lenOf pd_8 rfl) rfl (Nat.le_of_eq rfl) (d3_45 hby) (fun _ _ => ⟨rfl, rfl, (by decide : 2 + 0 ≤ _), (by decide : 9 + 0 ≤ _)⟩) (pc' := 48) rfl ?_
   rintro _ _ ⟨T27, L27, k27, n27⟩ X27 ⟨Lc27, hQ27, l27, y27, z27⟩
   dsimp only [Pt.U, Pt.locs, Pt.cells, Pt.slots] at X27 l27 y27 z27 hQ27 ⊢
   subst l27 y27 z27
   obtain ⟨rfl, N27q, e27⟩ := hQ27
   have N28 := Fr.app N23 N27q
   show Runs _ _ _ _ (T27.setTop (mkF m 48 #[.val (.ref a0), .val (.ref a1), .val (.int (0 : Int32)), .val (.int (3 : Int32)), .val .null, .val (.ref t_22)] [(.int (0 : Int32)), (.ref a0)]))
   have f29 : Exa Z T22.heap a0 kc0 := (E_a0.keep K22)
   have f30 : Fld Z T22.heap a0 kc0 "coder" "B" (.int (0 : Int32)) := (zz11.keep K22 nin0)
   refine w_putF X27 hx "" hZ hown (Or.inl (wd_26 hw)) Via.refl e27 f30 f29 (Or.inr ⟨(wd_22 hw), rfl, hnm⟩) (wd_7 hw) (ty := .byte) (by decide) rfl rfl (d3_48 hby) (pc' := 51) rfl ?_
   intro T31 h31 X31 e31 W31
   have f32 : Fld Z h31 a0 kc0 "coder" "B" (.int (0 : Int32)) := f30.same W31
   have K33 : Keep h0 h31 [a0] := K24.wr W31 (Or.inl (by simp))
   have N34 := Fr.snoc X31 N28 zz12
   refine w_aloadN X31 hx (d3_51 hby) rfl rfl (pc' := 52) rfl ?_
   refine w_aload X31 hx (d3_52 hby) rfl rfl (pc' := 54) rfl ?_
   have f35 : Exa Z h31 a0 kc0 := (f29.wr W31)
   have f36 : Fld Z h31 a0 kc0 "value" "[B" .null := ((zz13.keep K22 nin0).other W31 (Or.inr (slot_ne (Or.inr (wd_21 hw)) (Or.inr (wd_22 hw)) (by decide) (t := (.array .byte)) (t' := .byte) (by decide) (by decide))))
   refine w_putF X31 hx "" hZ hown (Or.inl (wd_25 hw)) Via.refl e31 f36 f35 (Or.inr ⟨(wd_21 hw), rfl, hnm⟩) (wd_7 hw) (ty := (.array .byte)) (by decide) rfl rfl (d3_54 hby) (pc' := 57) rfl ?_
   intro T37 h37 X37 e37 W37
   have f38 : Fld Z h37 a0 kc0 "value" "[B" (.ref t_22) := f36.same W37
   have K39 : Keep h0 h37 [a0] := K33.wr W37 (Or.inl (by simp))
   have N40 := Fr.snoc X37 N34 zz12
   have f41 : Exa Z h37 a0 kc0 := (f35.wr W37)
   have f42 : Fld Z h37 a0 kc0 "coder" "B" (.int (0 : Int32)) := (f32.other W37 (Or.inr (slot_ne (Or.inr (wd_22 hw)) (Or.inr (wd_21 hw)) (by decide) (t := .byte) (t' := (.array .byte)) (by decide) (by decide))))
   have ne43 : a0 ≠ t_22 := (Nat.ne_of_lt (Nat.lt_of_lt_of_le E_a0.lt (Nat.le_trans (Nat.le_refl _) g22_0)))
   have f44 : Arv Z h37 t_22 kb_22 .byte (3 : Int32) [(.int (jj1.toInt8.toInt32)), (.int (jj2.toInt8.toInt32)), (.int (jj3.toInt8.toInt32))] (.int (0 : Int32)) := ((g22_1.other W31 (Ne.symm ne43)).other W37 (Ne.symm ne43))
   exact w_done X37 hlk (v := none) e37 (fun _ => rfl) (fun fs hr => X37.returnOut hx hret (d3_57 hby) hr) (by decide) (by decide) (Or.inl ⟨t_22, kb_22, rfl, N40, K39, f41, f42, f38, sz26, f44, g22_2, g22_3, g22_4⟩)
 · have N45 := Fr.app N0 N22q
   have K46 : Keep h0 T22.heap [a0] := (Keep.refl h0 [a0]).trans K22 (all0 (P := fun x => x ∈ [a0] ∨ h0.size ≤ x))
   have ge47 : n0 ≤ t_22 := Nat.le_trans Z0 g22_0
   have sz48 : h0.size ≤ t_22 := Nat.le_trans (Nat.le_refl _) g22_0
   show Runs _ _ _ _ (T22.setTop (mkF m 39 #[.val (.ref a0), .val (.ref a1), .val (.int (0 : Int32)), .val (.int (3 : Int32)), .val .null, .unset] [(.ref t_22)]))
   refine w_astore X22 hx (d3_39 hby) rfl (L' := #[.val (.ref a0), .val (.ref a1), .val (.int (0 : Int32)), .val (.int (3 : Int32)), .val .null, .val (.ref t_22)]) rfl (pc' := 41) rfl ?_
   refine w_aloadN X22 hx (d3_41 hby) rfl rfl (pc' := 42) rfl ?_
   refine w_aload X22 hx (d3_42 hby) rfl rfl (pc' := 44) rfl ?_
   refine w_iloadN X22 hx (d3_44 hby) rfl (pc' := 45) rfl ?_
   refine w_static X22 hx (y := yn_12) hown (mvT hZ (wd_73 hw)) (mvT hZ (wd_74 hw)) (mvT hZ (wd_68 hw)) (mvT hZ (wd_75 hw)) (by decide) (backOf (W := 1) (rm_m12_42 l Z aZ hw [] t_22 kb_22 ((jj1 >>> ((0 : Int32) &&& 31)).toInt8.toInt32) ((jj1 >>> ((8 : Int32) &&& 31)).toInt8.toInt32) ((jj2 >>> ((0 : Int32) &&& 31)).toInt8.toInt32) ((jj2 >>> ((8 : Int32) &&& 31)).toInt8.toInt32) ((jj3 >>> ((0 : Int32) &&& 31)).toInt8.toInt32) ((jj3 >>> ((8 : Int32) &&& 31)).toInt8.toInt32) T22.heap n0 (Nat.le_trans Z0 K22.1) g22_1) hZ (wd_75 hw) (wd_68 hw) (by decide) (by decide)) (by rw [hml]; rfl) [(.ref t_22), (.int (3 : Int32))] (lenOf pd_8 rfl) rfl (Nat.le_of_eq rfl) (d3_45 hby) (fun _ _ => ⟨rfl, rfl, (by decide : 2 + 0 ≤ _), (by decide : 9 + 0 ≤ _)⟩) (pc' := 48) rfl ?_
   rintro _ _ ⟨T49, L49, k49, n49⟩ X49 ⟨Lc49, hQ49, l49, y49, z49⟩
   dsimp only [Pt.U, Pt.locs, Pt.cells, Pt.slots] at X49 l49 y49 z49 hQ49 ⊢
   subst l49 y49 z49
   obtain ⟨rfl, N49q, e49⟩ := hQ49
   have N50 := Fr.app N45 N49q
   show Runs _ _ _ _ (T49.setTop (mkF m 48 #[.val (.ref a0), .val (.ref a1), .val (.int (0 : Int32)), .val (.int (3 : Int32)), .val .null, .val (.ref t_22)] [(.int (1 : Int32)), (.ref a0)]))
   have f51 : Exa Z T22.heap a0 kc0 := (E_a0.keep K22)
   have f52 : Fld Z T22.heap a0 kc0 "coder" "B" (.int (0 : Int32)) := (zz11.keep K22 nin0)
   refine w_putF X49 hx "" hZ hown (Or.inl (wd_26 hw)) Via.refl e49 f52 f51 (Or.inr ⟨(wd_22 hw), rfl, hnm⟩) (wd_7 hw) (ty := .byte) (by decide) rfl rfl (d3_48 hby) (pc' := 51) rfl ?_
   intro T53 h53 X53 e53 W53
   have f54 : Fld Z h53 a0 kc0 "coder" "B" (.int (1 : Int32)) := f52.same W53
   have K55 : Keep h0 h53 [a0] := K46.wr W53 (Or.inl (by simp))
   have N56 := Fr.snoc X53 N50 zz12
   refine w_aloadN X53 hx (d3_51 hby) rfl rfl (pc' := 52) rfl ?_
   refine w_aload X53 hx (d3_52 hby) rfl rfl (pc' := 54) rfl ?_
   have f57 : Exa Z h53 a0 kc0 := (f51.wr W53)
   have f58 : Fld Z h53 a0 kc0 "value" "[B" .null := ((zz13.keep K22 nin0).other W53 (Or.inr (slot_ne (Or.inr (wd_21 hw)) (Or.inr (wd_22 hw)) (by decide) (t := (.array .byte)) (t' := .byte) (by decide) (by decide))))
   refine w_putF X53 hx "" hZ hown (Or.inl (wd_25 hw)) Via.refl e53 f58 f57 (Or.inr ⟨(wd_21 hw), rfl, hnm⟩) (wd_7 hw) (ty := (.array .byte)) (by decide) rfl rfl (d3_54 hby) (pc' := 57) rfl ?_
   intro T59 h59 X59 e59 W59
   have f60 : Fld Z h59 a0 kc0 "value" "[B" (.ref t_22) := f58.same W59
   have K61 : Keep h0 h59 [a0] := K55.wr W59 (Or.inl (by simp))
   have N62 := Fr.snoc X59 N56 zz12
   have f64 : Exa Z h59 a0 kc0 := (f57.wr W59)
   have f65 : Fld Z h59 a0 kc0 "coder" "B" (.int (1 : Int32)) := (f54.other W59 (Or.inr (slot_ne (Or.inr (wd_22 hw)) (Or.inr (wd_21 hw)) (by decide) (t := .byte) (t' := (.array .byte)) (by decide) (by decide))))
   have ne66 : a0 ≠ t_22 := (Nat.ne_of_lt (Nat.lt_of_lt_of_le E_a0.lt (Nat.le_trans (Nat.le_refl _) g22_0)))
   have f67 : Arv Z h59 t_22 kb_22 .byte (6 : Int32) [(.int ((jj1 >>> ((0 : Int32) &&& 31)).toInt8.toInt32)), (.int ((jj1 >>> ((8 : Int32) &&& 31)).toInt8.toInt32)), (.int ((jj2 >>> ((0 : Int32) &&& 31)).toInt8.toInt32)), (.int ((jj2 >>> ((8 : Int32) &&& 31)).toInt8.toInt32)), (.int ((jj3 >>> ((0 : Int32) &&& 31)).toInt8.toInt32)), (.int ((jj3 >>> ((8 : Int32) &&& 31)).toInt8.toInt32))] (.int (0 : Int32)) := ((g22_1.other W53 (Ne.symm ne66)).other W59 (Ne.symm ne66))
   exact w_done X59 hlk (v := none) e59 (fun _ => rfl) (fun fs hr => X59.returnOut hx hret (d3_57 hby) hr) (by decide) (by decide) (Or.inr (⟨t_22, kb_22, rfl, N62, K61, f64, f65, f60, sz48, f67, g22_2⟩))
theorem ef_m2_30 (m : MethodId) (a0 : Addr) (a1 : Addr)  : entryFrame m #[(.ref a0), (.ref a1)] 2 = mkF m 0 #[.val (.ref a0), .val (.ref a1)] [] := by first | (simp [entryFrame, mkF, argsToLocals, Value.category]; done) | rfl
def Q_m2_30 (Z : State) (a0 : Addr) (a1 : Addr) (k_a1 : ClassId) (jj0 : Int32) (jj1 : Int32) (jj2 : Int32) (jj3 : Int32) (h0 : Heap) (n0 : Nat) (v : Option Value) (h : Heap) (L : List Loc) : Prop := (∃ (t : Addr) (kb : ClassId), v = none ∧ Fr n0 L ∧ Keep h0 h [a0] ∧ Exa Z h a0 kc0 ∧ Fld Z h a0 kc0 "coder" "B" (.int (0 : Int32)) ∧ Fld Z h a0 kc0 "value" "[B" (.ref t) ∧ h0.size ≤ t ∧ Arv Z h t kb .byte (3 : Int32) [(.int (jj0.toInt8.toInt32)), (.int (jj1.toInt8.toInt32)), (.int (jj2.toInt8.toInt32))] (.int (0 : Int32)) ∧ ¬ ((255 : Int32) < jj0) ∧ ¬ ((255 : Int32) < jj1) ∧ ¬ ((255 : Int32) < jj2)) ∨ (∃ (t : Addr) (kb : ClassId), v = none ∧ Fr n0 L ∧ Keep h0 h [a0] ∧ Exa Z h a0 kc0 ∧ Fld Z h a0 kc0 "coder" "B" (.int (1 : Int32)) ∧ Fld Z h a0 kc0 "value" "[B" (.ref t) ∧ h0.size ≤ t ∧ Arv Z h t kb .byte (6 : Int32) [(.int ((jj0 >>> ((0 : Int32) &&& 31)).toInt8.toInt32)), (.int ((jj0 >>> ((8 : Int32) &&& 31)).toInt8.toInt32)), (.int ((jj1 >>> ((0 : Int32) &&& 31)).toInt8.toInt32)), (.int ((jj1 >>> ((8 : Int32) &&& 31)).toInt8.toInt32)), (.int ((jj2 >>> ((0 : Int32) &&& 31)).toInt8.toInt32)), (.int ((jj2 >>> ((8 : Int32) &&& 31)).toInt8.toInt32))] (.int (0 : Int32)) ∧ ((255 : Int32) < jj0 ∨ (255 : Int32) < jj1 ∨ (255 : Int32) < jj2))
theorem rm_m2_30 (l : Launch) (Z : State) (aZ : Array Value) (hw : ∀ d ∈ tables_1, d.before aZ Z = true) (ws : List Jvm.Cond) (a0 : Addr) (a1 : Addr) (k_a1 : ClassId) (jj0 : Int32) (jj1 : Int32) (jj2 : Int32) (jj3 : Int32) (h0 : Heap) (n0 : Nat) (Z0 : n0 ≤ h0.size) (V_a1 : Arv Z h0 a1 k_a1 .char (3 : Int32) [(.int jj0), (.int jj1), (.int jj2)] (.int (0 : Int32))) (hP_1 : ¬ (jj3 = (0 : Int32))) (zz4 : nar .char jj0 = jj0) (zz5 : nar .char jj1 = jj1) (zz6 : nar .char jj2 = jj2) (E_a0 : Exa Z h0 a0 kc0) (zz7 : Fld Z h0 a0 kc0 "coder" "B" (.int (0 : Int32))) (zz8 : Fld Z h0 a0 kc0 "value" "[B" .null) (zz9 : Sta Z Z.heap kc0 "COMPACT_STRINGS" "Z" (.int jj3)) (O0 : Old Z n0 h0) (zz10 : Sta Z Z.heap kc1 "$assertionsDisabled" "Z" (.int (1 : Int32))) (zz11 : Sta Z Z.heap kc1 "HI_BYTE_SHIFT" "I" (.int (0 : Int32))) (zz12 : Sta Z Z.heap kc1 "LO_BYTE_SHIFT" "I" (.int (8 : Int32))) (zz13 : n0 ≤ a0) :
    MetN l Z yn_2 jdk_42_method_3_code 2 none ws ({ frames := 5, cells := 2, slots := 9, locals := 74 } : Room) #[(.ref a0), (.ref a1)] h0 (Q_m2_30 Z a0 a1 k_a1 jj0 jj1 jj2 jj3 h0 n0) := by
 refine MetN.of (plainFor_of_name pn_0) ?_
 intro p e s m below meth c s₁ hret hx hby hml hown hnm hlk hZ X0 e0
 have N0 := Fr.nil n0
 rw [ef_m2_30 m a0 a1]
 refine w_aloadN X0 hx (d2_0 hby) rfl rfl (pc' := 1) rfl ?_
 refine w_aloadN X0 hx (d2_1 hby) rfl rfl (pc' := 2) rfl ?_
 refine w_iconst X0 hx (d2_2 hby) (v := (0 : Int32)) rfl (pc' := 3) rfl ?_
 refine w_aloadN X0 hx (d2_3 hby) rfl rfl (pc' := 4) rfl ?_
 refine w_alen X0 hx hZ e0 V_a1 (d2_4 hby) (pc' := 5) rfl ?_
 refine w_null X0 hx (d2_5 hby) (pc' := 6) rfl ?_
 refine w_special X0 hx (y := yn_3) rfl hown (mvT hZ (wd_12 hw)) (mvT hZ (wd_13 hw)) (mvT hZ (wd_15 hw)) (by decide) (backOf (W := 0) (rm_m3_31 l Z aZ hw [] a0 a1 jj3 k_a1 jj0 jj1 jj2 h0 n0 Z0 zz9 O0 hP_1 V_a1 zz4 zz5 zz6 zz10 zz11 zz12 E_a0 zz7 zz13 zz8) hZ (wd_15 hw) (wd_8 hw) (by decide) (by decide)) (by rw [hml]; rfl) [(.ref a1), (.int (0 : Int32)), (.int (3 : Int32)), .null] (lenOf pd_0 rfl) rfl (Nat.le_of_eq rfl) (d2_6 hby) (fun _ _ => ⟨rfl, e0, (by decide : 0 + 2 ≤ _), (by decide : 0 + 9 ≤ _)⟩) (pc' := 9) rfl ?_
 rintro _ _ ⟨T20, L20, k20, n20⟩ X20 ⟨Lc20, hQ20, l20, y20, z20⟩
 dsimp only [Pt.U, Pt.locs, Pt.cells, Pt.slots] at X20 l20 y20 z20 hQ20 ⊢
 subst l20 y20 z20
 rcases hQ20 with ⟨t_20, kb_20, rfl, N20q, K20, g20_0, g20_1, g20_2, g20_3, g20_4, g20_5, g20_6, g20_7⟩ | ⟨t_20, kb_20, rfl, N20q, K20, g20_0, g20_1, g20_2, g20_3, g20_4, g20_5⟩
 · have N21 := Fr.app N0 N20q
   have K22 : Keep h0 T20.heap [a0] := (Keep.refl h0 [a0]).trans K20 (allS (Or.inl (by simp)) (all0 (P := fun x => x ∈ [a0] ∨ h0.size ≤ x)))
   have ge23 : n0 ≤ t_20 := Nat.le_trans Z0 g20_3
   have sz24 : h0.size ≤ t_20 := Nat.le_trans (Nat.le_refl _) g20_3
   show Runs _ _ _ _ (T20.setTop (mkF m 9 #[.val (.ref a0), .val (.ref a1)] []))
   exact w_done X20 hlk (v := none) rfl (fun _ => rfl) (fun fs hr => X20.returnOut hx hret (d2_9 hby) hr) (by decide) (by decide) (Or.inl ⟨t_20, kb_20, rfl, N21, K22, g20_0, g20_1, g20_2, sz24, g20_4, g20_5, g20_6, g20_7⟩)
 · have N25 := Fr.app N0 N20q
   have K26 : Keep h0 T20.heap [a0] := (Keep.refl h0 [a0]).trans K20 (allS (Or.inl (by simp)) (all0 (P := fun x => x ∈ [a0] ∨ h0.size ≤ x)))
   have ge27 : n0 ≤ t_20 := Nat.le_trans Z0 g20_3
   have sz28 : h0.size ≤ t_20 := Nat.le_trans (Nat.le_refl _) g20_3
   show Runs _ _ _ _ (T20.setTop (mkF m 9 #[.val (.ref a0), .val (.ref a1)] []))
   exact w_done X20 hlk (v := none) rfl (fun _ => rfl) (fun fs hr => X20.returnOut hx hret (d2_9 hby) hr) (by decide) (by decide) (Or.inr (⟨t_20, kb_20, rfl, N25, K26, g20_0, g20_1, g20_2, sz28, g20_4, g20_5⟩))
theorem ef_m11_46 (m : MethodId) (a0 : Addr) (a2 : Addr)  : entryFrame m #[(.ref a0), (.int (0 : Int32)), (.ref a2), (.int (0 : Int32)), (.int (4 : Int32))] 7 = mkF m 0 #[.val (.ref a0), .val (.int (0 : Int32)), .val (.ref a2), .val (.int (0 : Int32)), .val (.int (4 : Int32)), .unset, .unset] [] := by first | (simp [entryFrame, mkF, argsToLocals, Value.category]; done) | rfl
def Q_m11_46 (Z : State) (a0 : Addr) (a2 : Addr) (k_a0 : ClassId) (jj0 : Int32) (jj1 : Int32) (jj2 : Int32) (jj3 : Int32) (k_a2 : ClassId) (h0 : Heap) (n0 : Nat) (v : Option Value) (h : Heap) (L : List Loc) : Prop := (v = some (.int (4 : Int32)) ∧ Fr n0 L ∧ Keep h0 h [a2] ∧ Arv Z h a2 k_a2 .byte (4 : Int32) [(.int (jj0.toInt8.toInt32)), (.int (jj1.toInt8.toInt32)), (.int (jj2.toInt8.toInt32)), (.int (jj3.toInt8.toInt32))] (.int (0 : Int32)) ∧ ¬ ((255 : Int32) < jj0) ∧ ¬ ((255 : Int32) < jj1) ∧ ¬ ((255 : Int32) < jj2) ∧ ¬ ((255 : Int32) < jj3)) ∨ (∃ (j : Int32), v = some (.int j) ∧ Fr n0 L ∧ Keep h0 h [a2] ∧ ¬ (j < (0 : Int32)) ∧ j < (4 : Int32) ∧ (255 : Int32) < (gI [jj0, jj1, jj2, jj3] j))
theorem rm_m11_46 (l : Launch) (Z : State) (aZ : Array Value) (hw : ∀ d ∈ tables_1, d.before aZ Z = true) (ws : List Jvm.Cond) (a0 : Addr) (a2 : Addr) (k_a0 : ClassId) (jj0 : Int32) (jj1 : Int32) (jj2 : Int32) (jj3 : Int32) (k_a2 : ClassId) (h0 : Heap) (n0 : Nat) (Z0 : n0 ≤ h0.size) (V_a0 : Arv Z h0 a0 k_a0 .char (4 : Int32) [(.int jj0), (.int jj1), (.int jj2), (.int jj3)] (.int (0 : Int32))) (V_a2 : Arv Z h0 a2 k_a2 .byte (4 : Int32) [(.int (0 : Int32)), (.int (0 : Int32)), (.int (0 : Int32)), (.int (0 : Int32))] (.int (0 : Int32))) (zz4 : n0 ≤ a2) (zz5 : a0 ≠ a2) :
    MetN l Z yn_11 jdk_52_method_21_code 7 (some .int) ws ({ frames := 0, cells := 0, slots := 0, locals := 0 } : Room) #[(.ref a0), (.int (0 : Int32)), (.ref a2), (.int (0 : Int32)), (.int (4 : Int32))] h0 (Q_m11_46 Z a0 a2 k_a0 jj0 jj1 jj2 jj3 k_a2 h0 n0) := by
 refine MetN.of (plainFor_of_name pn_1) ?_
 intro p e s m below meth c s₁ hret hx hby hml hown hnm hlk hZ X0 e0
 have N0 := Fr.nil n0
 rw [ef_m11_46 m a0 a2]
 refine w_iconst X0 hx (d11_0 hby) (v := (0 : Int32)) rfl (pc' := 1) rfl ?_
 refine w_istore X0 hx (d11_1 hby) (L' := #[.val (.ref a0), .val (.int (0 : Int32)), .val (.ref a2), .val (.int (0 : Int32)), .val (.int (4 : Int32)), .val (.int (0 : Int32)), .unset]) rfl (pc' := 3) rfl ?_
 refine w_iload X0 hx (d11_3 hby) rfl (pc' := 5) rfl ?_
 refine w_iload X0 hx (d11_5 hby) rfl (pc' := 7) rfl ?_
 refine w_icN X0 hx (d11_7 hby) (tlt (by decide : (0 : Int32) < (4 : Int32))).2.1 (pc' := 10) rfl ?_
 refine w_aloadN X0 hx (d11_10 hby) rfl rfl (pc' := 11) rfl ?_
 refine w_iloadN X0 hx (d11_11 hby) rfl (pc' := 12) rfl ?_
 obtain ⟨clu20, Aru20, qu20, Su20, Nu20, Hu20, Gu20⟩ := id V_a0
 have hinu20 := inb_of (j := (0 : Int32)) Su20 ⟨by decide, by decide⟩
 refine w_caload X0 hx hZ e0 Aru20 hinu20 (Hu20.at hinu20 rfl) (d11_12 hby) (pc' := 13) rfl ?_
 refine w_istore X0 hx (d11_13 hby) (L' := #[.val (.ref a0), .val (.int (0 : Int32)), .val (.ref a2), .val (.int (0 : Int32)), .val (.int (4 : Int32)), .val (.int (0 : Int32)), .val (.int jj0)]) rfl (pc' := 15) rfl ?_
 refine w_iload X0 hx (d11_15 hby) rfl (pc' := 17) rfl ?_
 refine w_sipush X0 hx (d11_17 hby) (v := (255 : Int32)) rfl (pc' := 20) rfl ?_
 by_cases hc21 : (255 : Int32) < jj0
 · refine w_icN X0 hx (d11_20 hby) (tlt hc21).2.2.2 (pc' := 23) rfl ?_
   refine w_iload X0 hx (d11_23 hby) rfl (pc' := 25) rfl ?_
   exact w_done X0 hlk (v := some (.int (0 : Int32))) e0 (fun h => by rw [hret] at h; cases h) (fun fs hr => retI X0 hx hret (d11_25 hby) hr) (by decide) (by decide) (Or.inr (⟨(0 : Int32), rfl, N0, (Keep.refl h0 [a2]), (by decide : ¬ ((0 : Int32) < (0 : Int32))), (by decide : (0 : Int32) < (4 : Int32)), (show (255 : Int32) < (gI [jj0, jj1, jj2, jj3] (0 : Int32)) from hc21)⟩))
 · refine w_icY X0 hx (d11_20 hby) (flt hc21).2.2.2 (pc' := 26) (by decide) (by decide) ?_
   refine w_aloadN X0 hx (d11_26 hby) rfl rfl (pc' := 27) rfl ?_
   refine w_iloadN X0 hx (d11_27 hby) rfl (pc' := 28) rfl ?_
   refine w_iload X0 hx (d11_28 hby) rfl (pc' := 30) rfl ?_
   refine w_i2b X0 hx (d11_30 hby) (pc' := 31) rfl ?_
   obtain ⟨clu22, Aru22, qu22, Su22, Nu22, Hu22, Gu22⟩ := id V_a2
   have hinu22 := inb_of (j := (0 : Int32)) Su22 ⟨by decide, by decide⟩
   refine w_stB X0 hx hZ e0 Aru22 hinu22 (d11_31 hby) (pc' := 32) rfl ?_
   intro T23 h23 X23 e23 W23
   have V24 : Arv Z h23 a2 k_a2 .byte (4 : Int32) [(.int (nar .byte (jj0.toInt8.toInt32))), (.int (0 : Int32)), (.int (0 : Int32)), (.int (0 : Int32))] (.int (0 : Int32)) := Arv.set Aru22 qu22 Su22 Nu22 Hu22 Gu22 (fits_nar_byte _) W23 0 rfl (Nat.le_of_ble_eq_true rfl)
   have V25 : Arv Z h23 a2 k_a2 .byte (4 : Int32) [(.int (jj0.toInt8.toInt32)), (.int (0 : Int32)), (.int (0 : Int32)), (.int (0 : Int32))] (.int (0 : Int32)) := by rw [nar_b] at V24; exact V24
   have K26 : Keep h0 h23 [a2] := (Keep.refl h0 [a2]).wr W23 (Or.inl (by simp))
   have N27 := Fr.snoc X23 N0 zz4
   refine w_iinc X23 hx (d11_32 hby) (v := (1 : Int32)) rfl rfl (L' := #[.val (.ref a0), .val (.int ((0 : Int32) + (1 : Int32))), .val (.ref a2), .val (.int (0 : Int32)), .val (.int (4 : Int32)), .val (.int (0 : Int32)), .val (.int jj0)]) rfl (pc' := 35) rfl ?_
   rw [show ((0 : Int32) + (1 : Int32)) = (1 : Int32) from by decide]
   refine w_iinc X23 hx (d11_35 hby) (v := (1 : Int32)) rfl rfl (L' := #[.val (.ref a0), .val (.int (1 : Int32)), .val (.ref a2), .val (.int ((0 : Int32) + (1 : Int32))), .val (.int (4 : Int32)), .val (.int (0 : Int32)), .val (.int jj0)]) rfl (pc' := 38) rfl ?_
   rw [show ((0 : Int32) + (1 : Int32)) = (1 : Int32) from by decide]
   refine w_iinc X23 hx (d11_38 hby) (v := (1 : Int32)) rfl rfl (L' := #[.val (.ref a0), .val (.int (1 : Int32)), .val (.ref a2), .val (.int (1 : Int32)), .val (.int (4 : Int32)), .val (.int ((0 : Int32) + (1 : Int32))), .val (.int jj0)]) rfl (pc' := 41) rfl ?_
   rw [show ((0 : Int32) + (1 : Int32)) = (1 : Int32) from by decide]
   refine w_goto X23 hx (d11_41 hby) (pc' := 3) (by decide) (by decide) ?_
   refine w_iload X23 hx (d11_3 hby) rfl (pc' := 5) rfl ?_
   refine w_iload X23 hx (d11_5 hby) rfl (pc' := 7) rfl ?_
   refine w_icN X23 hx (d11_7 hby) (tlt (by decide : (1 : Int32) < (4 : Int32))).2.1 (pc' := 10) rfl ?_
   refine w_aloadN X23 hx (d11_10 hby) rfl rfl (pc' := 11) rfl ?_
   refine w_iloadN X23 hx (d11_11 hby) rfl (pc' := 12) rfl ?_
   have f28 : Arv Z h23 a0 k_a0 .char (4 : Int32) [(.int jj0), (.int jj1), (.int jj2), (.int jj3)] (.int (0 : Int32)) := (V_a0.other W23 zz5)
   obtain ⟨clu29, Aru29, qu29, Su29, Nu29, Hu29, Gu29⟩ := id f28
   have hinu29 := inb_of (j := (1 : Int32)) Su29 ⟨by decide, by decide⟩
   refine w_caload X23 hx hZ e23 Aru29 hinu29 (Hu29.at hinu29 rfl) (d11_12 hby) (pc' := 13) rfl ?_
   refine w_istore X23 hx (d11_13 hby) (L' := #[.val (.ref a0), .val (.int (1 : Int32)), .val (.ref a2), .val (.int (1 : Int32)), .val (.int (4 : Int32)), .val (.int (1 : Int32)), .val (.int jj1)]) rfl (pc' := 15) rfl ?_
   refine w_iload X23 hx (d11_15 hby) rfl (pc' := 17) rfl ?_
   refine w_sipush X23 hx (d11_17 hby) (v := (255 : Int32)) rfl (pc' := 20) rfl ?_
   by_cases hc30 : (255 : Int32) < jj1
   · refine w_icN X23 hx (d11_20 hby) (tlt hc30).2.2.2 (pc' := 23) rfl ?_
     refine w_iload X23 hx (d11_23 hby) rfl (pc' := 25) rfl ?_
     exact w_done X23 hlk (v := some (.int (1 : Int32))) e23 (fun h => by rw [hret] at h; cases h) (fun fs hr => retI X23 hx hret (d11_25 hby) hr) (by decide) (by decide) (Or.inr (⟨(1 : Int32), rfl, N27, K26, (by decide : ¬ ((1 : Int32) < (0 : Int32))), (by decide : (1 : Int32) < (4 : Int32)), (show (255 : Int32) < (gI [jj0, jj1, jj2, jj3] (1 : Int32)) from hc30)⟩))
   · refine w_icY X23 hx (d11_20 hby) (flt hc30).2.2.2 (pc' := 26) (by decide) (by decide) ?_
     refine w_aloadN X23 hx (d11_26 hby) rfl rfl (pc' := 27) rfl ?_
     refine w_iloadN X23 hx (d11_27 hby) rfl (pc' := 28) rfl ?_
     refine w_iload X23 hx (d11_28 hby) rfl (pc' := 30) rfl ?_
     refine w_i2b X23 hx (d11_30 hby) (pc' := 31) rfl ?_
     obtain ⟨clu31, Aru31, qu31, Su31, Nu31, Hu31, Gu31⟩ := id V25
     have hinu31 := inb_of (j := (1 : Int32)) Su31 ⟨by decide, by decide⟩
     refine w_stB X23 hx hZ e23 Aru31 hinu31 (d11_31 hby) (pc' := 32) rfl ?_
     intro T32 h32 X32 e32 W32
     have V33 : Arv Z h32 a2 k_a2 .byte (4 : Int32) [(.int (jj0.toInt8.toInt32)), (.int (nar .byte (jj1.toInt8.toInt32))), (.int (0 : Int32)), (.int (0 : Int32))] (.int (0 : Int32)) := Arv.set Aru31 qu31 Su31 Nu31 Hu31 Gu31 (fits_nar_byte _) W32 1 rfl (Nat.le_of_ble_eq_true rfl)
     have V34 : Arv Z h32 a2 k_a2 .byte (4 : Int32) [(.int (jj0.toInt8.toInt32)), (.int (jj1.toInt8.toInt32)), (.int (0 : Int32)), (.int (0 : Int32))] (.int (0 : Int32)) := by rw [nar_b] at V33; exact V33
     have K35 : Keep h0 h32 [a2] := K26.wr W32 (Or.inl (by simp))
     have N36 := Fr.snoc X32 N27 zz4
     refine w_iinc X32 hx (d11_32 hby) (v := (1 : Int32)) rfl rfl (L' := #[.val (.ref a0), .val (.int ((1 : Int32) + (1 : Int32))), .val (.ref a2), .val (.int (1 : Int32)), .val (.int (4 : Int32)), .val (.int (1 : Int32)), .val (.int jj1)]) rfl (pc' := 35) rfl ?_
     rw [show ((1 : Int32) + (1 : Int32)) = (2 : Int32) from by decide]
     refine w_iinc X32 hx (d11_35 hby) (v := (1 : Int32)) rfl rfl (L' := #[.val (.ref a0), .val (.int (2 : Int32)), .val (.ref a2), .val (.int ((1 : Int32) + (1 : Int32))), .val (.int (4 : Int32)), .val (.int (1 : Int32)), .val (.int jj1)]) rfl (pc' := 38) rfl ?_
     rw [show ((1 : Int32) + (1 : Int32)) = (2 : Int32) from by decide]
     refine w_iinc X32 hx (d11_38 hby) (v := (1 : Int32)) rfl rfl (L' := #[.val (.ref a0), .val (.int (2 : Int32)), .val (.ref a2), .val (.int (2 : Int32)), .val (.int (4 : Int32)), .val (.int ((1 : Int32) + (1 : Int32))), .val (.int jj1)]) rfl (pc' := 41) rfl ?_
     rw [show ((1 : Int32) + (1 : Int32)) = (2 : Int32) from by decide]
     refine w_goto X32 hx (d11_41 hby) (pc' := 3) (by decide) (by decide) ?_
     refine w_iload X32 hx (d11_3 hby) rfl (pc' := 5) rfl ?_
     refine w_iload X32 hx (d11_5 hby) rfl (pc' := 7) rfl ?_
     refine w_icN X32 hx (d11_7 hby) (tlt (by decide : (2 : Int32) < (4 : Int32))).2.1 (pc' := 10) rfl ?_
     refine w_aloadN X32 hx (d11_10 hby) rfl rfl (pc' := 11) rfl ?_
     refine w_iloadN X32 hx (d11_11 hby) rfl (pc' := 12) rfl ?_
     have f37 : Arv Z h32 a0 k_a0 .char (4 : Int32) [(.int jj0), (.int jj1), (.int jj2), (.int jj3)] (.int (0 : Int32)) := (f28.other W32 zz5)
     obtain ⟨clu38, Aru38, qu38, Su38, Nu38, Hu38, Gu38⟩ := id f37
     have hinu38 := inb_of (j := (2 : Int32)) Su38 ⟨by decide, by decide⟩
     refine w_caload X32 hx hZ e32 Aru38 hinu38 (Hu38.at hinu38 rfl) (d11_12 hby) (pc' := 13) rfl ?_
     refine w_istore X32 hx (d11_13 hby) (L' := #[.val (.ref a0), .val (.int (2 : Int32)), .val (.ref a2), .val (.int (2 : Int32)), .val (.int (4 : Int32)), .val (.int (2 : Int32)), .val (.int jj2)]) rfl (pc' := 15) rfl ?_
     refine w_iload X32 hx (d11_15 hby) rfl (pc' := 17) rfl ?_
     refine w_sipush X32 hx (d11_17 hby) (v := (255 : Int32)) rfl (pc' := 20) rfl ?_
     by_cases hc39 : (255 : Int32) < jj2
     · refine w_icN X32 hx (d11_20 hby) (tlt hc39).2.2.2 (pc' := 23) rfl ?_
       refine w_iload X32 hx (d11_23 hby) rfl (pc' := 25) rfl ?_
       exact w_done X32 hlk (v := some (.int (2 : Int32))) e32 (fun h => by rw [hret] at h; cases h) (fun fs hr => retI X32 hx hret (d11_25 hby) hr) (by decide) (by decide) (Or.inr (⟨(2 : Int32), rfl, N36, K35, (by decide : ¬ ((2 : Int32) < (0 : Int32))), (by decide : (2 : Int32) < (4 : Int32)), (show (255 : Int32) < (gI [jj0, jj1, jj2, jj3] (2 : Int32)) from hc39)⟩))
     · refine w_icY X32 hx (d11_20 hby) (flt hc39).2.2.2 (pc' := 26) (by decide) (by decide) ?_
       refine w_aloadN X32 hx (d11_26 hby) rfl rfl (pc' := 27) rfl ?_
       refine w_iloadN X32 hx (d11_27 hby) rfl (pc' := 28) rfl ?_
       refine w_iload X32 hx (d11_28 hby) rfl (pc' := 30) rfl ?_
       refine w_i2b X32 hx (d11_30 hby) (pc' := 31) rfl ?_
       obtain ⟨clu40, Aru40, qu40, Su40, Nu40, Hu40, Gu40⟩ := id V34
       have hinu40 := inb_of (j := (2 : Int32)) Su40 ⟨by decide, by decide⟩
       refine w_stB X32 hx hZ e32 Aru40 hinu40 (d11_31 hby) (pc' := 32) rfl ?_
       intro T41 h41 X41 e41 W41
       have V42 : Arv Z h41 a2 k_a2 .byte (4 : Int32) [(.int (jj0.toInt8.toInt32)), (.int (jj1.toInt8.toInt32)), (.int (nar .byte (jj2.toInt8.toInt32))), (.int (0 : Int32))] (.int (0 : Int32)) := Arv.set Aru40 qu40 Su40 Nu40 Hu40 Gu40 (fits_nar_byte _) W41 2 rfl (Nat.le_of_ble_eq_true rfl)
       have V43 : Arv Z h41 a2 k_a2 .byte (4 : Int32) [(.int (jj0.toInt8.toInt32)), (.int (jj1.toInt8.toInt32)), (.int (jj2.toInt8.toInt32)), (.int (0 : Int32))] (.int (0 : Int32)) := by rw [nar_b] at V42; exact V42
       have K44 : Keep h0 h41 [a2] := K35.wr W41 (Or.inl (by simp))
       have N45 := Fr.snoc X41 N36 zz4
       refine w_iinc X41 hx (d11_32 hby) (v := (1 : Int32)) rfl rfl (L' := #[.val (.ref a0), .val (.int ((2 : Int32) + (1 : Int32))), .val (.ref a2), .val (.int (2 : Int32)), .val (.int (4 : Int32)), .val (.int (2 : Int32)), .val (.int jj2)]) rfl (pc' := 35) rfl ?_
       rw [show ((2 : Int32) + (1 : Int32)) = (3 : Int32) from by decide]
       refine w_iinc X41 hx (d11_35 hby) (v := (1 : Int32)) rfl rfl (L' := #[.val (.ref a0), .val (.int (3 : Int32)), .val (.ref a2), .val (.int ((2 : Int32) + (1 : Int32))), .val (.int (4 : Int32)), .val (.int (2 : Int32)), .val (.int jj2)]) rfl (pc' := 38) rfl ?_
       rw [show ((2 : Int32) + (1 : Int32)) = (3 : Int32) from by decide]
       refine w_iinc X41 hx (d11_38 hby) (v := (1 : Int32)) rfl rfl (L' := #[.val (.ref a0), .val (.int (3 : Int32)), .val (.ref a2), .val (.int (3 : Int32)), .val (.int (4 : Int32)), .val (.int ((2 : Int32) + (1 : Int32))), .val (.int jj2)]) rfl (pc' := 41) rfl ?_
       rw [show ((2 : Int32) + (1 : Int32)) = (3 : Int32) from by decide]
       refine w_goto X41 hx (d11_41 hby) (pc' := 3) (by decide) (by decide) ?_
       refine w_iload X41 hx (d11_3 hby) rfl (pc' := 5) rfl ?_
       refine w_iload X41 hx (d11_5 hby) rfl (pc' := 7) rfl ?_
       refine w_icN X41 hx (d11_7 hby) (tlt (by decide : (3 : Int32) < (4 : Int32))).2.1 (pc' := 10) rfl ?_
       refine w_aloadN X41 hx (d11_10 hby) rfl rfl (pc' := 11) rfl ?_
       refine w_iloadN X41 hx (d11_11 hby) rfl (pc' := 12) rfl ?_
       have f46 : Arv Z h41 a0 k_a0 .char (4 : Int32) [(.int jj0), (.int jj1), (.int jj2), (.int jj3)] (.int (0 : Int32)) := (f37.other W41 zz5)
       obtain ⟨clu47, Aru47, qu47, Su47, Nu47, Hu47, Gu47⟩ := id f46
       have hinu47 := inb_of (j := (3 : Int32)) Su47 ⟨by decide, by decide⟩
       refine w_caload X41 hx hZ e41 Aru47 hinu47 (Hu47.at hinu47 rfl) (d11_12 hby) (pc' := 13) rfl ?_
       refine w_istore X41 hx (d11_13 hby) (L' := #[.val (.ref a0), .val (.int (3 : Int32)), .val (.ref a2), .val (.int (3 : Int32)), .val (.int (4 : Int32)), .val (.int (3 : Int32)), .val (.int jj3)]) rfl (pc' := 15) rfl ?_
       refine w_iload X41 hx (d11_15 hby) rfl (pc' := 17) rfl ?_
       refine w_sipush X41 hx (d11_17 hby) (v := (255 : Int32)) rfl (pc' := 20) rfl ?_
       by_cases hc48 : (255 : Int32) < jj3
       · refine w_icN X41 hx (d11_20 hby) (tlt hc48).2.2.2 (pc' := 23) rfl ?_
         refine w_iload X41 hx (d11_23 hby) rfl (pc' := 25) rfl ?_
         exact w_done X41 hlk (v := some (.int (3 : Int32))) e41 (fun h => by rw [hret] at h; cases h) (fun fs hr => retI X41 hx hret (d11_25 hby) hr) (by decide) (by decide) (Or.inr (⟨(3 : Int32), rfl, N45, K44, (by decide : ¬ ((3 : Int32) < (0 : Int32))), (by decide : (3 : Int32) < (4 : Int32)), (show (255 : Int32) < (gI [jj0, jj1, jj2, jj3] (3 : Int32)) from hc48)⟩))
       · refine w_icY X41 hx (d11_20 hby) (flt hc48).2.2.2 (pc' := 26) (by decide) (by decide) ?_
         refine w_aloadN X41 hx (d11_26 hby) rfl rfl (pc' := 27) rfl ?_
         refine w_iloadN X41 hx (d11_27 hby) rfl (pc' := 28) rfl ?_
         refine w_iload X41 hx (d11_28 hby) rfl (pc' := 30) rfl ?_
         refine w_i2b X41 hx (d11_30 hby) (pc' := 31) rfl ?_
         obtain ⟨clu49, Aru49, qu49, Su49, Nu49, Hu49, Gu49⟩ := id V43
         have hinu49 := inb_of (j := (3 : Int32)) Su49 ⟨by decide, by decide⟩
         refine w_stB X41 hx hZ e41 Aru49 hinu49 (d11_31 hby) (pc' := 32) rfl ?_
         intro T50 h50 X50 e50 W50
         have V51 : Arv Z h50 a2 k_a2 .byte (4 : Int32) [(.int (jj0.toInt8.toInt32)), (.int (jj1.toInt8.toInt32)), (.int (jj2.toInt8.toInt32)), (.int (nar .byte (jj3.toInt8.toInt32)))] (.int (0 : Int32)) := Arv.set Aru49 qu49 Su49 Nu49 Hu49 Gu49 (fits_nar_byte _) W50 3 rfl (Nat.le_of_ble_eq_true rfl)
         have V52 : Arv Z h50 a2 k_a2 .byte (4 : Int32) [(.int (jj0.toInt8.toInt32)), (.int (jj1.toInt8.toInt32)), (.int (jj2.toInt8.toInt32)), (.int (jj3.toInt8.toInt32))] (.int (0 : Int32)) := by rw [nar_b] at V51; exact V51
         have K53 : Keep h0 h50 [a2] := K44.wr W50 (Or.inl (by simp))
         have N54 := Fr.snoc X50 N45 zz4
         refine w_iinc X50 hx (d11_32 hby) (v := (1 : Int32)) rfl rfl (L' := #[.val (.ref a0), .val (.int ((3 : Int32) + (1 : Int32))), .val (.ref a2), .val (.int (3 : Int32)), .val (.int (4 : Int32)), .val (.int (3 : Int32)), .val (.int jj3)]) rfl (pc' := 35) rfl ?_
         rw [show ((3 : Int32) + (1 : Int32)) = (4 : Int32) from by decide]
         refine w_iinc X50 hx (d11_35 hby) (v := (1 : Int32)) rfl rfl (L' := #[.val (.ref a0), .val (.int (4 : Int32)), .val (.ref a2), .val (.int ((3 : Int32) + (1 : Int32))), .val (.int (4 : Int32)), .val (.int (3 : Int32)), .val (.int jj3)]) rfl (pc' := 38) rfl ?_
         rw [show ((3 : Int32) + (1 : Int32)) = (4 : Int32) from by decide]
         refine w_iinc X50 hx (d11_38 hby) (v := (1 : Int32)) rfl rfl (L' := #[.val (.ref a0), .val (.int (4 : Int32)), .val (.ref a2), .val (.int (4 : Int32)), .val (.int (4 : Int32)), .val (.int ((3 : Int32) + (1 : Int32))), .val (.int jj3)]) rfl (pc' := 41) rfl ?_
         rw [show ((3 : Int32) + (1 : Int32)) = (4 : Int32) from by decide]
         refine w_goto X50 hx (d11_41 hby) (pc' := 3) (by decide) (by decide) ?_
         refine w_iload X50 hx (d11_3 hby) rfl (pc' := 5) rfl ?_
         refine w_iload X50 hx (d11_5 hby) rfl (pc' := 7) rfl ?_
         refine w_icY X50 hx (d11_7 hby) (flt (by decide : ¬ ((4 : Int32) < (4 : Int32)))).2.1 (pc' := 44) (by decide) (by decide) ?_
         refine w_iload X50 hx (d11_44 hby) rfl (pc' := 46) rfl ?_
         exact w_done X50 hlk (v := some (.int (4 : Int32))) e50 (fun h => by rw [hret] at h; cases h) (fun fs hr => retI X50 hx hret (d11_46 hby) hr) (by decide) (by decide) (Or.inl ⟨rfl, N54, K53, V52, hc21, hc30, hc39, hc48⟩)
theorem ef_m20_49 (m : MethodId)   : entryFrame m #[(.int (4 : Int32))] 1 = mkF m 0 #[.val (.int (4 : Int32))] [] := by first | (simp [entryFrame, mkF, argsToLocals, Value.category]; done) | rfl
def Q_m20_49 (Z : State)  (h0 : Heap) (n0 : Nat) (v : Option Value) (h : Heap) (L : List Loc) : Prop := v = some (.int (8 : Int32)) ∧ Fr n0 L ∧ h = h0
theorem rm_m20_49 (l : Launch) (Z : State) (aZ : Array Value) (hw : ∀ d ∈ tables_1, d.before aZ Z = true) (ws : List Jvm.Cond)  (h0 : Heap) (n0 : Nat) (Z0 : n0 ≤ h0.size) :
    MetN l Z yn_20 jdk_52_method_3_code 1 (some .int) ws ({ frames := 0, cells := 0, slots := 0, locals := 0 } : Room) #[(.int (4 : Int32))] h0 (Q_m20_49 Z  h0 n0) := by
 refine MetN.of (plainFor_of_name pn_1) ?_
 intro p e s m below meth c s₁ hret hx hby hml hown hnm hlk hZ X0 e0
 have N0 := Fr.nil n0
 rw [ef_m20_49 m ]
 refine w_iloadN X0 hx (d20_0 hby) rfl (pc' := 1) rfl ?_
 refine w_ifY X0 hx (d20_1 hby) (flt (by decide : ¬ ((4 : Int32) < (0 : Int32)))).2.1 (pc' := 12) (by decide) (by decide) ?_
 refine w_iloadN X0 hx (d20_12 hby) rfl (pc' := 13) rfl ?_
 refine w_ldcI X0 hx hZ hown (wd_107 hw) (d20_13 hby) (pc' := 15) rfl ?_
 refine w_icY X0 hx (d20_15 hby) (tlt (by decide : (4 : Int32) < (1073741823 : Int32))).1 (pc' := 55) (by decide) (by decide) ?_
 refine w_iloadN X0 hx (d20_55 hby) rfl (pc' := 56) rfl ?_
 refine w_iconst X0 hx (d20_56 hby) (v := (1 : Int32)) rfl (pc' := 57) rfl ?_
 refine w_ishl X0 hx (d20_57 hby) (pc' := 58) rfl ?_
 rw [show ((4 : Int32) <<< ((1 : Int32) &&& 31)) = (8 : Int32) from by decide]
 exact w_done X0 hlk (v := some (.int (8 : Int32))) e0 (fun h => by rw [hret] at h; cases h) (fun fs hr => retI X0 hx hret (d20_58 hby) hr) (by decide) (by decide) (⟨rfl, N0, rfl⟩)
theorem ef_m19_48 (m : MethodId)   : entryFrame m #[(.int (4 : Int32))] 1 = mkF m 0 #[.val (.int (4 : Int32))] [] := by first | (simp [entryFrame, mkF, argsToLocals, Value.category]; done) | rfl
def Q_m19_48 (Z : State)  (h0 : Heap) (n0 : Nat) (v : Option Value) (h : Heap) (L : List Loc) : Prop := ∃ (r0 : Addr) (c0 : ClassId), v = some (.ref r0) ∧ Fr n0 L ∧ Keep h0 h [] ∧ h0.size ≤ r0 ∧ Arv Z h r0 c0 .byte (8 : Int32) [(.int (0 : Int32)), (.int (0 : Int32)), (.int (0 : Int32)), (.int (0 : Int32)), (.int (0 : Int32)), (.int (0 : Int32)), (.int (0 : Int32)), (.int (0 : Int32))] (.int (0 : Int32))
theorem rm_m19_48 (l : Launch) (Z : State) (aZ : Array Value) (hw : ∀ d ∈ tables_1, d.before aZ Z = true) (ws : List Jvm.Cond)  (h0 : Heap) (n0 : Nat) (Z0 : n0 ≤ h0.size) :
    MetN l Z yn_19 jdk_52_method_2_code 1 (some (.array .byte)) ws ({ frames := 1, cells := 1, slots := 8, locals := 12 } : Room) #[(.int (4 : Int32))] h0 (Q_m19_48 Z  h0 n0) := by
 refine MetN.of (plainFor_of_name pn_1) ?_
 intro p e s m below meth c s₁ hret hx hby hml hown hnm hlk hZ X0 e0
 have N0 := Fr.nil n0
 rw [ef_m19_48 m ]
 refine w_iloadN X0 hx (d19_0 hby) rfl (pc' := 1) rfl ?_
 refine w_static X0 hx (y := yn_20) hown (mvT hZ (wd_104 hw)) (mvT hZ (wd_105 hw)) (mvT hZ (wd_68 hw)) (mvT hZ (wd_106 hw)) (by decide) (backOf (W := 0) (rm_m20_49 l Z aZ hw []  h0 n0 Z0 ) hZ (wd_106 hw) (wd_68 hw) (by decide) (by decide)) (by rw [hml]; rfl) [(.int (4 : Int32))] (lenOf pd_3 rfl) rfl (Nat.le_of_eq rfl) (d19_1 hby) (fun _ _ => ⟨rfl, e0, (by decide : 0 + 0 ≤ _), (by decide : 0 + 0 ≤ _)⟩) (pc' := 4) rfl ?_
 rintro _ _ ⟨T20, L20, k20, n20⟩ X20 ⟨Lc20, hQ20, l20, y20, z20⟩
 dsimp only [Pt.U, Pt.locs, Pt.cells, Pt.slots] at X20 l20 y20 z20 hQ20 ⊢
 subst l20 y20 z20
 obtain ⟨rfl, N20q, e20⟩ := hQ20
 have N21 := Fr.app N0 N20q
 show Runs _ _ _ _ (T20.setTop (mkF m 4 #[.val (.int (4 : Int32))] [(.int (8 : Int32))]))
 refine w_newP X20 hx .byte .byte 8 rfl hZ (wd_20 hw) e20 (d19_4 hby) (by decide) (by decide) (by decide) (by decide) (by decide) (pc' := 6) rfl ?_
 intro T22 h22 k22 b22 X22 e22 E22 g22 A22
 have ge23 : n0 ≤ b22 := Nat.le_trans Z0 (Nat.le_of_eq g22.symm)
 have sz24 : h0.size ≤ b22 := Nat.le_trans (Nat.le_refl _) (Nat.le_of_eq g22.symm)
 have K25 : Keep h0 h22 [] := (Keep.refl h0 []).ext E22
 have V26 : Arv Z h22 b22 k22 .byte (8 : Int32) [(.int (0 : Int32)), (.int (0 : Int32)), (.int (0 : Int32)), (.int (0 : Int32)), (.int (0 : Int32)), (.int (0 : Int32)), (.int (0 : Int32)), (.int (0 : Int32))] (.int (0 : Int32)) := (Arv.new A22 (by decide)).pad (pad_rep [] (.int (0 : Int32)) 8)
 exact w_done X22 hlk (v := some (.ref b22)) e22 (fun h => by rw [hret] at h; cases h) (fun fs hr => retOut X22 hx hret rfl (Or.inr (Or.inr (Or.inr (Or.inr ⟨rfl, rfl, rfl⟩)))) (d19_6 hby) hr) (by decide) (by decide) (⟨b22, k22, rfl, N21, K25, sz24, V26⟩)
theorem ef_m21_50 (m : MethodId) (a0 : Addr) (p2 : Int32)  : entryFrame m #[(.ref a0), (.int (0 : Int32)), (.int p2)] 3 = mkF m 0 #[.val (.ref a0), .val (.int (0 : Int32)), .val (.int p2)] [] := by first | (simp [entryFrame, mkF, argsToLocals, Value.category]; done) | rfl
def Q_m21_50 (Z : State) (a0 : Addr) (p2 : Int32) (k_a0 : ClassId) (h0 : Heap) (n0 : Nat) (v : Option Value) (h : Heap) (L : List Loc) : Prop := v = none ∧ Fr n0 L ∧ Keep h0 h [a0] ∧ Arv Z h a0 k_a0 .byte (8 : Int32) [(.int ((p2 >>> ((0 : Int32) &&& 31)).toInt8.toInt32)), (.int ((p2 >>> ((8 : Int32) &&& 31)).toInt8.toInt32)), (.int (0 : Int32)), (.int (0 : Int32)), (.int (0 : Int32)), (.int (0 : Int32)), (.int (0 : Int32)), (.int (0 : Int32))] (.int (0 : Int32))
theorem rm_m21_50 (l : Launch) (Z : State) (aZ : Array Value) (hw : ∀ d ∈ tables_1, d.before aZ Z = true) (ws : List Jvm.Cond) (a0 : Addr) (p2 : Int32) (k_a0 : ClassId) (h0 : Heap) (n0 : Nat) (Z0 : n0 ≤ h0.size) (zz0 : Sta Z Z.heap kc1 "$assertionsDisabled" "Z" (.int (1 : Int32))) (O0 : Old Z n0 h0) (zz1 : Sta Z Z.heap kc1 "HI_BYTE_SHIFT" "I" (.int (0 : Int32))) (V_a0 : Arv Z h0 a0 k_a0 .byte (8 : Int32) [(.int (0 : Int32)), (.int (0 : Int32)), (.int (0 : Int32)), (.int (0 : Int32)), (.int (0 : Int32)), (.int (0 : Int32)), (.int (0 : Int32)), (.int (0 : Int32))] (.int (0 : Int32))) (zz2 : n0 ≤ a0) (zz3 : Sta Z Z.heap kc1 "LO_BYTE_SHIFT" "I" (.int (8 : Int32))) :
    MetN l Z yn_21 jdk_52_method_4_code 3 none ws ({ frames := 0, cells := 0, slots := 0, locals := 0 } : Room) #[(.ref a0), (.int (0 : Int32)), (.int p2)] h0 (Q_m21_50 Z a0 p2 k_a0 h0 n0) := by
 refine MetN.of (plainFor_of_name pn_1) ?_
 intro p e s m below meth c s₁ hret hx hby hml hown hnm hlk hZ X0 e0
 have N0 := Fr.nil n0
 rw [ef_m21_50 m a0 p2]
 refine w_getS X0 hx "" hZ hown (Or.inl (wd_111 hw)) Via.refl e0 (zz0.ext O0.2) (d21_0 hby) (pc' := 3) rfl ?_
 intro T20 X20 e20
 refine w_ifY X20 hx (d21_3 hby) (feq (by decide : ¬ ((1 : Int32) = (0 : Int32)))).2 (pc' := 28) (by decide) (by decide) ?_
 refine w_iloadN X20 hx (d21_28 hby) rfl (pc' := 29) rfl ?_
 refine w_iconst X20 hx (d21_29 hby) (v := (1 : Int32)) rfl (pc' := 30) rfl ?_
 refine w_ishl X20 hx (d21_30 hby) (pc' := 31) rfl ?_
 rw [show ((0 : Int32) <<< ((1 : Int32) &&& 31)) = (0 : Int32) from by decide]
 refine w_istoreN X20 hx (d21_31 hby) (L' := #[.val (.ref a0), .val (.int (0 : Int32)), .val (.int p2)]) rfl (pc' := 32) rfl ?_
 refine w_aloadN X20 hx (d21_32 hby) rfl rfl (pc' := 33) rfl ?_
 refine w_iloadN X20 hx (d21_33 hby) rfl (pc' := 34) rfl ?_
 refine w_iinc X20 hx (d21_34 hby) (v := (1 : Int32)) rfl rfl (L' := #[.val (.ref a0), .val (.int ((0 : Int32) + (1 : Int32))), .val (.int p2)]) rfl (pc' := 37) rfl ?_
 rw [show ((0 : Int32) + (1 : Int32)) = (1 : Int32) from by decide]
 refine w_iloadN X20 hx (d21_37 hby) rfl (pc' := 38) rfl ?_
 refine w_getS X20 hx "" hZ hown (Or.inl (wd_112 hw)) Via.refl e20 (zz1.ext O0.2) (d21_38 hby) (pc' := 41) rfl ?_
 intro T21 X21 e21
 refine w_ishr X21 hx (d21_41 hby) (pc' := 42) rfl ?_
 refine w_i2b X21 hx (d21_42 hby) (pc' := 43) rfl ?_
 obtain ⟨clu22, Aru22, qu22, Su22, Nu22, Hu22, Gu22⟩ := id V_a0
 have hinu22 := inb_of (j := (0 : Int32)) Su22 ⟨by decide, by decide⟩
 refine w_stB X21 hx hZ e21 Aru22 hinu22 (d21_43 hby) (pc' := 44) rfl ?_
 intro T23 h23 X23 e23 W23
 have V24 : Arv Z h23 a0 k_a0 .byte (8 : Int32) [(.int (nar .byte ((p2 >>> ((0 : Int32) &&& 31)).toInt8.toInt32))), (.int (0 : Int32)), (.int (0 : Int32)), (.int (0 : Int32)), (.int (0 : Int32)), (.int (0 : Int32)), (.int (0 : Int32)), (.int (0 : Int32))] (.int (0 : Int32)) := Arv.set Aru22 qu22 Su22 Nu22 Hu22 Gu22 (fits_nar_byte _) W23 0 rfl (Nat.le_of_ble_eq_true rfl)
 have V25 : Arv Z h23 a0 k_a0 .byte (8 : Int32) [(.int ((p2 >>> ((0 : Int32) &&& 31)).toInt8.toInt32)), (.int (0 : Int32)), (.int (0 : Int32)), (.int (0 : Int32)), (.int (0 : Int32)), (.int (0 : Int32)), (.int (0 : Int32)), (.int (0 : Int32))] (.int (0 : Int32)) := by rw [nar_b] at V24; exact V24
 have K26 : Keep h0 h23 [a0] := (Keep.refl h0 [a0]).wr W23 (Or.inl (by simp))
 have N27 := Fr.snoc X23 N0 zz2
 refine w_aloadN X23 hx (d21_44 hby) rfl rfl (pc' := 45) rfl ?_
 refine w_iloadN X23 hx (d21_45 hby) rfl (pc' := 46) rfl ?_
 refine w_iloadN X23 hx (d21_46 hby) rfl (pc' := 47) rfl ?_
 have f28 : Old Z n0 h23 := (O0.wr W23 zz2)
 refine w_getS X23 hx "" hZ hown (Or.inl (wd_113 hw)) Via.refl e23 (zz3.ext f28.2) (d21_47 hby) (pc' := 50) rfl ?_
 intro T29 X29 e29
 refine w_ishr X29 hx (d21_50 hby) (pc' := 51) rfl ?_
 refine w_i2b X29 hx (d21_51 hby) (pc' := 52) rfl ?_
 obtain ⟨clu30, Aru30, qu30, Su30, Nu30, Hu30, Gu30⟩ := id V25
 have hinu30 := inb_of (j := (1 : Int32)) Su30 ⟨by decide, by decide⟩
 refine w_stB X29 hx hZ e29 Aru30 hinu30 (d21_52 hby) (pc' := 53) rfl ?_
 intro T31 h31 X31 e31 W31
 have V32 : Arv Z h31 a0 k_a0 .byte (8 : Int32) [(.int ((p2 >>> ((0 : Int32) &&& 31)).toInt8.toInt32)), (.int (nar .byte ((p2 >>> ((8 : Int32) &&& 31)).toInt8.toInt32))), (.int (0 : Int32)), (.int (0 : Int32)), (.int (0 : Int32)), (.int (0 : Int32)), (.int (0 : Int32)), (.int (0 : Int32))] (.int (0 : Int32)) := Arv.set Aru30 qu30 Su30 Nu30 Hu30 Gu30 (fits_nar_byte _) W31 1 rfl (Nat.le_of_ble_eq_true rfl)
 have V33 : Arv Z h31 a0 k_a0 .byte (8 : Int32) [(.int ((p2 >>> ((0 : Int32) &&& 31)).toInt8.toInt32)), (.int ((p2 >>> ((8 : Int32) &&& 31)).toInt8.toInt32)), (.int (0 : Int32)), (.int (0 : Int32)), (.int (0 : Int32)), (.int (0 : Int32)), (.int (0 : Int32)), (.int (0 : Int32))] (.int (0 : Int32)) := by rw [nar_b] at V32; exact V32
 have K34 : Keep h0 h31 [a0] := K26.wr W31 (Or.inl (by simp))
 have N35 := Fr.snoc X31 N27 zz2
 exact w_done X31 hlk (v := none) e31 (fun _ => rfl) (fun fs hr => X31.returnOut hx hret (d21_53 hby) hr) (by decide) (by decide) (⟨rfl, N35, K34, V33⟩)
theorem ef_m21_51 (m : MethodId) (a0 : Addr) (p2 : Int32)  : entryFrame m #[(.ref a0), (.int (1 : Int32)), (.int p2)] 3 = mkF m 0 #[.val (.ref a0), .val (.int (1 : Int32)), .val (.int p2)] [] := by first | (simp [entryFrame, mkF, argsToLocals, Value.category]; done) | rfl
def Q_m21_51 (Z : State) (a0 : Addr) (p2 : Int32) (k_a0 : ClassId) (jj0 : Int32) (jj1 : Int32) (h0 : Heap) (n0 : Nat) (v : Option Value) (h : Heap) (L : List Loc) : Prop := v = none ∧ Fr n0 L ∧ Keep h0 h [a0] ∧ Arv Z h a0 k_a0 .byte (8 : Int32) [(.int jj0), (.int jj1), (.int ((p2 >>> ((0 : Int32) &&& 31)).toInt8.toInt32)), (.int ((p2 >>> ((8 : Int32) &&& 31)).toInt8.toInt32)), (.int (0 : Int32)), (.int (0 : Int32)), (.int (0 : Int32)), (.int (0 : Int32))] (.int (0 : Int32))
theorem rm_m21_51 (l : Launch) (Z : State) (aZ : Array Value) (hw : ∀ d ∈ tables_1, d.before aZ Z = true) (ws : List Jvm.Cond) (a0 : Addr) (p2 : Int32) (k_a0 : ClassId) (jj0 : Int32) (jj1 : Int32) (h0 : Heap) (n0 : Nat) (Z0 : n0 ≤ h0.size) (zz2 : Sta Z Z.heap kc1 "$assertionsDisabled" "Z" (.int (1 : Int32))) (O0 : Old Z n0 h0) (zz3 : Sta Z Z.heap kc1 "HI_BYTE_SHIFT" "I" (.int (0 : Int32))) (V_a0 : Arv Z h0 a0 k_a0 .byte (8 : Int32) [(.int jj0), (.int jj1), (.int (0 : Int32)), (.int (0 : Int32)), (.int (0 : Int32)), (.int (0 : Int32)), (.int (0 : Int32)), (.int (0 : Int32))] (.int (0 : Int32))) (zz4 : n0 ≤ a0) (zz5 : Sta Z Z.heap kc1 "LO_BYTE_SHIFT" "I" (.int (8 : Int32))) :
    MetN l Z yn_21 jdk_52_method_4_code 3 none ws ({ frames := 0, cells := 0, slots := 0, locals := 0 } : Room) #[(.ref a0), (.int (1 : Int32)), (.int p2)] h0 (Q_m21_51 Z a0 p2 k_a0 jj0 jj1 h0 n0) := by
 refine MetN.of (plainFor_of_name pn_1) ?_
 intro p e s m below meth c s₁ hret hx hby hml hown hnm hlk hZ X0 e0
 have N0 := Fr.nil n0
 rw [ef_m21_51 m a0 p2]
 refine w_getS X0 hx "" hZ hown (Or.inl (wd_111 hw)) Via.refl e0 (zz2.ext O0.2) (d21_0 hby) (pc' := 3) rfl ?_
 intro T20 X20 e20
 refine w_ifY X20 hx (d21_3 hby) (feq (by decide : ¬ ((1 : Int32) = (0 : Int32)))).2 (pc' := 28) (by decide) (by decide) ?_
 refine w_iloadN X20 hx (d21_28 hby) rfl (pc' := 29) rfl ?_
 refine w_iconst X20 hx (d21_29 hby) (v := (1 : Int32)) rfl (pc' := 30) rfl ?_
 refine w_ishl X20 hx (d21_30 hby) (pc' := 31) rfl ?_
 rw [show ((1 : Int32) <<< ((1 : Int32) &&& 31)) = (2 : Int32) from by decide]
 refine w_istoreN X20 hx (d21_31 hby) (L' := #[.val (.ref a0), .val (.int (2 : Int32)), .val (.int p2)]) rfl (pc' := 32) rfl ?_
 refine w_aloadN X20 hx (d21_32 hby) rfl rfl (pc' := 33) rfl ?_
 refine w_iloadN X20 hx (d21_33 hby) rfl (pc' := 34) rfl ?_
 refine w_iinc X20 hx (d21_34 hby) (v := (1 : Int32)) rfl rfl (L' := #[.val (.ref a0), .val (.int ((2 : Int32) + (1 : Int32))), .val (.int p2)]) rfl (pc' := 37) rfl ?_
 rw [show ((2 : Int32) + (1 : Int32)) = (3 : Int32) from by decide]
 refine w_iloadN X20 hx (d21_37 hby) rfl (pc' := 38) rfl ?_
 refine w_getS X20 hx "" hZ hown (Or.inl (wd_112 hw)) Via.refl e20 (zz3.ext O0.2) (d21_38 hby) (pc' := 41) rfl ?_
 intro T21 X21 e21
 refine w_ishr X21 hx (d21_41 hby) (pc' := 42) rfl ?_
 refine w_i2b X21 hx (d21_42 hby) (pc' := 43) rfl ?_
 obtain ⟨clu22, Aru22, qu22, Su22, Nu22, Hu22, Gu22⟩ := id V_a0
 have hinu22 := inb_of (j := (2 : Int32)) Su22 ⟨by decide, by decide⟩
 refine w_stB X21 hx hZ e21 Aru22 hinu22 (d21_43 hby) (pc' := 44) rfl ?_
 intro T23 h23 X23 e23 W23
 have V24 : Arv Z h23 a0 k_a0 .byte (8 : Int32) [(.int jj0), (.int jj1), (.int (nar .byte ((p2 >>> ((0 : Int32) &&& 31)).toInt8.toInt32))), (.int (0 : Int32)), (.int (0 : Int32)), (.int (0 : Int32)), (.int (0 : Int32)), (.int (0 : Int32))] (.int (0 : Int32)) := Arv.set Aru22 qu22 Su22 Nu22 Hu22 Gu22 (fits_nar_byte _) W23 2 rfl (Nat.le_of_ble_eq_true rfl)
 have V25 : Arv Z h23 a0 k_a0 .byte (8 : Int32) [(.int jj0), (.int jj1), (.int ((p2 >>> ((0 : Int32) &&& 31)).toInt8.toInt32)), (.int (0 : Int32)), (.int (0 : Int32)), (.int (0 : Int32)), (.int (0 : Int32)), (.int (0 : Int32))] (.int (0 : Int32)) := by rw [nar_b] at V24; exact V24
 have K26 : Keep h0 h23 [a0] := (Keep.refl h0 [a0]).wr W23 (Or.inl (by simp))
 have N27 := Fr.snoc X23 N0 zz4
 refine w_aloadN X23 hx (d21_44 hby) rfl rfl (pc' := 45) rfl ?_
 refine w_iloadN X23 hx (d21_45 hby) rfl (pc' := 46) rfl ?_
 refine w_iloadN X23 hx (d21_46 hby) rfl (pc' := 47) rfl ?_
 have f28 : Old Z n0 h23 := (O0.wr W23 zz4)
 refine w_getS X23 hx "" hZ hown (Or.inl (wd_113 hw)) Via.refl e23 (zz5.ext f28.2) (d21_47 hby) (pc' := 50) rfl ?_
 intro T29 X29 e29
 refine w_ishr X29 hx (d21_50 hby) (pc' := 51) rfl ?_
 refine w_i2b X29 hx (d21_51 hby) (pc' := 52) rfl ?_
 obtain ⟨clu30, Aru30, qu30, Su30, Nu30, Hu30, Gu30⟩ := id V25
 have hinu30 := inb_of (j := (3 : Int32)) Su30 ⟨by decide, by decide⟩
 refine w_stB X29 hx hZ e29 Aru30 hinu30 (d21_52 hby) (pc' := 53) rfl ?_
 intro T31 h31 X31 e31 W31
 have V32 : Arv Z h31 a0 k_a0 .byte (8 : Int32) [(.int jj0), (.int jj1), (.int ((p2 >>> ((0 : Int32) &&& 31)).toInt8.toInt32)), (.int (nar .byte ((p2 >>> ((8 : Int32) &&& 31)).toInt8.toInt32))), (.int (0 : Int32)), (.int (0 : Int32)), (.int (0 : Int32)), (.int (0 : Int32))] (.int (0 : Int32)) := Arv.set Aru30 qu30 Su30 Nu30 Hu30 Gu30 (fits_nar_byte _) W31 3 rfl (Nat.le_of_ble_eq_true rfl)
 have V33 : Arv Z h31 a0 k_a0 .byte (8 : Int32) [(.int jj0), (.int jj1), (.int ((p2 >>> ((0 : Int32) &&& 31)).toInt8.toInt32)), (.int ((p2 >>> ((8 : Int32) &&& 31)).toInt8.toInt32)), (.int (0 : Int32)), (.int (0 : Int32)), (.int (0 : Int32)), (.int (0 : Int32))] (.int (0 : Int32)) := by rw [nar_b] at V32; exact V32
 have K34 : Keep h0 h31 [a0] := K26.wr W31 (Or.inl (by simp))
 have N35 := Fr.snoc X31 N27 zz4
 exact w_done X31 hlk (v := none) e31 (fun _ => rfl) (fun fs hr => X31.returnOut hx hret (d21_53 hby) hr) (by decide) (by decide) (⟨rfl, N35, K34, V33⟩)
theorem ef_m21_52 (m : MethodId) (a0 : Addr) (p2 : Int32)  : entryFrame m #[(.ref a0), (.int (2 : Int32)), (.int p2)] 3 = mkF m 0 #[.val (.ref a0), .val (.int (2 : Int32)), .val (.int p2)] [] := by first | (simp [entryFrame, mkF, argsToLocals, Value.category]; done) | rfl
def Q_m21_52 (Z : State) (a0 : Addr) (p2 : Int32) (k_a0 : ClassId) (jj0 : Int32) (jj1 : Int32) (jj2 : Int32) (jj3 : Int32) (h0 : Heap) (n0 : Nat) (v : Option Value) (h : Heap) (L : List Loc) : Prop := v = none ∧ Fr n0 L ∧ Keep h0 h [a0] ∧ Arv Z h a0 k_a0 .byte (8 : Int32) [(.int jj0), (.int jj1), (.int jj2), (.int jj3), (.int ((p2 >>> ((0 : Int32) &&& 31)).toInt8.toInt32)), (.int ((p2 >>> ((8 : Int32) &&& 31)).toInt8.toInt32)), (.int (0 : Int32)), (.int (0 : Int32))] (.int (0 : Int32))
theorem rm_m21_52 (l : Launch) (Z : State) (aZ : Array Value) (hw : ∀ d ∈ tables_1, d.before aZ Z = true) (ws : List Jvm.Cond) (a0 : Addr) (p2 : Int32) (k_a0 : ClassId) (jj0 : Int32) (jj1 : Int32) (jj2 : Int32) (jj3 : Int32) (h0 : Heap) (n0 : Nat) (Z0 : n0 ≤ h0.size) (zz4 : Sta Z Z.heap kc1 "$assertionsDisabled" "Z" (.int (1 : Int32))) (O0 : Old Z n0 h0) (zz5 : Sta Z Z.heap kc1 "HI_BYTE_SHIFT" "I" (.int (0 : Int32))) (V_a0 : Arv Z h0 a0 k_a0 .byte (8 : Int32) [(.int jj0), (.int jj1), (.int jj2), (.int jj3), (.int (0 : Int32)), (.int (0 : Int32)), (.int (0 : Int32)), (.int (0 : Int32))] (.int (0 : Int32))) (zz6 : n0 ≤ a0) (zz7 : Sta Z Z.heap kc1 "LO_BYTE_SHIFT" "I" (.int (8 : Int32))) :
    MetN l Z yn_21 jdk_52_method_4_code 3 none ws ({ frames := 0, cells := 0, slots := 0, locals := 0 } : Room) #[(.ref a0), (.int (2 : Int32)), (.int p2)] h0 (Q_m21_52 Z a0 p2 k_a0 jj0 jj1 jj2 jj3 h0 n0) := by
 refine MetN.of (plainFor_of_name pn_1) ?_
 intro p e s m below meth c s₁ hret hx hby hml hown hnm hlk hZ X0 e0
 have N0 := Fr.nil n0
 rw [ef_m21_52 m a0 p2]
 refine w_getS X0 hx "" hZ hown (Or.inl (wd_111 hw)) Via.refl e0 (zz4.ext O0.2) (d21_0 hby) (pc' := 3) rfl ?_
 intro T20 X20 e20
 refine w_ifY X20 hx (d21_3 hby) (feq (by decide : ¬ ((1 : Int32) = (0 : Int32)))).2 (pc' := 28) (by decide) (by decide) ?_
 refine w_iloadN X20 hx (d21_28 hby) rfl (pc' := 29) rfl ?_
 refine w_iconst X20 hx (d21_29 hby) (v := (1 : Int32)) rfl (pc' := 30) rfl ?_
 refine w_ishl X20 hx (d21_30 hby) (pc' := 31) rfl ?_
 rw [show ((2 : Int32) <<< ((1 : Int32) &&& 31)) = (4 : Int32) from by decide]
 refine w_istoreN X20 hx (d21_31 hby) (L' := #[.val (.ref a0), .val (.int (4 : Int32)), .val (.int p2)]) rfl (pc' := 32) rfl ?_
 refine w_aloadN X20 hx (d21_32 hby) rfl rfl (pc' := 33) rfl ?_
 refine w_iloadN X20 hx (d21_33 hby) rfl (pc' := 34) rfl ?_
 refine w_iinc X20 hx (d21_34 hby) (v := (1 : Int32)) rfl rfl (L' := #[.val (.ref a0), .val (.int ((4 : Int32) + (1 : Int32))), .val (.int p2)]) rfl (pc' := 37) rfl ?_
 rw [show ((4 : Int32) + (1 : Int32)) = (5 : Int32) from by decide]
 refine w_iloadN X20 hx (d21_37 hby) rfl (pc' := 38) rfl ?_
 refine w_getS X20 hx "" hZ hown (Or.inl (wd_112 hw)) Via.refl e20 (zz5.ext O0.2) (d21_38 hby) (pc' := 41) rfl ?_
 intro T21 X21 e21
 refine w_ishr X21 hx (d21_41 hby) (pc' := 42) rfl ?_
 refine w_i2b X21 hx (d21_42 hby) (pc' := 43) rfl ?_
 obtain ⟨clu22, Aru22, qu22, Su22, Nu22, Hu22, Gu22⟩ := id V_a0
 have hinu22 := inb_of (j := (4 : Int32)) Su22 ⟨by decide, by decide⟩
 refine w_stB X21 hx hZ e21 Aru22 hinu22 (d21_43 hby) (pc' := 44) rfl ?_
 intro T23 h23 X23 e23 W23
 have V24 : Arv Z h23 a0 k_a0 .byte (8 : Int32) [(.int jj0), (.int jj1), (.int jj2), (.int jj3), (.int (nar .byte ((p2 >>> ((0 : Int32) &&& 31)).toInt8.toInt32))), (.int (0 : Int32)), (.int (0 : Int32)), (.int (0 : Int32))] (.int (0 : Int32)) := Arv.set Aru22 qu22 Su22 Nu22 Hu22 Gu22 (fits_nar_byte _) W23 4 rfl (Nat.le_of_ble_eq_true rfl)
 have V25 : Arv Z h23 a0 k_a0 .byte (8 : Int32) [(.int jj0), (.int jj1), (.int jj2), (.int jj3), (.int ((p2 >>> ((0 : Int32) &&& 31)).toInt8.toInt32)), (.int (0 : Int32)), (.int (0 : Int32)), (.int (0 : Int32))] (.int (0 : Int32)) := by rw [nar_b] at V24; exact V24
 have K26 : Keep h0 h23 [a0] := (Keep.refl h0 [a0]).wr W23 (Or.inl (by simp))
 have N27 := Fr.snoc X23 N0 zz6
 refine w_aloadN X23 hx (d21_44 hby) rfl rfl (pc' := 45) rfl ?_
 refine w_iloadN X23 hx (d21_45 hby) rfl (pc' := 46) rfl ?_
 refine w_iloadN X23 hx (d21_46 hby) rfl (pc' := 47) rfl ?_
 have f28 : Old Z n0 h23 := (O0.wr W23 zz6)
 refine w_getS X23 hx "" hZ hown (Or.inl (wd_113 hw)) Via.refl e23 (zz7.ext f28.2) (d21_47 hby) (pc' := 50) rfl ?_
 intro T29 X29 e29
 refine w_ishr X29 hx (d21_50 hby) (pc' := 51) rfl ?_
 refine w_i2b X29 hx (d21_51 hby) (pc' := 52) rfl ?_
 obtain ⟨clu30, Aru30, qu30, Su30, Nu30, Hu30, Gu30⟩ := id V25
 have hinu30 := inb_of (j := (5 : Int32)) Su30 ⟨by decide, by decide⟩
 refine w_stB X29 hx hZ e29 Aru30 hinu30 (d21_52 hby) (pc' := 53) rfl ?_
 intro T31 h31 X31 e31 W31
 have V32 : Arv Z h31 a0 k_a0 .byte (8 : Int32) [(.int jj0), (.int jj1), (.int jj2), (.int jj3), (.int ((p2 >>> ((0 : Int32) &&& 31)).toInt8.toInt32)), (.int (nar .byte ((p2 >>> ((8 : Int32) &&& 31)).toInt8.toInt32))), (.int (0 : Int32)), (.int (0 : Int32))] (.int (0 : Int32)) := Arv.set Aru30 qu30 Su30 Nu30 Hu30 Gu30 (fits_nar_byte _) W31 5 rfl (Nat.le_of_ble_eq_true rfl)
 have V33 : Arv Z h31 a0 k_a0 .byte (8 : Int32) [(.int jj0), (.int jj1), (.int jj2), (.int jj3), (.int ((p2 >>> ((0 : Int32) &&& 31)).toInt8.toInt32)), (.int ((p2 >>> ((8 : Int32) &&& 31)).toInt8.toInt32)), (.int (0 : Int32)), (.int (0 : Int32))] (.int (0 : Int32)) := by rw [nar_b] at V32; exact V32
 have K34 : Keep h0 h31 [a0] := K26.wr W31 (Or.inl (by simp))
 have N35 := Fr.snoc X31 N27 zz6
 exact w_done X31 hlk (v := none) e31 (fun _ => rfl) (fun fs hr => X31.returnOut hx hret (d21_53 hby) hr) (by decide) (by decide) (⟨rfl, N35, K34, V33⟩)
theorem ef_m21_53 (m : MethodId) (a0 : Addr) (p2 : Int32)  : entryFrame m #[(.ref a0), (.int (3 : Int32)), (.int p2)] 3 = mkF m 0 #[.val (.ref a0), .val (.int (3 : Int32)), .val (.int p2)] [] := by first | (simp [entryFrame, mkF, argsToLocals, Value.category]; done) | rfl
def Q_m21_53 (Z : State) (a0 : Addr) (p2 : Int32) (k_a0 : ClassId) (jj0 : Int32) (jj1 : Int32) (jj2 : Int32) (jj3 : Int32) (jj4 : Int32) (jj5 : Int32) (h0 : Heap) (n0 : Nat) (v : Option Value) (h : Heap) (L : List Loc) : Prop := v = none ∧ Fr n0 L ∧ Keep h0 h [a0] ∧ Arv Z h a0 k_a0 .byte (8 : Int32) [(.int jj0), (.int jj1), (.int jj2), (.int jj3), (.int jj4), (.int jj5), (.int ((p2 >>> ((0 : Int32) &&& 31)).toInt8.toInt32)), (.int ((p2 >>> ((8 : Int32) &&& 31)).toInt8.toInt32))] (.int (0 : Int32))
theorem rm_m21_53 (l : Launch) (Z : State) (aZ : Array Value) (hw : ∀ d ∈ tables_1, d.before aZ Z = true) (ws : List Jvm.Cond) (a0 : Addr) (p2 : Int32) (k_a0 : ClassId) (jj0 : Int32) (jj1 : Int32) (jj2 : Int32) (jj3 : Int32) (jj4 : Int32) (jj5 : Int32) (h0 : Heap) (n0 : Nat) (Z0 : n0 ≤ h0.size) (zz6 : Sta Z Z.heap kc1 "$assertionsDisabled" "Z" (.int (1 : Int32))) (O0 : Old Z n0 h0) (zz7 : Sta Z Z.heap kc1 "HI_BYTE_SHIFT" "I" (.int (0 : Int32))) (V_a0 : Arv Z h0 a0 k_a0 .byte (8 : Int32) [(.int jj0), (.int jj1), (.int jj2), (.int jj3), (.int jj4), (.int jj5), (.int (0 : Int32)), (.int (0 : Int32))] (.int (0 : Int32))) (zz8 : n0 ≤ a0) (zz9 : Sta Z Z.heap kc1 "LO_BYTE_SHIFT" "I" (.int (8 : Int32))) :
    MetN l Z yn_21 jdk_52_method_4_code 3 none ws ({ frames := 0, cells := 0, slots := 0, locals := 0 } : Room) #[(.ref a0), (.int (3 : Int32)), (.int p2)] h0 (Q_m21_53 Z a0 p2 k_a0 jj0 jj1 jj2 jj3 jj4 jj5 h0 n0) := by
 refine MetN.of (plainFor_of_name pn_1) ?_
 intro p e s m below meth c s₁ hret hx hby hml hown hnm hlk hZ X0 e0
 have N0 := Fr.nil n0
 rw [ef_m21_53 m a0 p2]
 refine w_getS X0 hx "" hZ hown (Or.inl (wd_111 hw)) Via.refl e0 (zz6.ext O0.2) (d21_0 hby) (pc' := 3) rfl ?_
 intro T20 X20 e20
 refine w_ifY X20 hx (d21_3 hby) (feq (by decide : ¬ ((1 : Int32) = (0 : Int32)))).2 (pc' := 28) (by decide) (by decide) ?_
 refine w_iloadN X20 hx (d21_28 hby) rfl (pc' := 29) rfl ?_
 refine w_iconst X20 hx (d21_29 hby) (v := (1 : Int32)) rfl (pc' := 30) rfl ?_
 refine w_ishl X20 hx (d21_30 hby) (pc' := 31) rfl ?_
 rw [show ((3 : Int32) <<< ((1 : Int32) &&& 31)) = (6 : Int32) from by decide]
 refine w_istoreN X20 hx (d21_31 hby) (L' := #[.val (.ref a0), .val (.int (6 : Int32)), .val (.int p2)]) rfl (pc' := 32) rfl ?_
 refine w_aloadN X20 hx (d21_32 hby) rfl rfl (pc' := 33) rfl ?_
 refine w_iloadN X20 hx (d21_33 hby) rfl (pc' := 34) rfl ?_
 refine w_iinc X20 hx (d21_34 hby) (v := (1 : Int32)) rfl rfl (L' := #[.val (.ref a0), .val (.int ((6 : Int32) + (1 : Int32))), .val (.int p2)]) rfl (pc' := 37) rfl ?_
 rw [show ((6 : Int32) + (1 : Int32)) = (7 : Int32) from by decide]
 refine w_iloadN X20 hx (d21_37 hby) rfl (pc' := 38) rfl ?_
 refine w_getS X20 hx "" hZ hown (Or.inl (wd_112 hw)) Via.refl e20 (zz7.ext O0.2) (d21_38 hby) (pc' := 41) rfl ?_
 intro T21 X21 e21
 refine w_ishr X21 hx (d21_41 hby) (pc' := 42) rfl ?_
 refine w_i2b X21 hx (d21_42 hby) (pc' := 43) rfl ?_
 obtain ⟨clu22, Aru22, qu22, Su22, Nu22, Hu22, Gu22⟩ := id V_a0
 have hinu22 := inb_of (j := (6 : Int32)) Su22 ⟨by decide, by decide⟩
 refine w_stB X21 hx hZ e21 Aru22 hinu22 (d21_43 hby) (pc' := 44) rfl ?_
 intro T23 h23 X23 e23 W23
 have V24 : Arv Z h23 a0 k_a0 .byte (8 : Int32) [(.int jj0), (.int jj1), (.int jj2), (.int jj3), (.int jj4), (.int jj5), (.int (nar .byte ((p2 >>> ((0 : Int32) &&& 31)).toInt8.toInt32))), (.int (0 : Int32))] (.int (0 : Int32)) := Arv.set Aru22 qu22 Su22 Nu22 Hu22 Gu22 (fits_nar_byte _) W23 6 rfl (Nat.le_of_ble_eq_true rfl)
 have V25 : Arv Z h23 a0 k_a0 .byte (8 : Int32) [(.int jj0), (.int jj1), (.int jj2), (.int jj3), (.int jj4), (.int jj5), (.int ((p2 >>> ((0 : Int32) &&& 31)).toInt8.toInt32)), (.int (0 : Int32))] (.int (0 : Int32)) := by rw [nar_b] at V24; exact V24
 have K26 : Keep h0 h23 [a0] := (Keep.refl h0 [a0]).wr W23 (Or.inl (by simp))
 have N27 := Fr.snoc X23 N0 zz8
 refine w_aloadN X23 hx (d21_44 hby) rfl rfl (pc' := 45) rfl ?_
 refine w_iloadN X23 hx (d21_45 hby) rfl (pc' := 46) rfl ?_
 refine w_iloadN X23 hx (d21_46 hby) rfl (pc' := 47) rfl ?_
 have f28 : Old Z n0 h23 := (O0.wr W23 zz8)
 refine w_getS X23 hx "" hZ hown (Or.inl (wd_113 hw)) Via.refl e23 (zz9.ext f28.2) (d21_47 hby) (pc' := 50) rfl ?_
 intro T29 X29 e29
 refine w_ishr X29 hx (d21_50 hby) (pc' := 51) rfl ?_
 refine w_i2b X29 hx (d21_51 hby) (pc' := 52) rfl ?_
 obtain ⟨clu30, Aru30, qu30, Su30, Nu30, Hu30, Gu30⟩ := id V25
 have hinu30 := inb_of (j := (7 : Int32)) Su30 ⟨by decide, by decide⟩
 refine w_stB X29 hx hZ e29 Aru30 hinu30 (d21_52 hby) (pc' := 53) rfl ?_
 intro T31 h31 X31 e31 W31
 have V32 : Arv Z h31 a0 k_a0 .byte (8 : Int32) [(.int jj0), (.int jj1), (.int jj2), (.int jj3), (.int jj4), (.int jj5), (.int ((p2 >>> ((0 : Int32) &&& 31)).toInt8.toInt32)), (.int (nar .byte ((p2 >>> ((8 : Int32) &&& 31)).toInt8.toInt32)))] (.int (0 : Int32)) := Arv.set Aru30 qu30 Su30 Nu30 Hu30 Gu30 (fits_nar_byte _) W31 7 rfl (Nat.le_of_ble_eq_true rfl)
 have V33 : Arv Z h31 a0 k_a0 .byte (8 : Int32) [(.int jj0), (.int jj1), (.int jj2), (.int jj3), (.int jj4), (.int jj5), (.int ((p2 >>> ((0 : Int32) &&& 31)).toInt8.toInt32)), (.int ((p2 >>> ((8 : Int32) &&& 31)).toInt8.toInt32))] (.int (0 : Int32)) := by rw [nar_b] at V32; exact V32
 have K34 : Keep h0 h31 [a0] := K26.wr W31 (Or.inl (by simp))
 have N35 := Fr.snoc X31 N27 zz8
 exact w_done X31 hlk (v := none) e31 (fun _ => rfl) (fun fs hr => X31.returnOut hx hret (d21_53 hby) hr) (by decide) (by decide) (⟨rfl, N35, K34, V33⟩)
theorem ef_m18_47 (m : MethodId) (a0 : Addr)  : entryFrame m #[(.ref a0), (.int (0 : Int32)), (.int (4 : Int32))] 5 = mkF m 0 #[.val (.ref a0), .val (.int (0 : Int32)), .val (.int (4 : Int32)), .unset, .unset] [] := by first | (simp [entryFrame, mkF, argsToLocals, Value.category]; done) | rfl
def Q_m18_47 (Z : State) (a0 : Addr) (k_a0 : ClassId) (jj0 : Int32) (jj1 : Int32) (jj2 : Int32) (jj3 : Int32) (h0 : Heap) (n0 : Nat) (v : Option Value) (h : Heap) (L : List Loc) : Prop := ∃ (r0 : Addr) (c0 : ClassId), v = some (.ref r0) ∧ Fr n0 L ∧ Keep h0 h [] ∧ h0.size ≤ r0 ∧ Arv Z h r0 c0 .byte (8 : Int32) [(.int ((jj0 >>> ((0 : Int32) &&& 31)).toInt8.toInt32)), (.int ((jj0 >>> ((8 : Int32) &&& 31)).toInt8.toInt32)), (.int ((jj1 >>> ((0 : Int32) &&& 31)).toInt8.toInt32)), (.int ((jj1 >>> ((8 : Int32) &&& 31)).toInt8.toInt32)), (.int ((jj2 >>> ((0 : Int32) &&& 31)).toInt8.toInt32)), (.int ((jj2 >>> ((8 : Int32) &&& 31)).toInt8.toInt32)), (.int ((jj3 >>> ((0 : Int32) &&& 31)).toInt8.toInt32)), (.int ((jj3 >>> ((8 : Int32) &&& 31)).toInt8.toInt32))] (.int (0 : Int32))
theorem rm_m18_47 (l : Launch) (Z : State) (aZ : Array Value) (hw : ∀ d ∈ tables_1, d.before aZ Z = true) (ws : List Jvm.Cond) (a0 : Addr) (k_a0 : ClassId) (jj0 : Int32) (jj1 : Int32) (jj2 : Int32) (jj3 : Int32) (h0 : Heap) (n0 : Nat) (Z0 : n0 ≤ h0.size) (V_a0 : Arv Z h0 a0 k_a0 .char (4 : Int32) [(.int jj0), (.int jj1), (.int jj2), (.int jj3)] (.int (0 : Int32))) (zz4 : Sta Z Z.heap kc1 "$assertionsDisabled" "Z" (.int (1 : Int32))) (O0 : Old Z n0 h0) (zz5 : Sta Z Z.heap kc1 "HI_BYTE_SHIFT" "I" (.int (0 : Int32))) (zz6 : Sta Z Z.heap kc1 "LO_BYTE_SHIFT" "I" (.int (8 : Int32))) :
    MetN l Z yn_18 jdk_52_method_14_code 5 (some (.array .byte)) ws ({ frames := 2, cells := 1, slots := 8, locals := 24 } : Room) #[(.ref a0), (.int (0 : Int32)), (.int (4 : Int32))] h0 (Q_m18_47 Z a0 k_a0 jj0 jj1 jj2 jj3 h0 n0) := by
 refine MetN.of (plainFor_of_name pn_1) ?_
 intro p e s m below meth c s₁ hret hx hby hml hown hnm hlk hZ X0 e0
 have N0 := Fr.nil n0
 rw [ef_m18_47 m a0]
 refine w_iloadN X0 hx (d18_0 hby) rfl (pc' := 1) rfl ?_
 refine w_static X0 hx (y := yn_19) hown (mvT hZ (wd_101 hw)) (mvT hZ (wd_102 hw)) (mvT hZ (wd_68 hw)) (mvT hZ (wd_103 hw)) (by decide) (backOf (W := 0) (rm_m19_48 l Z aZ hw []  h0 n0 Z0 ) hZ (wd_103 hw) (wd_68 hw) (by decide) (by decide)) (by rw [hml]; rfl) [(.int (4 : Int32))] (lenOf pd_4 rfl) rfl (Nat.le_of_eq rfl) (d18_1 hby) (fun _ _ => ⟨rfl, e0, (by decide : 0 + 1 ≤ _), (by decide : 0 + 8 ≤ _)⟩) (pc' := 4) rfl ?_
 rintro _ _ ⟨T20, L20, k20, n20⟩ X20 ⟨Lc20, hQ20, l20, y20, z20⟩
 dsimp only [Pt.U, Pt.locs, Pt.cells, Pt.slots] at X20 l20 y20 z20 hQ20 ⊢
 subst l20 y20 z20
 obtain ⟨r0_20, c0_20, rfl, N20q, K20, g20_0, g20_1⟩ := hQ20
 have N21 := Fr.app N0 N20q
 have K22 : Keep h0 T20.heap [] := (Keep.refl h0 []).trans K20 (all0 (P := fun x => x ∈ [] ∨ h0.size ≤ x))
 have ge23 : n0 ≤ r0_20 := Nat.le_trans Z0 g20_0
 have sz24 : h0.size ≤ r0_20 := Nat.le_trans (Nat.le_refl _) g20_0
 show Runs _ _ _ _ (T20.setTop (mkF m 4 #[.val (.ref a0), .val (.int (0 : Int32)), .val (.int (4 : Int32)), .unset, .unset] [(.ref r0_20)]))
 refine w_astoreN X20 hx (d18_4 hby) rfl (L' := #[.val (.ref a0), .val (.int (0 : Int32)), .val (.int (4 : Int32)), .val (.ref r0_20), .unset]) rfl (pc' := 5) rfl ?_
 refine w_iconst X20 hx (d18_5 hby) (v := (0 : Int32)) rfl (pc' := 6) rfl ?_
 refine w_istore X20 hx (d18_6 hby) (L' := #[.val (.ref a0), .val (.int (0 : Int32)), .val (.int (4 : Int32)), .val (.ref r0_20), .val (.int (0 : Int32))]) rfl (pc' := 8) rfl ?_
 refine w_iload X20 hx (d18_8 hby) rfl (pc' := 10) rfl ?_
 refine w_iloadN X20 hx (d18_10 hby) rfl (pc' := 11) rfl ?_
 refine w_icN X20 hx (d18_11 hby) (tlt (by decide : (0 : Int32) < (4 : Int32))).2.1 (pc' := 14) rfl ?_
 refine w_aloadN X20 hx (d18_14 hby) rfl rfl (pc' := 15) rfl ?_
 refine w_iload X20 hx (d18_15 hby) rfl (pc' := 17) rfl ?_
 refine w_aloadN X20 hx (d18_17 hby) rfl rfl (pc' := 18) rfl ?_
 refine w_iloadN X20 hx (d18_18 hby) rfl (pc' := 19) rfl ?_
 have f25 : Arv Z T20.heap a0 k_a0 .char (4 : Int32) [(.int jj0), (.int jj1), (.int jj2), (.int jj3)] (.int (0 : Int32)) := (V_a0.keep K20 nin0)
 obtain ⟨clu26, Aru26, qu26, Su26, Nu26, Hu26, Gu26⟩ := id f25
 have hinu26 := inb_of (j := (0 : Int32)) Su26 ⟨by decide, by decide⟩
 refine w_caload X20 hx hZ rfl Aru26 hinu26 (Hu26.at hinu26 rfl) (d18_19 hby) (pc' := 20) rfl ?_
 have f30 : Old Z n0 T20.heap := (O0.keep K20 all0)
 refine w_static X20 hx (y := yn_21) hown (mvT hZ (wd_108 hw)) (mvT hZ (wd_109 hw)) (mvT hZ (wd_68 hw)) (mvT hZ (wd_110 hw)) (by decide) (backOf (W := 0) (rm_m21_50 l Z aZ hw [] r0_20 jj0 c0_20 T20.heap n0 (Nat.le_trans Z0 K20.1) zz4 f30 zz5 g20_1 ge23 zz6) hZ (wd_110 hw) (wd_68 hw) (by decide) (by decide)) (by rw [hml]; rfl) [(.ref r0_20), (.int (0 : Int32)), (.int jj0)] (lenOf pd_5 rfl) rfl (Nat.le_of_eq rfl) (d18_20 hby) (fun _ _ => ⟨rfl, rfl, (by decide : 1 + 0 ≤ _), (by decide : 8 + 0 ≤ _)⟩) (pc' := 23) rfl ?_
 rintro _ _ ⟨T31, L31, k31, n31⟩ X31 ⟨Lc31, hQ31, l31, y31, z31⟩
 dsimp only [Pt.U, Pt.locs, Pt.cells, Pt.slots] at X31 l31 y31 z31 hQ31 ⊢
 subst l31 y31 z31
 obtain ⟨rfl, N31q, K31, g31_0⟩ := hQ31
 have N32 := Fr.app N21 N31q
 have K33 : Keep h0 T31.heap [] := K22.trans K31 (allS (Or.inr sz24) (all0 (P := fun x => x ∈ [] ∨ h0.size ≤ x)))
 show Runs _ _ _ _ (T31.setTop (mkF m 23 #[.val (.ref a0), .val (.int (0 : Int32)), .val (.int (4 : Int32)), .val (.ref r0_20), .val (.int (0 : Int32))] []))
 refine w_iinc X31 hx (d18_23 hby) (v := (1 : Int32)) rfl rfl (L' := #[.val (.ref a0), .val (.int ((0 : Int32) + (1 : Int32))), .val (.int (4 : Int32)), .val (.ref r0_20), .val (.int (0 : Int32))]) rfl (pc' := 26) rfl ?_
 rw [show ((0 : Int32) + (1 : Int32)) = (1 : Int32) from by decide]
 refine w_iinc X31 hx (d18_26 hby) (v := (1 : Int32)) rfl rfl (L' := #[.val (.ref a0), .val (.int (1 : Int32)), .val (.int (4 : Int32)), .val (.ref r0_20), .val (.int ((0 : Int32) + (1 : Int32)))]) rfl (pc' := 29) rfl ?_
 rw [show ((0 : Int32) + (1 : Int32)) = (1 : Int32) from by decide]
 refine w_goto X31 hx (d18_29 hby) (pc' := 8) (by decide) (by decide) ?_
 refine w_iload X31 hx (d18_8 hby) rfl (pc' := 10) rfl ?_
 refine w_iloadN X31 hx (d18_10 hby) rfl (pc' := 11) rfl ?_
 refine w_icN X31 hx (d18_11 hby) (tlt (by decide : (1 : Int32) < (4 : Int32))).2.1 (pc' := 14) rfl ?_
 refine w_aloadN X31 hx (d18_14 hby) rfl rfl (pc' := 15) rfl ?_
 refine w_iload X31 hx (d18_15 hby) rfl (pc' := 17) rfl ?_
 refine w_aloadN X31 hx (d18_17 hby) rfl rfl (pc' := 18) rfl ?_
 refine w_iloadN X31 hx (d18_18 hby) rfl (pc' := 19) rfl ?_
 have ne34 : a0 ≠ r0_20 := (Nat.ne_of_lt (Nat.lt_of_lt_of_le V_a0.lt (Nat.le_trans (Nat.le_refl _) g20_0)))
 have f35 : Arv Z T31.heap a0 k_a0 .char (4 : Int32) [(.int jj0), (.int jj1), (.int jj2), (.int jj3)] (.int (0 : Int32)) := (f25.keep K31 (ninS ne34 nin0))
 obtain ⟨clu36, Aru36, qu36, Su36, Nu36, Hu36, Gu36⟩ := id f35
 have hinu36 := inb_of (j := (1 : Int32)) Su36 ⟨by decide, by decide⟩
 refine w_caload X31 hx hZ rfl Aru36 hinu36 (Hu36.at hinu36 rfl) (d18_19 hby) (pc' := 20) rfl ?_
 have f39 : Old Z n0 T31.heap := (f30.keep K31 (allS ge23 all0))
 have le40 : h0.size ≤ T31.heap.size := (Nat.le_trans K20.1 K31.1)
 refine w_static X31 hx (y := yn_21) hown (mvT hZ (wd_108 hw)) (mvT hZ (wd_109 hw)) (mvT hZ (wd_68 hw)) (mvT hZ (wd_110 hw)) (by decide) (backOf (W := 0) (rm_m21_51 l Z aZ hw [] r0_20 jj1 c0_20 ((jj0 >>> ((0 : Int32) &&& 31)).toInt8.toInt32) ((jj0 >>> ((8 : Int32) &&& 31)).toInt8.toInt32) T31.heap n0 (Nat.le_trans Z0 le40) zz4 f39 zz5 g31_0 ge23 zz6) hZ (wd_110 hw) (wd_68 hw) (by decide) (by decide)) (by rw [hml]; rfl) [(.ref r0_20), (.int (1 : Int32)), (.int jj1)] (lenOf pd_5 rfl) rfl (Nat.le_of_eq rfl) (d18_20 hby) (fun _ _ => ⟨rfl, rfl, (by decide : 1 + 0 ≤ _), (by decide : 8 + 0 ≤ _)⟩) (pc' := 23) rfl ?_
 rintro _ _ ⟨T41, L41, k41, n41⟩ X41 ⟨Lc41, hQ41, l41, y41, z41⟩
 dsimp only [Pt.U, Pt.locs, Pt.cells, Pt.slots] at X41 l41 y41 z41 hQ41 ⊢
 subst l41 y41 z41
 obtain ⟨rfl, N41q, K41, g41_0⟩ := hQ41
 have N42 := Fr.app N32 N41q
 have K43 : Keep h0 T41.heap [] := K33.trans K41 (allS (Or.inr sz24) (all0 (P := fun x => x ∈ [] ∨ h0.size ≤ x)))
 show Runs _ _ _ _ (T41.setTop (mkF m 23 #[.val (.ref a0), .val (.int (1 : Int32)), .val (.int (4 : Int32)), .val (.ref r0_20), .val (.int (1 : Int32))] []))
 refine w_iinc X41 hx (d18_23 hby) (v := (1 : Int32)) rfl rfl (L' := #[.val (.ref a0), .val (.int ((1 : Int32) + (1 : Int32))), .val (.int (4 : Int32)), .val (.ref r0_20), .val (.int (1 : Int32))]) rfl (pc' := 26) rfl ?_
 rw [show ((1 : Int32) + (1 : Int32)) = (2 : Int32) from by decide]
 refine w_iinc X41 hx (d18_26 hby) (v := (1 : Int32)) rfl rfl (L' := #[.val (.ref a0), .val (.int (2 : Int32)), .val (.int (4 : Int32)), .val (.ref r0_20), .val (.int ((1 : Int32) + (1 : Int32)))]) rfl (pc' := 29) rfl ?_
 rw [show ((1 : Int32) + (1 : Int32)) = (2 : Int32) from by decide]
 refine w_goto X41 hx (d18_29 hby) (pc' := 8) (by decide) (by decide) ?_
 refine w_iload X41 hx (d18_8 hby) rfl (pc' := 10) rfl ?_
 refine w_iloadN X41 hx (d18_10 hby) rfl (pc' := 11) rfl ?_
 refine w_icN X41 hx (d18_11 hby) (tlt (by decide : (2 : Int32) < (4 : Int32))).2.1 (pc' := 14) rfl ?_
 refine w_aloadN X41 hx (d18_14 hby) rfl rfl (pc' := 15) rfl ?_
 refine w_iload X41 hx (d18_15 hby) rfl (pc' := 17) rfl ?_
 refine w_aloadN X41 hx (d18_17 hby) rfl rfl (pc' := 18) rfl ?_
 refine w_iloadN X41 hx (d18_18 hby) rfl (pc' := 19) rfl ?_
 have f44 : Arv Z T41.heap a0 k_a0 .char (4 : Int32) [(.int jj0), (.int jj1), (.int jj2), (.int jj3)] (.int (0 : Int32)) := (f35.keep K41 (ninS ne34 nin0))
 obtain ⟨clu45, Aru45, qu45, Su45, Nu45, Hu45, Gu45⟩ := id f44
 have hinu45 := inb_of (j := (2 : Int32)) Su45 ⟨by decide, by decide⟩
 refine w_caload X41 hx hZ rfl Aru45 hinu45 (Hu45.at hinu45 rfl) (d18_19 hby) (pc' := 20) rfl ?_
 have f47 : Old Z n0 T41.heap := (f39.keep K41 (allS ge23 all0))
 have le48 : h0.size ≤ T41.heap.size := (Nat.le_trans le40 K41.1)
 refine w_static X41 hx (y := yn_21) hown (mvT hZ (wd_108 hw)) (mvT hZ (wd_109 hw)) (mvT hZ (wd_68 hw)) (mvT hZ (wd_110 hw)) (by decide) (backOf (W := 0) (rm_m21_52 l Z aZ hw [] r0_20 jj2 c0_20 ((jj0 >>> ((0 : Int32) &&& 31)).toInt8.toInt32) ((jj0 >>> ((8 : Int32) &&& 31)).toInt8.toInt32) ((jj1 >>> ((0 : Int32) &&& 31)).toInt8.toInt32) ((jj1 >>> ((8 : Int32) &&& 31)).toInt8.toInt32) T41.heap n0 (Nat.le_trans Z0 le48) zz4 f47 zz5 g41_0 ge23 zz6) hZ (wd_110 hw) (wd_68 hw) (by decide) (by decide)) (by rw [hml]; rfl) [(.ref r0_20), (.int (2 : Int32)), (.int jj2)] (lenOf pd_5 rfl) rfl (Nat.le_of_eq rfl) (d18_20 hby) (fun _ _ => ⟨rfl, rfl, (by decide : 1 + 0 ≤ _), (by decide : 8 + 0 ≤ _)⟩) (pc' := 23) rfl ?_
 rintro _ _ ⟨T49, L49, k49, n49⟩ X49 ⟨Lc49, hQ49, l49, y49, z49⟩
 dsimp only [Pt.U, Pt.locs, Pt.cells, Pt.slots] at X49 l49 y49 z49 hQ49 ⊢
 subst l49 y49 z49
 obtain ⟨rfl, N49q, K49, g49_0⟩ := hQ49
 have N50 := Fr.app N42 N49q
 have K51 : Keep h0 T49.heap [] := K43.trans K49 (allS (Or.inr sz24) (all0 (P := fun x => x ∈ [] ∨ h0.size ≤ x)))
 show Runs _ _ _ _ (T49.setTop (mkF m 23 #[.val (.ref a0), .val (.int (2 : Int32)), .val (.int (4 : Int32)), .val (.ref r0_20), .val (.int (2 : Int32))] []))
 refine w_iinc X49 hx (d18_23 hby) (v := (1 : Int32)) rfl rfl (L' := #[.val (.ref a0), .val (.int ((2 : Int32) + (1 : Int32))), .val (.int (4 : Int32)), .val (.ref r0_20), .val (.int (2 : Int32))]) rfl (pc' := 26) rfl ?_
 rw [show ((2 : Int32) + (1 : Int32)) = (3 : Int32) from by decide]
 refine w_iinc X49 hx (d18_26 hby) (v := (1 : Int32)) rfl rfl (L' := #[.val (.ref a0), .val (.int (3 : Int32)), .val (.int (4 : Int32)), .val (.ref r0_20), .val (.int ((2 : Int32) + (1 : Int32)))]) rfl (pc' := 29) rfl ?_
 rw [show ((2 : Int32) + (1 : Int32)) = (3 : Int32) from by decide]
 refine w_goto X49 hx (d18_29 hby) (pc' := 8) (by decide) (by decide) ?_
 refine w_iload X49 hx (d18_8 hby) rfl (pc' := 10) rfl ?_
 refine w_iloadN X49 hx (d18_10 hby) rfl (pc' := 11) rfl ?_
 refine w_icN X49 hx (d18_11 hby) (tlt (by decide : (3 : Int32) < (4 : Int32))).2.1 (pc' := 14) rfl ?_
 refine w_aloadN X49 hx (d18_14 hby) rfl rfl (pc' := 15) rfl ?_
 refine w_iload X49 hx (d18_15 hby) rfl (pc' := 17) rfl ?_
 refine w_aloadN X49 hx (d18_17 hby) rfl rfl (pc' := 18) rfl ?_
 refine w_iloadN X49 hx (d18_18 hby) rfl (pc' := 19) rfl ?_
 have f52 : Arv Z T49.heap a0 k_a0 .char (4 : Int32) [(.int jj0), (.int jj1), (.int jj2), (.int jj3)] (.int (0 : Int32)) := (f44.keep K49 (ninS ne34 nin0))
 obtain ⟨clu53, Aru53, qu53, Su53, Nu53, Hu53, Gu53⟩ := id f52
 have hinu53 := inb_of (j := (3 : Int32)) Su53 ⟨by decide, by decide⟩
 refine w_caload X49 hx hZ rfl Aru53 hinu53 (Hu53.at hinu53 rfl) (d18_19 hby) (pc' := 20) rfl ?_
 have f54 : Old Z n0 T49.heap := (f47.keep K49 (allS ge23 all0))
 have le55 : h0.size ≤ T49.heap.size := (Nat.le_trans le48 K49.1)
 refine w_static X49 hx (y := yn_21) hown (mvT hZ (wd_108 hw)) (mvT hZ (wd_109 hw)) (mvT hZ (wd_68 hw)) (mvT hZ (wd_110 hw)) (by decide) (backOf (W := 0) (rm_m21_53 l Z aZ hw [] r0_20 jj3 c0_20 ((jj0 >>> ((0 : Int32) &&& 31)).toInt8.toInt32) ((jj0 >>> ((8 : Int32) &&& 31)).toInt8.toInt32) ((jj1 >>> ((0 : Int32) &&& 31)).toInt8.toInt32) ((jj1 >>> ((8 : Int32) &&& 31)).toInt8.toInt32) ((jj2 >>> ((0 : Int32) &&& 31)).toInt8.toInt32) ((jj2 >>> ((8 : Int32) &&& 31)).toInt8.toInt32) T49.heap n0 (Nat.le_trans Z0 le55) zz4 f54 zz5 g49_0 ge23 zz6) hZ (wd_110 hw) (wd_68 hw) (by decide) (by decide)) (by rw [hml]; rfl) [(.ref r0_20), (.int (3 : Int32)), (.int jj3)] (lenOf pd_5 rfl) rfl (Nat.le_of_eq rfl) (d18_20 hby) (fun _ _ => ⟨rfl, rfl, (by decide : 1 + 0 ≤ _), (by decide : 8 + 0 ≤ _)⟩) (pc' := 23) rfl ?_
 rintro _ _ ⟨T56, L56, k56, n56⟩ X56 ⟨Lc56, hQ56, l56, y56, z56⟩
 dsimp only [Pt.U, Pt.locs, Pt.cells, Pt.slots] at X56 l56 y56 z56 hQ56 ⊢
 subst l56 y56 z56
 obtain ⟨rfl, N56q, K56, g56_0⟩ := hQ56
 have N57 := Fr.app N50 N56q
 have K58 : Keep h0 T56.heap [] := K51.trans K56 (allS (Or.inr sz24) (all0 (P := fun x => x ∈ [] ∨ h0.size ≤ x)))
 show Runs _ _ _ _ (T56.setTop (mkF m 23 #[.val (.ref a0), .val (.int (3 : Int32)), .val (.int (4 : Int32)), .val (.ref r0_20), .val (.int (3 : Int32))] []))
 refine w_iinc X56 hx (d18_23 hby) (v := (1 : Int32)) rfl rfl (L' := #[.val (.ref a0), .val (.int ((3 : Int32) + (1 : Int32))), .val (.int (4 : Int32)), .val (.ref r0_20), .val (.int (3 : Int32))]) rfl (pc' := 26) rfl ?_
 rw [show ((3 : Int32) + (1 : Int32)) = (4 : Int32) from by decide]
 refine w_iinc X56 hx (d18_26 hby) (v := (1 : Int32)) rfl rfl (L' := #[.val (.ref a0), .val (.int (4 : Int32)), .val (.int (4 : Int32)), .val (.ref r0_20), .val (.int ((3 : Int32) + (1 : Int32)))]) rfl (pc' := 29) rfl ?_
 rw [show ((3 : Int32) + (1 : Int32)) = (4 : Int32) from by decide]
 refine w_goto X56 hx (d18_29 hby) (pc' := 8) (by decide) (by decide) ?_
 refine w_iload X56 hx (d18_8 hby) rfl (pc' := 10) rfl ?_
 refine w_iloadN X56 hx (d18_10 hby) rfl (pc' := 11) rfl ?_
 refine w_icY X56 hx (d18_11 hby) (flt (by decide : ¬ ((4 : Int32) < (4 : Int32)))).2.1 (pc' := 32) (by decide) (by decide) ?_
 refine w_aloadN X56 hx (d18_32 hby) rfl rfl (pc' := 33) rfl ?_
 exact w_done X56 hlk (v := some (.ref r0_20)) rfl (fun h => by rw [hret] at h; cases h) (fun fs hr => retOut X56 hx hret rfl (Or.inr (Or.inr (Or.inr (Or.inr ⟨rfl, rfl, rfl⟩)))) (d18_33 hby) hr) (by decide) (by decide) (⟨r0_20, c0_20, rfl, N57, K58, sz24, g56_0⟩)
theorem ef_m22_54 (m : MethodId) (a0 : Addr) (p1 : Int32)  : entryFrame m #[(.ref a0), (.int p1)] 2 = mkF m 0 #[.val (.ref a0), .val (.int p1)] [] := by first | (simp [entryFrame, mkF, argsToLocals, Value.category]; done) | rfl
def Q_m22_54 (Z : State) (a0 : Addr) (p1 : Int32) (k_a0 : ClassId) (jj0 : Int32) (jj1 : Int32) (jj2 : Int32) (jj3 : Int32) (jj4 : Int32) (jj5 : Int32) (jj6 : Int32) (jj7 : Int32) (h0 : Heap) (n0 : Nat) (v : Option Value) (h : Heap) (L : List Loc) : Prop := v = some (.int (((((gI [jj0, jj1, jj2, jj3, jj4, jj5, jj6, jj7] (p1 <<< ((1 : Int32) &&& 31))) &&& (255 : Int32)) <<< ((0 : Int32) &&& 31)) ||| (((gI [jj0, jj1, jj2, jj3, jj4, jj5, jj6, jj7] ((p1 <<< ((1 : Int32) &&& 31)) + (1 : Int32))) &&& (255 : Int32)) <<< ((8 : Int32) &&& 31))).toUInt32.toUInt16.toUInt32.toInt32)) ∧ Fr n0 L ∧ h = h0
theorem rm_m22_54 (l : Launch) (Z : State) (aZ : Array Value) (hw : ∀ d ∈ tables_1, d.before aZ Z = true) (ws : List Jvm.Cond) (a0 : Addr) (p1 : Int32) (k_a0 : ClassId) (jj0 : Int32) (jj1 : Int32) (jj2 : Int32) (jj3 : Int32) (jj4 : Int32) (jj5 : Int32) (jj6 : Int32) (jj7 : Int32) (h0 : Heap) (n0 : Nat) (Z0 : n0 ≤ h0.size) (zz8 : Sta Z Z.heap kc1 "$assertionsDisabled" "Z" (.int (1 : Int32))) (O0 : Old Z n0 h0) (V_a0 : Arv Z h0 a0 k_a0 .byte (8 : Int32) [(.int jj0), (.int jj1), (.int jj2), (.int jj3), (.int jj4), (.int jj5), (.int jj6), (.int jj7)] (.int (0 : Int32))) (hP_3 : ¬ (p1 < (0 : Int32))) (hP_4 : p1 < (4 : Int32)) (zz9 : Sta Z Z.heap kc1 "HI_BYTE_SHIFT" "I" (.int (0 : Int32))) (zz10 : Sta Z Z.heap kc1 "LO_BYTE_SHIFT" "I" (.int (8 : Int32))) :
    MetN l Z yn_22 jdk_52_method_5_code 2 (some .char) ws ({ frames := 0, cells := 0, slots := 0, locals := 0 } : Room) #[(.ref a0), (.int p1)] h0 (Q_m22_54 Z a0 p1 k_a0 jj0 jj1 jj2 jj3 jj4 jj5 jj6 jj7 h0 n0) := by
 refine MetN.of (plainFor_of_name pn_1) ?_
 intro p e s m below meth c s₁ hret hx hby hml hown hnm hlk hZ X0 e0
 have N0 := Fr.nil n0
 rw [ef_m22_54 m a0 p1]
 refine w_getS X0 hx "" hZ hown (Or.inl (wd_111 hw)) Via.refl e0 (zz8.ext O0.2) (d22_0 hby) (pc' := 3) rfl ?_
 intro T20 X20 e20
 refine w_ifY X20 hx (d22_3 hby) (feq (by decide : ¬ ((1 : Int32) = (0 : Int32)))).2 (pc' := 28) (by decide) (by decide) ?_
 refine w_iloadN X20 hx (d22_28 hby) rfl (pc' := 29) rfl ?_
 refine w_iconst X20 hx (d22_29 hby) (v := (1 : Int32)) rfl (pc' := 30) rfl ?_
 refine w_ishl X20 hx (d22_30 hby) (pc' := 31) rfl ?_
 refine w_istoreN X20 hx (d22_31 hby) (L' := #[.val (.ref a0), .val (.int (p1 <<< ((1 : Int32) &&& 31)))]) rfl (pc' := 32) rfl ?_
 refine w_aloadN X20 hx (d22_32 hby) rfl rfl (pc' := 33) rfl ?_
 refine w_iloadN X20 hx (d22_33 hby) rfl (pc' := 34) rfl ?_
 refine w_iinc X20 hx (d22_34 hby) (v := (1 : Int32)) rfl rfl (L' := #[.val (.ref a0), .val (.int ((p1 <<< ((1 : Int32) &&& 31)) + (1 : Int32)))]) rfl (pc' := 37) rfl ?_
 obtain ⟨clu21, Aru21, qu21, Su21, Nu21, Hu21, Gu21⟩ := id V_a0
 have hinu21 := inb_of (j := (p1 <<< ((1 : Int32) &&& 31))) Su21 ⟨(own_shl_in (n := 4) (by decide) (by decide) hP_3 hP_4).1.1, (Eq.mp (congrArg (fun z => (p1 <<< ((1 : Int32) &&& 31)) < z) (by decide : (4 : Int32) <<< ((1 : Int32) &&& 31) = 8)) (own_shl_in (n := 4) (by decide) (by decide) hP_3 hP_4).1.2)⟩
 refine w_baload X20 hx hZ e20 Aru21 hinu21 (Hu21.at hinu21 (own_gI [jj0, jj1, jj2, jj3, jj4, jj5, jj6, jj7] (p1 <<< ((1 : Int32) &&& 31)))) (d22_37 hby) (pc' := 38) rfl ?_
 refine w_sipush X20 hx (d22_38 hby) (v := (255 : Int32)) rfl (pc' := 41) rfl ?_
 refine w_iand X20 hx (d22_41 hby) (pc' := 42) rfl ?_
 refine w_getS X20 hx "" hZ hown (Or.inl (wd_112 hw)) Via.refl e20 (zz9.ext O0.2) (d22_42 hby) (pc' := 45) rfl ?_
 intro T22 X22 e22
 refine w_ishl X22 hx (d22_45 hby) (pc' := 46) rfl ?_
 refine w_aloadN X22 hx (d22_46 hby) rfl rfl (pc' := 47) rfl ?_
 refine w_iloadN X22 hx (d22_47 hby) rfl (pc' := 48) rfl ?_
 obtain ⟨clu23, Aru23, qu23, Su23, Nu23, Hu23, Gu23⟩ := id V_a0
 have hinu23 := inb_of (j := ((p1 <<< ((1 : Int32) &&& 31)) + (1 : Int32))) Su23 ⟨(own_shl_in (n := 4) (by decide) (by decide) hP_3 hP_4).2.1, (Eq.mp (congrArg (fun z => ((p1 <<< ((1 : Int32) &&& 31)) + (1 : Int32)) < z) (by decide : (4 : Int32) <<< ((1 : Int32) &&& 31) = 8)) (own_shl_in (n := 4) (by decide) (by decide) hP_3 hP_4).2.2)⟩
 refine w_baload X22 hx hZ e22 Aru23 hinu23 (Hu23.at hinu23 (own_gI [jj0, jj1, jj2, jj3, jj4, jj5, jj6, jj7] ((p1 <<< ((1 : Int32) &&& 31)) + (1 : Int32)))) (d22_48 hby) (pc' := 49) rfl ?_
 refine w_sipush X22 hx (d22_49 hby) (v := (255 : Int32)) rfl (pc' := 52) rfl ?_
 refine w_iand X22 hx (d22_52 hby) (pc' := 53) rfl ?_
 refine w_getS X22 hx "" hZ hown (Or.inl (wd_113 hw)) Via.refl e22 (zz10.ext O0.2) (d22_53 hby) (pc' := 56) rfl ?_
 intro T24 X24 e24
 refine w_ishl X24 hx (d22_56 hby) (pc' := 57) rfl ?_
 refine w_ior X24 hx (d22_57 hby) (pc' := 58) rfl ?_
 refine w_i2c X24 hx (d22_58 hby) (pc' := 59) rfl ?_
 exact w_done X24 hlk (v := some (.int (((((gI [jj0, jj1, jj2, jj3, jj4, jj5, jj6, jj7] (p1 <<< ((1 : Int32) &&& 31))) &&& (255 : Int32)) <<< ((0 : Int32) &&& 31)) ||| (((gI [jj0, jj1, jj2, jj3, jj4, jj5, jj6, jj7] ((p1 <<< ((1 : Int32) &&& 31)) + (1 : Int32))) &&& (255 : Int32)) <<< ((8 : Int32) &&& 31))).toUInt32.toUInt16.toUInt32.toInt32))) e24 (fun h => by rw [hret] at h; cases h) (fun fs hr => retOut X24 hx hret (t := .char) (XT.narrow_c _) (Or.inl ⟨rfl, by simp, _, rfl⟩) (d22_59 hby) hr) (by decide) (by decide) (⟨rfl, N0, rfl⟩)
theorem ef_m10_45 (m : MethodId) (a0 : Addr)  : entryFrame m #[(.ref a0), (.int (0 : Int32)), (.int (4 : Int32))] 6 = mkF m 0 #[.val (.ref a0), .val (.int (0 : Int32)), .val (.int (4 : Int32)), .unset, .unset, .unset] [] := by first | (simp [entryFrame, mkF, argsToLocals, Value.category]; done) | rfl
def Q_m10_45 (Z : State) (a0 : Addr) (k_a0 : ClassId) (jj0 : Int32) (jj1 : Int32) (jj2 : Int32) (jj3 : Int32) (h0 : Heap) (n0 : Nat) (v : Option Value) (h : Heap) (L : List Loc) : Prop := (∃ (t : Addr) (kb : ClassId), v = some (.ref t) ∧ Fr n0 L ∧ Keep h0 h [] ∧ h0.size ≤ t ∧ Arv Z h t kb .byte (4 : Int32) [(.int (jj0.toInt8.toInt32)), (.int (jj1.toInt8.toInt32)), (.int (jj2.toInt8.toInt32)), (.int (jj3.toInt8.toInt32))] (.int (0 : Int32)) ∧ ¬ ((255 : Int32) < jj0) ∧ ¬ ((255 : Int32) < jj1) ∧ ¬ ((255 : Int32) < jj2) ∧ ¬ ((255 : Int32) < jj3)) ∨ (∃ (t : Addr) (kb : ClassId), v = some (.ref t) ∧ Fr n0 L ∧ Keep h0 h [] ∧ h0.size ≤ t ∧ Arv Z h t kb .byte (8 : Int32) [(.int ((jj0 >>> ((0 : Int32) &&& 31)).toInt8.toInt32)), (.int ((jj0 >>> ((8 : Int32) &&& 31)).toInt8.toInt32)), (.int ((jj1 >>> ((0 : Int32) &&& 31)).toInt8.toInt32)), (.int ((jj1 >>> ((8 : Int32) &&& 31)).toInt8.toInt32)), (.int ((jj2 >>> ((0 : Int32) &&& 31)).toInt8.toInt32)), (.int ((jj2 >>> ((8 : Int32) &&& 31)).toInt8.toInt32)), (.int ((jj3 >>> ((0 : Int32) &&& 31)).toInt8.toInt32)), (.int ((jj3 >>> ((8 : Int32) &&& 31)).toInt8.toInt32))] (.int (0 : Int32)) ∧ ((255 : Int32) < jj0 ∨ (255 : Int32) < jj1 ∨ (255 : Int32) < jj2 ∨ (255 : Int32) < jj3))
theorem rm_m10_45 (l : Launch) (Z : State) (aZ : Array Value) (hw : ∀ d ∈ tables_1, d.before aZ Z = true) (ws : List Jvm.Cond) (a0 : Addr) (k_a0 : ClassId) (jj0 : Int32) (jj1 : Int32) (jj2 : Int32) (jj3 : Int32) (h0 : Heap) (n0 : Nat) (Z0 : n0 ≤ h0.size) (V_a0 : Arv Z h0 a0 k_a0 .char (4 : Int32) [(.int jj0), (.int jj1), (.int jj2), (.int jj3)] (.int (0 : Int32))) (zz4 : Sta Z Z.heap kc1 "$assertionsDisabled" "Z" (.int (1 : Int32))) (O0 : Old Z n0 h0) (zz5 : Sta Z Z.heap kc1 "HI_BYTE_SHIFT" "I" (.int (0 : Int32))) (zz6 : Sta Z Z.heap kc1 "LO_BYTE_SHIFT" "I" (.int (8 : Int32))) (zz7 : nar .char jj0 = jj0) (zz8 : nar .char jj1 = jj1) (zz9 : nar .char jj2 = jj2) (zz10 : nar .char jj3 = jj3) :
    MetN l Z yn_10 jdk_52_method_16_code 6 (some (.array .byte)) ws ({ frames := 3, cells := 2, slots := 12, locals := 40 } : Room) #[(.ref a0), (.int (0 : Int32)), (.int (4 : Int32))] h0 (Q_m10_45 Z a0 k_a0 jj0 jj1 jj2 jj3 h0 n0) := by
 refine MetN.of (plainFor_of_name pn_1) ?_
 intro p e s m below meth c s₁ hret hx hby hml hown hnm hlk hZ X0 e0
 have N0 := Fr.nil n0
 rw [ef_m10_45 m a0]
 refine w_iloadN X0 hx (d10_0 hby) rfl (pc' := 1) rfl ?_
 refine w_newP X0 hx .byte .byte 4 rfl hZ (wd_20 hw) e0 (d10_1 hby) (by decide) (by decide) (by decide) (by decide) (by decide) (pc' := 3) rfl ?_
 intro T20 h20 k20 b20 X20 e20 E20 g20 A20
 have ge21 : n0 ≤ b20 := Nat.le_trans Z0 (Nat.le_of_eq g20.symm)
 have sz22 : h0.size ≤ b20 := Nat.le_trans (Nat.le_refl _) (Nat.le_of_eq g20.symm)
 have K23 : Keep h0 h20 [] := (Keep.refl h0 []).ext E20
 have V24 : Arv Z h20 b20 k20 .byte (4 : Int32) [(.int (0 : Int32)), (.int (0 : Int32)), (.int (0 : Int32)), (.int (0 : Int32))] (.int (0 : Int32)) := (Arv.new A20 (by decide)).pad (pad_rep [] (.int (0 : Int32)) 4)
 refine w_astoreN X20 hx (d10_3 hby) rfl (L' := #[.val (.ref a0), .val (.int (0 : Int32)), .val (.int (4 : Int32)), .val (.ref b20), .unset, .unset]) rfl (pc' := 4) rfl ?_
 refine w_aloadN X20 hx (d10_4 hby) rfl rfl (pc' := 5) rfl ?_
 refine w_iloadN X20 hx (d10_5 hby) rfl (pc' := 6) rfl ?_
 refine w_aloadN X20 hx (d10_6 hby) rfl rfl (pc' := 7) rfl ?_
 refine w_iconst X20 hx (d10_7 hby) (v := (0 : Int32)) rfl (pc' := 8) rfl ?_
 refine w_iloadN X20 hx (d10_8 hby) rfl (pc' := 9) rfl ?_
 have f25 : Arv Z h20 a0 k_a0 .char (4 : Int32) [(.int jj0), (.int jj1), (.int jj2), (.int jj3)] (.int (0 : Int32)) := (V_a0.ext E20)
 have ne26 : a0 ≠ b20 := (Nat.ne_of_lt (Nat.lt_of_lt_of_le V_a0.lt (Nat.le_trans (Nat.le_refl _) (Nat.le_of_eq g20.symm))))
 refine w_static X20 hx (y := yn_11) hown (mvT hZ (wd_70 hw)) (mvT hZ (wd_71 hw)) (mvT hZ (wd_68 hw)) (mvT hZ (wd_72 hw)) (by decide) (backOf (W := 0) (rm_m11_46 l Z aZ hw [] a0 b20 k_a0 jj0 jj1 jj2 jj3 k20 h20 n0 (Nat.le_trans Z0 E20.1) f25 V24 ge21 ne26) hZ (wd_72 hw) (wd_68 hw) (by decide) (by decide)) (by rw [hml]; rfl) [(.ref a0), (.int (0 : Int32)), (.ref b20), (.int (0 : Int32)), (.int (4 : Int32))] (lenOf pd_2 rfl) rfl (Nat.le_of_eq rfl) (d10_9 hby) (fun _ _ => ⟨rfl, e20, (by decide : 1 + 0 ≤ _), (by decide : 4 + 0 ≤ _)⟩) (pc' := 12) rfl ?_
 rintro _ _ ⟨T27, L27, k27, n27⟩ X27 ⟨Lc27, hQ27, l27, y27, z27⟩
 dsimp only [Pt.U, Pt.locs, Pt.cells, Pt.slots] at X27 l27 y27 z27 hQ27 ⊢
 subst l27 y27 z27
 rcases hQ27 with ⟨rfl, N27q, K27, g27_0, g27_1, g27_2, g27_3, g27_4⟩ | ⟨j_27, rfl, N27q, K27, g27_0, g27_1, g27_2⟩
 · have N28 := Fr.app N0 N27q
   have K29 : Keep h0 T27.heap [] := K23.trans K27 (allS (Or.inr sz22) (all0 (P := fun x => x ∈ [] ∨ h0.size ≤ x)))
   show Runs _ _ _ _ (T27.setTop (mkF m 12 #[.val (.ref a0), .val (.int (0 : Int32)), .val (.int (4 : Int32)), .val (.ref b20), .unset, .unset] [(.int (4 : Int32))]))
   refine w_istore X27 hx (d10_12 hby) (L' := #[.val (.ref a0), .val (.int (0 : Int32)), .val (.int (4 : Int32)), .val (.ref b20), .val (.int (4 : Int32)), .unset]) rfl (pc' := 14) rfl ?_
   refine w_iload X27 hx (d10_14 hby) rfl (pc' := 16) rfl ?_
   refine w_iloadN X27 hx (d10_16 hby) rfl (pc' := 17) rfl ?_
   refine w_icY X27 hx (d10_17 hby) (teq (by decide : (4 : Int32) = (4 : Int32))).1 (pc' := 57) (by decide) (by decide) ?_
   refine w_aloadN X27 hx (d10_57 hby) rfl rfl (pc' := 58) rfl ?_
   exact w_done X27 hlk (v := some (.ref b20)) rfl (fun h => by rw [hret] at h; cases h) (fun fs hr => retOut X27 hx hret rfl (Or.inr (Or.inr (Or.inr (Or.inr ⟨rfl, rfl, rfl⟩)))) (d10_58 hby) hr) (by decide) (by decide) (Or.inl ⟨b20, k20, rfl, N28, K29, sz22, g27_0, g27_1, g27_2, g27_3, g27_4⟩)
 · have N30 := Fr.app N0 N27q
   have K31 : Keep h0 T27.heap [] := K23.trans K27 (allS (Or.inr sz22) (all0 (P := fun x => x ∈ [] ∨ h0.size ≤ x)))
   show Runs _ _ _ _ (T27.setTop (mkF m 12 #[.val (.ref a0), .val (.int (0 : Int32)), .val (.int (4 : Int32)), .val (.ref b20), .unset, .unset] [(.int j_27)]))
   refine w_istore X27 hx (d10_12 hby) (L' := #[.val (.ref a0), .val (.int (0 : Int32)), .val (.int (4 : Int32)), .val (.ref b20), .val (.int j_27), .unset]) rfl (pc' := 14) rfl ?_
   refine w_iload X27 hx (d10_14 hby) rfl (pc' := 16) rfl ?_
   refine w_iloadN X27 hx (d10_16 hby) rfl (pc' := 17) rfl ?_
   refine w_icN X27 hx (d10_17 hby) (feq (fun q => by have h9 := g27_1; rw [q] at h9; exact absurd h9 (by decide))).1 (pc' := 20) rfl ?_
   refine w_aloadN X27 hx (d10_20 hby) rfl rfl (pc' := 21) rfl ?_
   refine w_iloadN X27 hx (d10_21 hby) rfl (pc' := 22) rfl ?_
   refine w_iloadN X27 hx (d10_22 hby) rfl (pc' := 23) rfl ?_
   have f32 : Arv Z T27.heap a0 k_a0 .char (4 : Int32) [(.int jj0), (.int jj1), (.int jj2), (.int jj3)] (.int (0 : Int32)) := (f25.keep K27 (ninS ne26 nin0))
   have f33 : Old Z n0 T27.heap := ((O0.ext E20).keep K27 (allS ge21 all0))
   have le34 : h0.size ≤ T27.heap.size := (Nat.le_trans E20.1 K27.1)
   refine w_static X27 hx (y := yn_18) hown (mvT hZ (wd_98 hw)) (mvT hZ (wd_99 hw)) (mvT hZ (wd_68 hw)) (mvT hZ (wd_100 hw)) (by decide) (backOf (W := 0) (rm_m18_47 l Z aZ hw [] a0 k_a0 jj0 jj1 jj2 jj3 T27.heap n0 (Nat.le_trans Z0 le34) f32 zz4 f33 zz5 zz6) hZ (wd_100 hw) (wd_68 hw) (by decide) (by decide)) (by rw [hml]; rfl) [(.ref a0), (.int (0 : Int32)), (.int (4 : Int32))] (lenOf pd_6 rfl) rfl (Nat.le_of_eq rfl) (d10_23 hby) (fun _ _ => ⟨rfl, rfl, (by decide : 1 + 1 ≤ _), (by decide : 4 + 8 ≤ _)⟩) (pc' := 26) rfl ?_
   rintro _ _ ⟨T35, L35, k35, n35⟩ X35 ⟨Lc35, hQ35, l35, y35, z35⟩
   dsimp only [Pt.U, Pt.locs, Pt.cells, Pt.slots] at X35 l35 y35 z35 hQ35 ⊢
   subst l35 y35 z35
   obtain ⟨r0_35, c0_35, rfl, N35q, K35, g35_0, g35_1⟩ := hQ35
   have N36 := Fr.app N30 N35q
   have K37 : Keep h0 T35.heap [] := K31.trans K35 (all0 (P := fun x => x ∈ [] ∨ h0.size ≤ x))
   have ge38 : n0 ≤ r0_35 := Nat.le_trans (Nat.le_trans Z0 le34) g35_0
   have sz39 : h0.size ≤ r0_35 := Nat.le_trans le34 g35_0
   show Runs _ _ _ _ (T35.setTop (mkF m 26 #[.val (.ref a0), .val (.int (0 : Int32)), .val (.int (4 : Int32)), .val (.ref b20), .val (.int j_27), .unset] [(.ref r0_35)]))
   refine w_astore X35 hx (d10_26 hby) rfl (L' := #[.val (.ref a0), .val (.int (0 : Int32)), .val (.int (4 : Int32)), .val (.ref b20), .val (.int j_27), .val (.ref r0_35)]) rfl (pc' := 28) rfl ?_
   refine w_aload X35 hx (d10_28 hby) rfl rfl (pc' := 30) rfl ?_
   refine w_iload X35 hx (d10_30 hby) rfl (pc' := 32) rfl ?_
   have f43 : Old Z n0 T35.heap := (f33.keep K35 all0)
   have le44 : h0.size ≤ T35.heap.size := (Nat.le_trans le34 K35.1)
   refine w_static X35 hx (y := yn_22) hown (mvT hZ (wd_114 hw)) (mvT hZ (wd_115 hw)) (mvT hZ (wd_68 hw)) (mvT hZ (wd_116 hw)) (by decide) (backOf (W := 0) (rm_m22_54 l Z aZ hw [] r0_35 j_27 c0_35 ((jj0 >>> ((0 : Int32) &&& 31)).toInt8.toInt32) ((jj0 >>> ((8 : Int32) &&& 31)).toInt8.toInt32) ((jj1 >>> ((0 : Int32) &&& 31)).toInt8.toInt32) ((jj1 >>> ((8 : Int32) &&& 31)).toInt8.toInt32) ((jj2 >>> ((0 : Int32) &&& 31)).toInt8.toInt32) ((jj2 >>> ((8 : Int32) &&& 31)).toInt8.toInt32) ((jj3 >>> ((0 : Int32) &&& 31)).toInt8.toInt32) ((jj3 >>> ((8 : Int32) &&& 31)).toInt8.toInt32) T35.heap n0 (Nat.le_trans Z0 le44) zz4 f43 g35_1 g27_0 g27_1 zz5 zz6) hZ (wd_116 hw) (wd_68 hw) (by decide) (by decide)) (by rw [hml]; rfl) [(.ref r0_35), (.int j_27)] (lenOf pd_7 rfl) rfl (Nat.le_of_eq rfl) (d10_32 hby) (fun _ _ => ⟨rfl, rfl, (by decide : 2 + 0 ≤ _), (by decide : 12 + 0 ≤ _)⟩) (pc' := 35) rfl ?_
   rintro _ _ ⟨T45, L45, k45, n45⟩ X45 ⟨Lc45, hQ45, l45, y45, z45⟩
   dsimp only [Pt.U, Pt.locs, Pt.cells, Pt.slots] at X45 l45 y45 z45 hQ45 ⊢
   subst l45 y45 z45
   obtain ⟨rfl, N45q, e45⟩ := hQ45
   have N46 := Fr.app N36 N45q
   show Runs _ _ _ _ (T45.setTop (mkF m 35 #[.val (.ref a0), .val (.int (0 : Int32)), .val (.int (4 : Int32)), .val (.ref b20), .val (.int j_27), .val (.ref r0_35)] [(.int (((((gI [((jj0 >>> ((0 : Int32) &&& 31)).toInt8.toInt32), ((jj0 >>> ((8 : Int32) &&& 31)).toInt8.toInt32), ((jj1 >>> ((0 : Int32) &&& 31)).toInt8.toInt32), ((jj1 >>> ((8 : Int32) &&& 31)).toInt8.toInt32), ((jj2 >>> ((0 : Int32) &&& 31)).toInt8.toInt32), ((jj2 >>> ((8 : Int32) &&& 31)).toInt8.toInt32), ((jj3 >>> ((0 : Int32) &&& 31)).toInt8.toInt32), ((jj3 >>> ((8 : Int32) &&& 31)).toInt8.toInt32)] (j_27 <<< ((1 : Int32) &&& 31))) &&& (255 : Int32)) <<< ((0 : Int32) &&& 31)) ||| (((gI [((jj0 >>> ((0 : Int32) &&& 31)).toInt8.toInt32), ((jj0 >>> ((8 : Int32) &&& 31)).toInt8.toInt32), ((jj1 >>> ((0 : Int32) &&& 31)).toInt8.toInt32), ((jj1 >>> ((8 : Int32) &&& 31)).toInt8.toInt32), ((jj2 >>> ((0 : Int32) &&& 31)).toInt8.toInt32), ((jj2 >>> ((8 : Int32) &&& 31)).toInt8.toInt32), ((jj3 >>> ((0 : Int32) &&& 31)).toInt8.toInt32), ((jj3 >>> ((8 : Int32) &&& 31)).toInt8.toInt32)] ((j_27 <<< ((1 : Int32) &&& 31)) + (1 : Int32))) &&& (255 : Int32)) <<< ((8 : Int32) &&& 31))).toUInt32.toUInt16.toUInt32.toInt32))]))
   refine w_sipush X45 hx (d10_35 hby) (v := (255 : Int32)) rfl (pc' := 38) rfl ?_
   refine w_icY X45 hx (d10_38 hby) (tlt (show (255 : Int32) < (((((gI [((jj0 >>> ((0 : Int32) &&& 31)).toInt8.toInt32), ((jj0 >>> ((8 : Int32) &&& 31)).toInt8.toInt32), ((jj1 >>> ((0 : Int32) &&& 31)).toInt8.toInt32), ((jj1 >>> ((8 : Int32) &&& 31)).toInt8.toInt32), ((jj2 >>> ((0 : Int32) &&& 31)).toInt8.toInt32), ((jj2 >>> ((8 : Int32) &&& 31)).toInt8.toInt32), ((jj3 >>> ((0 : Int32) &&& 31)).toInt8.toInt32), ((jj3 >>> ((8 : Int32) &&& 31)).toInt8.toInt32)] (j_27 <<< ((1 : Int32) &&& 31))) &&& (255 : Int32)) <<< ((0 : Int32) &&& 31)) ||| (((gI [((jj0 >>> ((0 : Int32) &&& 31)).toInt8.toInt32), ((jj0 >>> ((8 : Int32) &&& 31)).toInt8.toInt32), ((jj1 >>> ((0 : Int32) &&& 31)).toInt8.toInt32), ((jj1 >>> ((8 : Int32) &&& 31)).toInt8.toInt32), ((jj2 >>> ((0 : Int32) &&& 31)).toInt8.toInt32), ((jj2 >>> ((8 : Int32) &&& 31)).toInt8.toInt32), ((jj3 >>> ((0 : Int32) &&& 31)).toInt8.toInt32), ((jj3 >>> ((8 : Int32) &&& 31)).toInt8.toInt32)] ((j_27 <<< ((1 : Int32) &&& 31)) + (1 : Int32))) &&& (255 : Int32)) <<< ((8 : Int32) &&& 31))).toUInt32.toUInt16.toUInt32.toInt32) from by rw [own_uj4 g27_0 g27_1 zz7 zz8 zz9 zz10]; exact g27_2)).2.2.1 (pc' := 54) (by decide) (by decide) ?_
   refine w_aload X45 hx (d10_54 hby) rfl rfl (pc' := 56) rfl ?_
   exact w_done X45 hlk (v := some (.ref r0_35)) e45 (fun h => by rw [hret] at h; cases h) (fun fs hr => retOut X45 hx hret rfl (Or.inr (Or.inr (Or.inr (Or.inr ⟨rfl, rfl, rfl⟩)))) (d10_56 hby) hr) (by decide) (by decide) (Or.inr (⟨r0_35, c0_35, rfl, N46, K37, sz39, g35_1, (own_or4 g27_0 g27_1 g27_2)⟩))
theorem ef_m12_55 (m : MethodId) (a0 : Addr)  : entryFrame m #[(.ref a0), (.int (4 : Int32))] 2 = mkF m 0 #[.val (.ref a0), .val (.int (4 : Int32))] [] := by first | (simp [entryFrame, mkF, argsToLocals, Value.category]; done) | rfl
def Q_m12_55 (Z : State) (a0 : Addr) (k_a0 : ClassId) (jj0 : Int32) (jj1 : Int32) (jj2 : Int32) (jj3 : Int32) (h0 : Heap) (n0 : Nat) (v : Option Value) (h : Heap) (L : List Loc) : Prop := v = some (.int (0 : Int32)) ∧ Fr n0 L ∧ h = h0
theorem rm_m12_55 (l : Launch) (Z : State) (aZ : Array Value) (hw : ∀ d ∈ tables_1, d.before aZ Z = true) (ws : List Jvm.Cond) (a0 : Addr) (k_a0 : ClassId) (jj0 : Int32) (jj1 : Int32) (jj2 : Int32) (jj3 : Int32) (h0 : Heap) (n0 : Nat) (Z0 : n0 ≤ h0.size) (V_a0 : Arv Z h0 a0 k_a0 .byte (4 : Int32) [(.int jj0), (.int jj1), (.int jj2), (.int jj3)] (.int (0 : Int32))) :
    MetN l Z yn_12 jdk_52_method_15_code 2 (some .byte) ws ({ frames := 0, cells := 0, slots := 0, locals := 0 } : Room) #[(.ref a0), (.int (4 : Int32))] h0 (Q_m12_55 Z a0 k_a0 jj0 jj1 jj2 jj3 h0 n0) := by
 refine MetN.of (plainFor_of_name pn_1) ?_
 intro p e s m below meth c s₁ hret hx hby hml hown hnm hlk hZ X0 e0
 have N0 := Fr.nil n0
 rw [ef_m12_55 m a0]
 refine w_iloadN X0 hx (d12_0 hby) rfl (pc' := 1) rfl ?_
 refine w_aloadN X0 hx (d12_1 hby) rfl rfl (pc' := 2) rfl ?_
 refine w_alen X0 hx hZ e0 V_a0 (d12_2 hby) (pc' := 3) rfl ?_
 refine w_isub X0 hx (d12_3 hby) (pc' := 4) rfl ?_
 rw [show ((4 : Int32) - (4 : Int32)) = (0 : Int32) from by decide]
 refine w_bipush X0 hx (d12_4 hby) (v := (31 : Int32)) rfl (pc' := 6) rfl ?_
 refine w_iushr X0 hx (d12_6 hby) (pc' := 7) rfl ?_
 rw [show (((0 : Int32).toUInt32 >>> ((31 : Int32) &&& 31).toUInt32).toInt32) = (0 : Int32) from by decide]
 refine w_i2b X0 hx (d12_7 hby) (pc' := 8) rfl ?_
 rw [show ((0 : Int32).toInt8.toInt32) = (0 : Int32) from by decide]
 exact w_done X0 hlk (v := some (.int (0 : Int32))) e0 (fun h => by rw [hret] at h; cases h) (fun fs hr => retN X0 hx (t := .byte) hret (by simp) (d12_8 hby) hr) (by decide) (by decide) (⟨rfl, N0, rfl⟩)
theorem ef_m12_56 (m : MethodId) (a0 : Addr)  : entryFrame m #[(.ref a0), (.int (4 : Int32))] 2 = mkF m 0 #[.val (.ref a0), .val (.int (4 : Int32))] [] := by first | (simp [entryFrame, mkF, argsToLocals, Value.category]; done) | rfl
def Q_m12_56 (Z : State) (a0 : Addr) (k_a0 : ClassId) (jj0 : Int32) (jj1 : Int32) (jj2 : Int32) (jj3 : Int32) (jj4 : Int32) (jj5 : Int32) (jj6 : Int32) (jj7 : Int32) (h0 : Heap) (n0 : Nat) (v : Option Value) (h : Heap) (L : List Loc) : Prop := v = some (.int (1 : Int32)) ∧ Fr n0 L ∧ h = h0
theorem rm_m12_56 (l : Launch) (Z : State) (aZ : Array Value) (hw : ∀ d ∈ tables_1, d.before aZ Z = true) (ws : List Jvm.Cond) (a0 : Addr) (k_a0 : ClassId) (jj0 : Int32) (jj1 : Int32) (jj2 : Int32) (jj3 : Int32) (jj4 : Int32) (jj5 : Int32) (jj6 : Int32) (jj7 : Int32) (h0 : Heap) (n0 : Nat) (Z0 : n0 ≤ h0.size) (V_a0 : Arv Z h0 a0 k_a0 .byte (8 : Int32) [(.int jj0), (.int jj1), (.int jj2), (.int jj3), (.int jj4), (.int jj5), (.int jj6), (.int jj7)] (.int (0 : Int32))) :
    MetN l Z yn_12 jdk_52_method_15_code 2 (some .byte) ws ({ frames := 0, cells := 0, slots := 0, locals := 0 } : Room) #[(.ref a0), (.int (4 : Int32))] h0 (Q_m12_56 Z a0 k_a0 jj0 jj1 jj2 jj3 jj4 jj5 jj6 jj7 h0 n0) := by
 refine MetN.of (plainFor_of_name pn_1) ?_
 intro p e s m below meth c s₁ hret hx hby hml hown hnm hlk hZ X0 e0
 have N0 := Fr.nil n0
 rw [ef_m12_56 m a0]
 refine w_iloadN X0 hx (d12_0 hby) rfl (pc' := 1) rfl ?_
 refine w_aloadN X0 hx (d12_1 hby) rfl rfl (pc' := 2) rfl ?_
 refine w_alen X0 hx hZ e0 V_a0 (d12_2 hby) (pc' := 3) rfl ?_
 refine w_isub X0 hx (d12_3 hby) (pc' := 4) rfl ?_
 rw [show ((4 : Int32) - (8 : Int32)) = (-4 : Int32) from by decide]
 refine w_bipush X0 hx (d12_4 hby) (v := (31 : Int32)) rfl (pc' := 6) rfl ?_
 refine w_iushr X0 hx (d12_6 hby) (pc' := 7) rfl ?_
 rw [show (((-4 : Int32).toUInt32 >>> ((31 : Int32) &&& 31).toUInt32).toInt32) = (1 : Int32) from by decide]
 refine w_i2b X0 hx (d12_7 hby) (pc' := 8) rfl ?_
 rw [show ((1 : Int32).toInt8.toInt32) = (1 : Int32) from by decide]
 exact w_done X0 hlk (v := some (.int (1 : Int32))) e0 (fun h => by rw [hret] at h; cases h) (fun fs hr => retN X0 hx (t := .byte) hret (by simp) (d12_8 hby) hr) (by decide) (by decide) (⟨rfl, N0, rfl⟩)
theorem ef_m3_44 (m : MethodId) (a0 : Addr) (a1 : Addr)  : entryFrame m #[(.ref a0), (.ref a1), (.int (0 : Int32)), (.int (4 : Int32)), .null] 6 = mkF m 0 #[.val (.ref a0), .val (.ref a1), .val (.int (0 : Int32)), .val (.int (4 : Int32)), .val .null, .unset] [] := by first | (simp [entryFrame, mkF, argsToLocals, Value.category]; done) | rfl
def Q_m3_44 (Z : State) (a0 : Addr) (a1 : Addr) (jj0 : Int32) (k_a1 : ClassId) (jj1 : Int32) (jj2 : Int32) (jj3 : Int32) (jj4 : Int32) (h0 : Heap) (n0 : Nat) (v : Option Value) (h : Heap) (L : List Loc) : Prop := (∃ (t : Addr) (kb : ClassId), v = none ∧ Fr n0 L ∧ Keep h0 h [a0] ∧ Exa Z h a0 kc0 ∧ Fld Z h a0 kc0 "coder" "B" (.int (0 : Int32)) ∧ Fld Z h a0 kc0 "value" "[B" (.ref t) ∧ h0.size ≤ t ∧ Arv Z h t kb .byte (4 : Int32) [(.int (jj1.toInt8.toInt32)), (.int (jj2.toInt8.toInt32)), (.int (jj3.toInt8.toInt32)), (.int (jj4.toInt8.toInt32))] (.int (0 : Int32)) ∧ ¬ ((255 : Int32) < jj1) ∧ ¬ ((255 : Int32) < jj2) ∧ ¬ ((255 : Int32) < jj3) ∧ ¬ ((255 : Int32) < jj4)) ∨ (∃ (t : Addr) (kb : ClassId), v = none ∧ Fr n0 L ∧ Keep h0 h [a0] ∧ Exa Z h a0 kc0 ∧ Fld Z h a0 kc0 "coder" "B" (.int (1 : Int32)) ∧ Fld Z h a0 kc0 "value" "[B" (.ref t) ∧ h0.size ≤ t ∧ Arv Z h t kb .byte (8 : Int32) [(.int ((jj1 >>> ((0 : Int32) &&& 31)).toInt8.toInt32)), (.int ((jj1 >>> ((8 : Int32) &&& 31)).toInt8.toInt32)), (.int ((jj2 >>> ((0 : Int32) &&& 31)).toInt8.toInt32)), (.int ((jj2 >>> ((8 : Int32) &&& 31)).toInt8.toInt32)), (.int ((jj3 >>> ((0 : Int32) &&& 31)).toInt8.toInt32)), (.int ((jj3 >>> ((8 : Int32) &&& 31)).toInt8.toInt32)), (.int ((jj4 >>> ((0 : Int32) &&& 31)).toInt8.toInt32)), (.int ((jj4 >>> ((8 : Int32) &&& 31)).toInt8.toInt32))] (.int (0 : Int32)) ∧ ((255 : Int32) < jj1 ∨ (255 : Int32) < jj2 ∨ (255 : Int32) < jj3 ∨ (255 : Int32) < jj4))
theorem rm_m3_44 (l : Launch) (Z : State) (aZ : Array Value) (hw : ∀ d ∈ tables_1, d.before aZ Z = true) (ws : List Jvm.Cond) (a0 : Addr) (a1 : Addr) (jj0 : Int32) (k_a1 : ClassId) (jj1 : Int32) (jj2 : Int32) (jj3 : Int32) (jj4 : Int32) (h0 : Heap) (n0 : Nat) (Z0 : n0 ≤ h0.size) (zz5 : Sta Z Z.heap kc0 "COMPACT_STRINGS" "Z" (.int jj0)) (O0 : Old Z n0 h0) (hP_2 : ¬ (jj0 = (0 : Int32))) (V_a1 : Arv Z h0 a1 k_a1 .char (4 : Int32) [(.int jj1), (.int jj2), (.int jj3), (.int jj4)] (.int (0 : Int32))) (zz6 : nar .char jj1 = jj1) (zz7 : nar .char jj2 = jj2) (zz8 : nar .char jj3 = jj3) (zz9 : nar .char jj4 = jj4) (zz10 : Sta Z Z.heap kc1 "$assertionsDisabled" "Z" (.int (1 : Int32))) (zz11 : Sta Z Z.heap kc1 "HI_BYTE_SHIFT" "I" (.int (0 : Int32))) (zz12 : Sta Z Z.heap kc1 "LO_BYTE_SHIFT" "I" (.int (8 : Int32))) (E_a0 : Exa Z h0 a0 kc0) (zz13 : Fld Z h0 a0 kc0 "coder" "B" (.int (0 : Int32))) (zz14 : n0 ≤ a0) (zz15 : Fld Z h0 a0 kc0 "value" "[B" .null) :
    MetN l Z yn_3 jdk_42_method_149_code 6 none ws ({ frames := 4, cells := 2, slots := 12, locals := 57 } : Room) #[(.ref a0), (.ref a1), (.int (0 : Int32)), (.int (4 : Int32)), .null] h0 (Q_m3_44 Z a0 a1 jj0 k_a1 jj1 jj2 jj3 jj4 h0 n0) := by
 refine MetN.of (plainFor_of_name pn_0) ?_
 intro p e s m below meth c s₁ hret hx hby hml hown hnm hlk hZ X0 e0
 have N0 := Fr.nil n0
 rw [ef_m3_44 m a0 a1]
 refine w_aloadN X0 hx (d3_0 hby) rfl rfl (pc' := 1) rfl ?_
 refine w_initO X0 hx 0 hZ hown (wd_16 hw) (wd_17 hw) (wd_18 hw) e0 (by rw [hml]; rfl) (d3_1 hby) (by decide) (Nat.le_of_eq rfl) (by decide) (pc' := 4) rfl ?_
 intro T20 X20 e20
 refine w_iloadN X20 hx (d3_4 hby) rfl (pc' := 5) rfl ?_
 refine w_ifY X20 hx (d3_5 hby) (feq (by decide : ¬ ((4 : Int32) = (0 : Int32)))).2 (pc' := 27) (by decide) (by decide) ?_
 refine w_getS X20 hx "" hZ hown (Or.inl (wd_63 hw)) Via.refl e20 (zz5.ext O0.2) (d3_27 hby) (pc' := 30) rfl ?_
 intro T21 X21 e21
 refine w_ifN X21 hx (d3_30 hby) (feq hP_2).1 (pc' := 33) rfl ?_
 refine w_aloadN X21 hx (d3_33 hby) rfl rfl (pc' := 34) rfl ?_
 refine w_iloadN X21 hx (d3_34 hby) rfl (pc' := 35) rfl ?_
 refine w_iloadN X21 hx (d3_35 hby) rfl (pc' := 36) rfl ?_
 refine w_static X21 hx (y := yn_10) hown (mvT hZ (wd_66 hw)) (mvT hZ (wd_67 hw)) (mvT hZ (wd_68 hw)) (mvT hZ (wd_69 hw)) (by decide) (backOf (W := 0) (rm_m10_45 l Z aZ hw [] a1 k_a1 jj1 jj2 jj3 jj4 h0 n0 Z0 V_a1 zz10 O0 zz11 zz12 zz6 zz7 zz8 zz9) hZ (wd_69 hw) (wd_68 hw) (by decide) (by decide)) (by rw [hml]; rfl) [(.ref a1), (.int (0 : Int32)), (.int (4 : Int32))] (lenOf pd_6 rfl) rfl (Nat.le_of_eq rfl) (d3_36 hby) (fun _ _ => ⟨rfl, e21, (by decide : 0 + 2 ≤ _), (by decide : 0 + 12 ≤ _)⟩) (pc' := 39) rfl ?_
 rintro _ _ ⟨T22, L22, k22, n22⟩ X22 ⟨Lc22, hQ22, l22, y22, z22⟩
 dsimp only [Pt.U, Pt.locs, Pt.cells, Pt.slots] at X22 l22 y22 z22 hQ22 ⊢
 subst l22 y22 z22
 rcases hQ22 with ⟨t_22, kb_22, rfl, N22q, K22, g22_0, g22_1, g22_2, g22_3, g22_4, g22_5⟩ | ⟨t_22, kb_22, rfl, N22q, K22, g22_0, g22_1, g22_2⟩
 · have N23 := Fr.app N0 N22q
   have K24 : Keep h0 T22.heap [a0] := (Keep.refl h0 [a0]).trans K22 (all0 (P := fun x => x ∈ [a0] ∨ h0.size ≤ x))
   have ge25 : n0 ≤ t_22 := Nat.le_trans Z0 g22_0
   have sz26 : h0.size ≤ t_22 := Nat.le_trans (Nat.le_refl _) g22_0
   show Runs _ _ _ _ (T22.setTop (mkF m 39 #[.val (.ref a0), .val (.ref a1), .val (.int (0 : Int32)), .val (.int (4 : Int32)), .val .null, .unset] [(.ref t_22)]))
   refine w_astore X22 hx (d3_39 hby) rfl (L' := #[.val (.ref a0), .val (.ref a1), .val (.int (0 : Int32)), .val (.int (4 : Int32)), .val .null, .val (.ref t_22)]) rfl (pc' := 41) rfl ?_
   refine w_aloadN X22 hx (d3_41 hby) rfl rfl (pc' := 42) rfl ?_
   refine w_aload X22 hx (d3_42 hby) rfl rfl (pc' := 44) rfl ?_
   refine w_iloadN X22 hx (d3_44 hby) rfl (pc' := 45) rfl ?_
   refine w_static X22 hx (y := yn_12) hown (mvT hZ (wd_73 hw)) (mvT hZ (wd_74 hw)) (mvT hZ (wd_68 hw)) (mvT hZ (wd_75 hw)) (by decide) (backOf (W := 1) (rm_m12_55 l Z aZ hw [] t_22 kb_22 (jj1.toInt8.toInt32) (jj2.toInt8.toInt32) (jj3.toInt8.toInt32) (jj4.toInt8.toInt32) T22.heap n0 (Nat.le_trans Z0 K22.1) g22_1) hZ (wd_75 hw) (wd_68 hw) (by decide) (by decide)) (by rw [hml]; rfl) [(.ref t_22), (.int (4 : Int32))] (lenOf pd_8 rfl) rfl (Nat.le_of_eq rfl) (d3_45 hby) (fun _ _ => ⟨rfl, rfl, (by decide : 2 + 0 ≤ _), (by decide : 12 + 0 ≤ _)⟩) (pc' := 48) rfl ?_
   rintro _ _ ⟨T27, L27, k27, n27⟩ X27 ⟨Lc27, hQ27, l27, y27, z27⟩
   dsimp only [Pt.U, Pt.locs, Pt.cells, Pt.slots] at X27 l27 y27 z27 hQ27 ⊢
   subst l27 y27 z27
   obtain ⟨rfl, N27q, e27⟩ := hQ27
   have N28 := Fr.app N23 N27q
   show Runs _ _ _ _ (T27.setTop (mkF m 48 #[.val (.ref a0), .val (.ref a1), .val (.int (0 : Int32)), .val (.int (4 : Int32)), .val .null, .val (.ref t_22)] [(.int (0 : Int32)), (.ref a0)]))
   have f29 : Exa Z T22.heap a0 kc0 := (E_a0.keep K22)
   have f30 : Fld Z T22.heap a0 kc0 "coder" "B" (.int (0 : Int32)) := (zz13.keep K22 nin0)
   refine w_putF X27 hx "" hZ hown (Or.inl (wd_26 hw)) Via.refl e27 f30 f29 (Or.inr ⟨(wd_22 hw), rfl, hnm⟩) (wd_7 hw) (ty := .byte) (by decide) rfl rfl (d3_48 hby) (pc' := 51) rfl ?_
   intro T31 h31 X31 e31 W31
   have f32 : Fld Z h31 a0 kc0 "coder" "B" (.int (0 : Int32)) := f30.same W31
   have K33 : Keep h0 h31 [a0] := K24.wr W31 (Or.inl (by simp))
   have N34 := Fr.snoc X31 N28 zz14
   refine w_aloadN X31 hx (d3_51 hby) rfl rfl (pc' := 52) rfl ?_
   refine w_aload X31 hx (d3_52 hby) rfl rfl (pc' := 54) rfl ?_
   have f35 : Exa Z h31 a0 kc0 := (f29.wr W31)
   have f36 : Fld Z h31 a0 kc0 "value" "[B" .null := ((zz15.keep K22 nin0).other W31 (Or.inr (slot_ne (Or.inr (wd_21 hw)) (Or.inr (wd_22 hw)) (by decide) (t := (.array .byte)) (t' := .byte) (by decide) (by decide))))
   refine w_putF X31 hx "" hZ hown (Or.inl (wd_25 hw)) Via.refl e31 f36 f35 (Or.inr ⟨(wd_21 hw), rfl, hnm⟩) (wd_7 hw) (ty := (.array .byte)) (by decide) rfl rfl (d3_54 hby) (pc' := 57) rfl ?_
   intro T37 h37 X37 e37 W37
   have f38 : Fld Z h37 a0 kc0 "value" "[B" (.ref t_22) := f36.same W37
   have K39 : Keep h0 h37 [a0] := K33.wr W37 (Or.inl (by simp))
   have N40 := Fr.snoc X37 N34 zz14
   have f41 : Exa Z h37 a0 kc0 := (f35.wr W37)
   have f42 : Fld Z h37 a0 kc0 "coder" "B" (.int (0 : Int32)) := (f32.other W37 (Or.inr (slot_ne (Or.inr (wd_22 hw)) (Or.inr (wd_21 hw)) (by decide) (t := .byte) (t' := (.array .byte)) (by decide) (by decide))))
   have ne43 : a0 ≠ t_22 := (Nat.ne_of_lt (Nat.lt_of_lt_of_le E_a0.lt (Nat.le_trans (Nat.le_refl _) g22_0)))
   have f44 : Arv Z h37 t_22 kb_22 .byte (4 : Int32) [(.int (jj1.toInt8.toInt32)), (.int (jj2.toInt8.toInt32)), (.int (jj3.toInt8.toInt32)), (.int (jj4.toInt8.toInt32))] (.int (0 : Int32)) := ((g22_1.other W31 (Ne.symm ne43)).other W37 (Ne.symm ne43))
   exact w_done X37 hlk (v := none) e37 (fun _ => rfl) (fun fs hr => X37.returnOut hx hret (d3_57 hby) hr) (by decide) (by decide) (Or.inl ⟨t_22, kb_22, rfl, N40, K39, f41, f42, f38, sz26, f44, g22_2, g22_3, g22_4, g22_5⟩)
 · have N45 := Fr.app N0 N22q
   have K46 : Keep h0 T22.heap [a0] := (Keep.refl h0 [a0]).trans K22 (all0 (P := fun x => x ∈ [a0] ∨ h0.size ≤ x))
   have ge47 : n0 ≤ t_22 := Nat.le_trans Z0 g22_0
   have sz48 : h0.size ≤ t_22 := Nat.le_trans (Nat.le_refl _) g22_0
   show Runs _ _ _ _ (T22.setTop (mkF m 39 #[.val (.ref a0), .val (.ref a1), .val (.int (0 : Int32)), .val (.int (4 : Int32)), .val .null, .unset] [(.ref t_22)]))
   refine w_astore X22 hx (d3_39 hby) rfl (L' := #[.val (.ref a0), .val (.ref a1), .val (.int (0 : Int32)), .val (.int (4 : Int32)), .val .null, .val (.ref t_22)]) rfl (pc' := 41) rfl ?_
   refine w_aloadN X22 hx (d3_41 hby) rfl rfl (pc' := 42) rfl ?_
   refine w_aload X22 hx (d3_42 hby) rfl rfl (pc' := 44) rfl ?_
   refine w_iloadN X22 hx (d3_44 hby) rfl (pc' := 45) rfl ?_
   refine w_static X22 hx (y := yn_12) hown (mvT hZ (wd_73 hw)) (mvT hZ (wd_74 hw)) (mvT hZ (wd_68 hw)) (mvT hZ (wd_75 hw)) (by decide) (backOf (W := 1) (rm_m12_56 l Z aZ hw [] t_22 kb_22 ((jj1 >>> ((0 : Int32) &&& 31)).toInt8.toInt32) ((jj1 >>> ((8 : Int32) &&& 31)).toInt8.toInt32) ((jj2 >>> ((0 : Int32) &&& 31)).toInt8.toInt32) ((jj2 >>> ((8 : Int32) &&& 31)).toInt8.toInt32) ((jj3 >>> ((0 : Int32) &&& 31)).toInt8.toInt32) ((jj3 >>> ((8 : Int32) &&& 31)).toInt8.toInt32) ((jj4 >>> ((0 : Int32) &&& 31)).toInt8.toInt32) ((jj4 >>> ((8 : Int32) &&& 31)).toInt8.toInt32) T22.heap n0 (Nat.le_trans Z0 K22.1) g22_1) hZ (wd_75 hw) (wd_68 hw) (by decide) (by decide)) (by rw [hml]; rfl) [(.ref t_22), (.int (4 : Int32))] (lenOf pd_8 rfl) rfl (Nat.le_of_eq rfl) (d3_45 hby) (fun _ _ => ⟨rfl, rfl, (by decide : 2 + 0 ≤ _), (by decide : 12 + 0 ≤ _)⟩) (pc' := 48) rfl ?_
   rintro _ _ ⟨T49, L49, k49, n49⟩ X49 ⟨Lc49, hQ49, l49, y49, z49⟩
   dsimp only [Pt.U, Pt.locs, Pt.cells, Pt.slots] at X49 l49 y49 z49 hQ49 ⊢
   subst l49 y49 z49
   obtain ⟨rfl, N49q, e49⟩ := hQ49
   have N50 := Fr.app N45 N49q
   show Runs _ _ _ _ (T49.setTop (mkF m 48 #[.val (.ref a0), .val (.ref a1), .val (.int (0 : Int32)), .val (.int (4 : Int32)), .val .null, .val (.ref t_22)] [(.int (1 : Int32)), (.ref a0)]))
   have f51 : Exa Z T22.heap a0 kc0 := (E_a0.keep K22)
   have f52 : Fld Z T22.heap a0 kc0 "coder" "B" (.int (0 : Int32)) := (zz13.keep K22 nin0)
   refine w_putF X49 hx "" hZ hown (Or.inl (wd_26 hw)) Via.refl e49 f52 f51 (Or.inr ⟨(wd_22 hw), rfl, hnm⟩) (wd_7 hw) (ty := .byte) (by decide) rfl rfl (d3_48 hby) (pc' := 51) rfl ?_
   intro T53 h53 X53 e53 W53
   have f54 : Fld Z h53 a0 kc0 "coder" "B" (.int (1 : Int32)) := f52.same W53
   have K55 : Keep h0 h53 [a0] := K46.wr W53 (Or.inl (by simp))
   have N56 := Fr.snoc X53 N50 zz14
   refine w_aloadN X53 hx (d3_51 hby) rfl rfl (pc' := 52) rfl ?_
   refine w_aload X53 hx (d3_52 hby) rfl rfl (pc' := 54) rfl ?_
   have f57 : Exa Z h53 a0 kc0 := (f51.wr W53)
   have f58 : Fld Z h53 a0 kc0 "value" "[B" .null := ((zz15.keep K22 nin0).other W53 (Or.inr (slot_ne (Or.inr (wd_21 hw)) (Or.inr (wd_22 hw)) (by decide) (t := (.array .byte)) (t' := .byte) (by decide) (by decide))))
   refine w_putF X53 hx "" hZ hown (Or.inl (wd_25 hw)) Via.refl e53 f58 f57 (Or.inr ⟨(wd_21 hw), rfl, hnm⟩) (wd_7 hw) (ty := (.array .byte)) (by decide) rfl rfl (d3_54 hby) (pc' := 57) rfl ?_
   intro T59 h59 X59 e59 W59
   have f60 : Fld Z h59 a0 kc0 "value" "[B" (.ref t_22) := f58.same W59
   have K61 : Keep h0 h59 [a0] := K55.wr W59 (Or.inl (by simp))
   have N62 := Fr.snoc X59 N56 zz14
   have f64 : Exa Z h59 a0 kc0 := (f57.wr W59)
   have f65 : Fld Z h59 a0 kc0 "coder" "B" (.int (1 : Int32)) := (f54.other W59 (Or.inr (slot_ne (Or.inr (wd_22 hw)) (Or.inr (wd_21 hw)) (by decide) (t := .byte) (t' := (.array .byte)) (by decide) (by decide))))
   have ne66 : a0 ≠ t_22 := (Nat.ne_of_lt (Nat.lt_of_lt_of_le E_a0.lt (Nat.le_trans (Nat.le_refl _) g22_0)))
   have f67 : Arv Z h59 t_22 kb_22 .byte (8 : Int32) [(.int ((jj1 >>> ((0 : Int32) &&& 31)).toInt8.toInt32)), (.int ((jj1 >>> ((8 : Int32) &&& 31)).toInt8.toInt32)), (.int ((jj2 >>> ((0 : Int32) &&& 31)).toInt8.toInt32)), (.int ((jj2 >>> ((8 : Int32) &&& 31)).toInt8.toInt32)), (.int ((jj3 >>> ((0 : Int32) &&& 31)).toInt8.toInt32)), (.int ((jj3 >>> ((8 : Int32) &&& 31)).toInt8.toInt32)), (.int ((jj4 >>> ((0 : Int32) &&& 31)).toInt8.toInt32)), (.int ((jj4 >>> ((8 : Int32) &&& 31)).toInt8.toInt32))] (.int (0 : Int32)) := ((g22_1.other W53 (Ne.symm ne66)).other W59 (Ne.symm ne66))
   exact w_done X59 hlk (v := none) e59 (fun _ => rfl) (fun fs hr => X59.returnOut hx hret (d3_57 hby) hr) (by decide) (by decide) (Or.inr (⟨t_22, kb_22, rfl, N62, K61, f64, f65, f60, sz48, f67, g22_2⟩))
theorem ef_m2_43 (m : MethodId) (a0 : Addr) (a1 : Addr)  : entryFrame m #[(.ref a0), (.ref a1)] 2 = mkF m 0 #[.val (.ref a0), .val (.ref a1)] [] := by first | (simp [entryFrame, mkF, argsToLocals, Value.category]; done) | rfl
def Q_m2_43 (Z : State) (a0 : Addr) (a1 : Addr) (k_a1 : ClassId) (jj0 : Int32) (jj1 : Int32) (jj2 : Int32) (jj3 : Int32) (jj4 : Int32) (h0 : Heap) (n0 : Nat) (v : Option Value) (h : Heap) (L : List Loc) : Prop := (∃ (t : Addr) (kb : ClassId), v = none ∧ Fr n0 L ∧ Keep h0 h [a0] ∧ Exa Z h a0 kc0 ∧ Fld Z h a0 kc0 "coder" "B" (.int (0 : Int32)) ∧ Fld Z h a0 kc0 "value" "[B" (.ref t) ∧ h0.size ≤ t ∧ Arv Z h t kb .byte (4 : Int32) [(.int (jj0.toInt8.toInt32)), (.int (jj1.toInt8.toInt32)), (.int (jj2.toInt8.toInt32)), (.int (jj3.toInt8.toInt32))] (.int (0 : Int32)) ∧ ¬ ((255 : Int32) < jj0) ∧ ¬ ((255 : Int32) < jj1) ∧ ¬ ((255 : Int32) < jj2) ∧ ¬ ((255 : Int32) < jj3)) ∨ (∃ (t : Addr) (kb : ClassId), v = none ∧ Fr n0 L ∧ Keep h0 h [a0] ∧ Exa Z h a0 kc0 ∧ Fld Z h a0 kc0 "coder" "B" (.int (1 : Int32)) ∧ Fld Z h a0 kc0 "value" "[B" (.ref t) ∧ h0.size ≤ t ∧ Arv Z h t kb .byte (8 : Int32) [(.int ((jj0 >>> ((0 : Int32) &&& 31)).toInt8.toInt32)), (.int ((jj0 >>> ((8 : Int32) &&& 31)).toInt8.toInt32)), (.int ((jj1 >>> ((0 : Int32) &&& 31)).toInt8.toInt32)), (.int ((jj1 >>> ((8 : Int32) &&& 31)).toInt8.toInt32)), (.int ((jj2 >>> ((0 : Int32) &&& 31)).toInt8.toInt32)), (.int ((jj2 >>> ((8 : Int32) &&& 31)).toInt8.toInt32)), (.int ((jj3 >>> ((0 : Int32) &&& 31)).toInt8.toInt32)), (.int ((jj3 >>> ((8 : Int32) &&& 31)).toInt8.toInt32))] (.int (0 : Int32)) ∧ ((255 : Int32) < jj0 ∨ (255 : Int32) < jj1 ∨ (255 : Int32) < jj2 ∨ (255 : Int32) < jj3))
theorem rm_m2_43 (l : Launch) (Z : State) (aZ : Array Value) (hw : ∀ d ∈ tables_1, d.before aZ Z = true) (ws : List Jvm.Cond) (a0 : Addr) (a1 : Addr) (k_a1 : ClassId) (jj0 : Int32) (jj1 : Int32) (jj2 : Int32) (jj3 : Int32) (jj4 : Int32) (h0 : Heap) (n0 : Nat) (Z0 : n0 ≤ h0.size) (V_a1 : Arv Z h0 a1 k_a1 .char (4 : Int32) [(.int jj0), (.int jj1), (.int jj2), (.int jj3)] (.int (0 : Int32))) (hP_1 : ¬ (jj4 = (0 : Int32))) (zz5 : nar .char jj0 = jj0) (zz6 : nar .char jj1 = jj1) (zz7 : nar .char jj2 = jj2) (zz8 : nar .char jj3 = jj3) (E_a0 : Exa Z h0 a0 kc0) (zz9 : Fld Z h0 a0 kc0 "coder" "B" (.int (0 : Int32))) (zz10 : Fld Z h0 a0 kc0 "value" "[B" .null) (zz11 : Sta Z Z.heap kc0 "COMPACT_STRINGS" "Z" (.int jj4)) (O0 : Old Z n0 h0) (zz12 : Sta Z Z.heap kc1 "$assertionsDisabled" "Z" (.int (1 : Int32))) (zz13 : Sta Z Z.heap kc1 "HI_BYTE_SHIFT" "I" (.int (0 : Int32))) (zz14 : Sta Z Z.heap kc1 "LO_BYTE_SHIFT" "I" (.int (8 : Int32))) (zz15 : n0 ≤ a0) :
    MetN l Z yn_2 jdk_42_method_3_code 2 none ws ({ frames := 5, cells := 2, slots := 12, locals := 74 } : Room) #[(.ref a0), (.ref a1)] h0 (Q_m2_43 Z a0 a1 k_a1 jj0 jj1 jj2 jj3 jj4 h0 n0) := by
 refine MetN.of (plainFor_of_name pn_0) ?_
 intro p e s m below meth c s₁ hret hx hby hml hown hnm hlk hZ X0 e0
 have N0 := Fr.nil n0
 rw [ef_m2_43 m a0 a1]
 refine w_aloadN X0 hx (d2_0 hby) rfl rfl (pc' := 1) rfl ?_
 refine w_aloadN X0 hx (d2_1 hby) rfl rfl (pc' := 2) rfl ?_
 refine w_iconst X0 hx (d2_2 hby) (v := (0 : Int32)) rfl (pc' := 3) rfl ?_
 refine w_aloadN X0 hx (d2_3 hby) rfl rfl (pc' := 4) rfl ?_
 refine w_alen X0 hx hZ e0 V_a1 (d2_4 hby) (pc' := 5) rfl ?_
 refine w_null X0 hx (d2_5 hby) (pc' := 6) rfl ?_
 refine w_special X0 hx (y := yn_3) rfl hown (mvT hZ (wd_12 hw)) (mvT hZ (wd_13 hw)) (mvT hZ (wd_15 hw)) (by decide) (backOf (W := 0) (rm_m3_44 l Z aZ hw [] a0 a1 jj4 k_a1 jj0 jj1 jj2 jj3 h0 n0 Z0 zz11 O0 hP_1 V_a1 zz5 zz6 zz7 zz8 zz12 zz13 zz14 E_a0 zz9 zz15 zz10) hZ (wd_15 hw) (wd_8 hw) (by decide) (by decide)) (by rw [hml]; rfl) [(.ref a1), (.int (0 : Int32)), (.int (4 : Int32)), .null] (lenOf pd_0 rfl) rfl (Nat.le_of_eq rfl) (d2_6 hby) (fun _ _ => ⟨rfl, e0, (by decide : 0 + 2 ≤ _), (by decide : 0 + 12 ≤ _)⟩) (pc' := 9) rfl ?_
 rintro _ _ ⟨T20, L20, k20, n20⟩ X20 ⟨Lc20, hQ20, l20, y20, z20⟩
 dsimp only [Pt.U, Pt.locs, Pt.cells, Pt.slots] at X20 l20 y20 z20 hQ20 ⊢
 subst l20 y20 z20
 rcases hQ20 with ⟨t_20, kb_20, rfl, N20q, K20, g20_0, g20_1, g20_2, g20_3, g20_4, g20_5, g20_6, g20_7, g20_8⟩ | ⟨t_20, kb_20, rfl, N20q, K20, g20_0, g20_1, g20_2, g20_3, g20_4, g20_5⟩
 · have N21 := Fr.app N0 N20q
   have K22 : Keep h0 T20.heap [a0] := (Keep.refl h0 [a0]).trans K20 (allS (Or.inl (by simp)) (all0 (P := fun x => x ∈ [a0] ∨ h0.size ≤ x)))
   have ge23 : n0 ≤ t_20 := Nat.le_trans Z0 g20_3
   have sz24 : h0.size ≤ t_20 := Nat.le_trans (Nat.le_refl _) g20_3
   show Runs _ _ _ _ (T20.setTop (mkF m 9 #[.val (.ref a0), .val (.ref a1)] []))
   exact w_done X20 hlk (v := none) rfl (fun _ => rfl) (fun fs hr => X20.returnOut hx hret (d2_9 hby) hr) (by decide) (by decide) (Or.inl ⟨t_20, kb_20, rfl, N21, K22, g20_0, g20_1, g20_2, sz24, g20_4, g20_5, g20_6, g20_7, g20_8⟩)
 · have N25 := Fr.app N0 N20q
   have K26 : Keep h0 T20.heap [a0] := (Keep.refl h0 [a0]).trans K20 (allS (Or.inl (by simp)) (all0 (P := fun x => x ∈ [a0] ∨ h0.size ≤ x)))
   have ge27 : n0 ≤ t_20 := Nat.le_trans Z0 g20_3
   have sz28 : h0.size ≤ t_20 := Nat.le_trans (Nat.le_refl _) g20_3
   show Runs _ _ _ _ (T20.setTop (mkF m 9 #[.val (.ref a0), .val (.ref a1)] []))
   exact w_done X20 hlk (v := none) rfl (fun _ => rfl) (fun fs hr => X20.returnOut hx hret (d2_9 hby) hr) (by decide) (by decide) (Or.inr (⟨t_20, kb_20, rfl, N25, K26, g20_0, g20_1, g20_2, sz28, g20_4, g20_5⟩))
theorem ef_m1_3 (m : MethodId) (p0 : Int32) (p1 : Int32) (p2 : Int32) (p3 : Int32) (p4 : Int32)  : entryFrame m #[(.int p0), (.int p1), (.int p2), (.int p3), (.int p4)] 5 = mkF m 0 #[.val (.int p0), .val (.int p1), .val (.int p2), .val (.int p3), .val (.int p4)] [] := by first | (simp [entryFrame, mkF, argsToLocals, Value.category]; done) | rfl
def Q_m1_3 (Z : State) (p0 : Int32) (p1 : Int32) (p2 : Int32) (p3 : Int32) (p4 : Int32) (jj0 : Int32) (h0 : Heap) (n0 : Nat) (v : Option Value) (h : Heap) (L : List Loc) (S : Addr → Prop) : Prop := (∃ (r : Addr) (t : Addr) (kb : ClassId), v = some (.ref r) ∧ Fr n0 L ∧ Keep h0 h [] ∧ h0.size ≤ r ∧ S r ∧ Exa Z h r kc0 ∧ Fld Z h r kc0 "coder" "B" (.int (0 : Int32)) ∧ Fld Z h r kc0 "value" "[B" (.ref t) ∧ Arv Z h t kb .byte p0 (mI (lowL (cl4 p0 p1 p2 p3 p4))) (.int (0 : Int32)) ∧ (∀ x ∈ (cl4 p0 p1 p2 p3 p4), ¬ (255 : Int32) < x)) ∨ (∃ (r : Addr) (t : Addr) (kb : ClassId), v = some (.ref r) ∧ Fr n0 L ∧ Keep h0 h [] ∧ h0.size ≤ r ∧ S r ∧ Exa Z h r kc0 ∧ Fld Z h r kc0 "coder" "B" (.int (1 : Int32)) ∧ Fld Z h r kc0 "value" "[B" (.ref t) ∧ Arv Z h t kb .byte (p0 <<< ((1 : Int32) &&& 31)) (mI (utfL (cl4 p0 p1 p2 p3 p4))) (.int (0 : Int32)))
theorem rm_m1_3 (l : Launch) (Z : State) (aZ : Array Value) (hw : ∀ d ∈ tables_1, d.before aZ Z = true) (ws : List Jvm.Cond) (p0 : Int32) (p1 : Int32) (p2 : Int32) (p3 : Int32) (p4 : Int32) (jj0 : Int32) (h0 : Heap) (n0 : Nat) (Z0 : n0 ≤ h0.size) (zz1 : nar .char p1 = p1) (zz2 : Sta Z Z.heap kc0 "COMPACT_STRINGS" "Z" (.int jj0)) (O0 : Old Z n0 h0) (zz3 : Sta Z Z.heap kc1 "$assertionsDisabled" "Z" (.int (1 : Int32))) (zz4 : Sta Z Z.heap kc1 "HI_BYTE_SHIFT" "I" (.int (0 : Int32))) (zz5 : Sta Z Z.heap kc1 "LO_BYTE_SHIFT" "I" (.int (8 : Int32))) (hP_6 : ¬ (jj0 = (0 : Int32))) (zz6 : nar .char p2 = p2) (zz7 : nar .char p3 = p3) (zz8 : nar .char p4 = p4) (zz9 : p0 < (5 : Int32)) (zz10 : ¬ (p0 < (0 : Int32))) :
    MetH l Z EL yn_1 method_2_code 5 (some (.object kc0)) ws ({ frames := 6, cells := 6, slots := 20, locals := 88 } : Room) #[(.int p0), (.int p1), (.int p2), (.int p3), (.int p4)] h0 (Q_m1_3 Z p0 p1 p2 p3 p4 jj0 h0 n0) [] := by
 refine MetH.of (plainFor_of_name pn_2) ?_
 intro p e s m below meth c s₁ hret hx hby hml hown hnm hlk hZ X0 e0 hh hH hsf hS0 C0
 have N0 := Fr.nil n0
 rw [ef_m1_3 m p0 p1 p2 p3 p4]
 refine w_iloadN X0 hx (d1_0 hby) rfl (pc' := 1) rfl ?_
 by_cases hc20 : p0 = (0 : Int32)
 · refine w_ifN X0 hx (d1_1 hby) (teq hc20).2 (pc' := 4) rfl ?_
   refine w_new X0 hx hZ hown (wd_6 hw) (wd_7 hw) (wd_8 hw) e0 (d1_4 hby) (by decide) (by decide) (pc' := 7) rfl ?_
   intro T21 h21 b21 X21 e21 E21 g21 A21 D21
   have ge22 : n0 ≤ b21 := Nat.le_trans Z0 (Nat.le_of_eq g21.symm)
   have sz23 : h0.size ≤ b21 := Nat.le_trans (Nat.le_refl _) (Nat.le_of_eq g21.symm)
   have C24 : CHr Z EL s.vm h0 s.vm h21 := C0.trans (CHr.ext E21 C0.1)
   have K25 : Keep h0 h21 [] := (Keep.refl h0 []).ext E21
   have f26 : Fld Z h21 b21 kc0 "value" "[B" .null := D21 (Or.inr (wd_21 hw)) (ty := (.array .byte)) (by decide)
   have f27 : Fld Z h21 b21 kc0 "coder" "B" (.int (0 : Int32)) := D21 (Or.inr (wd_22 hw)) (ty := .byte) (by decide)
   refine w_dup X21 hx (d1_7 hby) rfl (pc' := 8) rfl ?_
   refine w_iconst X21 hx (d1_8 hby) (v := (0 : Int32)) rfl (pc' := 9) rfl ?_
   refine w_newP X21 hx .char .char 0 rfl hZ (wd_1 hw) e21 (d1_9 hby) (by decide) (by decide) (by decide) (by decide) (by decide) (pc' := 11) rfl ?_
   intro T28 h28 k28 b28 X28 e28 E28 g28 A28
   have ge29 : n0 ≤ b28 := Nat.le_trans (Nat.le_trans Z0 E21.1) (Nat.le_of_eq g28.symm)
   have sz30 : h0.size ≤ b28 := Nat.le_trans E21.1 (Nat.le_of_eq g28.symm)
   have C31 : CHr Z EL s.vm h0 s.vm h28 := C24.trans (CHr.ext E28 C24.1)
   have K32 : Keep h0 h28 [] := K25.ext E28
   have V33 : Arv Z h28 b28 k28 .char (0 : Int32) [] (.int (0 : Int32)) := (Arv.new A28 (by decide)).pad (pad_rep [] (.int (0 : Int32)) 0)
   have f34 : Exa Z h28 b21 kc0 := (A21.ext E28)
   have f35 : Fld Z h28 b21 kc0 "value" "[B" .null := (f26.ext E28)
   have f36 : Fld Z h28 b21 kc0 "coder" "B" (.int (0 : Int32)) := (f27.ext E28)
   have le37 : h0.size ≤ h28.size := (Nat.le_trans E21.1 E28.1)
   have y39 : Safe Z EL s.vm h28 b21 := (Safe.ext E28 C24.1 (Safe.ext E21 C0.1 (Safe.new (Nat.le_of_eq g21.symm))))
   refine w_specialS X28 hx (y := yn_2) rfl hown (mvT hZ (wd_9 hw)) (mvT hZ (wd_10 hw)) (mvT hZ (wd_11 hw)) (by decide) (backOfY (W := 1) (rm_m2_5 l Z aZ hw [] b21 b28 k28 h28 n0 (Nat.le_trans Z0 le37) V33 f34 f35 f36 ge22) hZ (wd_11 hw) (wd_8 hw) (by decide) (by decide) (own_EW hw) C31.1 (sfS y39 sf0) (allS (Nat.lt_of_lt_of_le A21.lt E28.1) all0)) (by rw [hml]; rfl) [(.ref b28)] (lenOf pd_1 rfl) rfl (Nat.le_of_eq rfl) (d1_11 hby) (fun _ _ => ⟨rfl, e28, (by decide : 2 + 4 ≤ _), (by decide : 4 + 8 ≤ _)⟩) (pc' := 14) rfl ?_
   rintro _ _ ⟨T38, L38, k38, n38⟩ XX38 hSS38 hg38 ⟨Lc38, hQ38, l38, y38, z38, A38⟩
   dsimp only [Pt.U, Pt.locs, Pt.cells, Pt.slots] at XX38 l38 y38 z38 hQ38 hSS38 hg38 A38 ⊢
   subst l38 y38 z38
   obtain ⟨X38, hS38, hZ38, hown38⟩ := rebS hS0 (Nat.le_trans (Nat.le_refl _) le37) XX38 hSS38 (e28 ▸ hg38) hZ hown
   obtain ⟨r0_38, c0_38, rfl, N38q, K38, g38_0, g38_1, g38_2, g38_3⟩ := hQ38
   have N40 := Fr.app N0 N38q
   have C41 : CHr Z EL s.vm h0 T38.vm T38.heap := C31.trans A38
   have K42 : Keep h0 T38.heap [] := K32.trans K38 (allS (Or.inr sz23) (all0 (P := fun x => x ∈ [] ∨ h0.size ≤ x)))
   show Runs _ _ _ _ (T38.setTop (mkF m 14 #[.val (.int p0), .val (.int p1), .val (.int p2), .val (.int p3), .val (.int p4)] [(.ref b21)]))
   have y43 : Safe Z EL T38.vm T38.heap b21 := (CHr.safe A38 (Nat.lt_of_lt_of_le A21.lt E28.1) y39)
   have le44 : h21.size ≤ T38.heap.size := (Nat.le_trans E28.1 K38.1)
   exact w_doneH X38 hlk (v := some (.ref b21)) rfl hh hZ38 (own_EW hw) hS38 (Nat.le_refl _) C41 (fun h => by rw [hret] at h; cases h) (fun fs hr => retOut X38 hx hret rfl (Or.inr (Or.inr (Or.inr (Or.inr ⟨rfl, rfl, rfl⟩)))) (d1_14 hby) hr) (by decide) (by decide) (fun hsy => Or.inl ⟨b21, r0_38, c0_38, rfl, N40, K42, sz23, (hsy _ (Nat.lt_of_lt_of_le A21.lt le44) y43), g38_1, g38_3, g38_2, (by rw [hc20, own_cl4_0]; exact g38_0), (by rw [hc20, own_cl4_0]; exact (fun _ h => nomatch h))⟩)
 · refine w_ifY X0 hx (d1_1 hby) (feq hc20).2 (pc' := 15) (by decide) (by decide) ?_
   refine w_iloadN X0 hx (d1_15 hby) rfl (pc' := 16) rfl ?_
   refine w_iconst X0 hx (d1_16 hby) (v := (1 : Int32)) rfl (pc' := 17) rfl ?_
   by_cases hc45 : p0 = (1 : Int32)
   · refine w_icN X0 hx (d1_17 hby) (teq hc45).2 (pc' := 20) rfl ?_
     refine w_new X0 hx hZ hown (wd_6 hw) (wd_7 hw) (wd_8 hw) e0 (d1_20 hby) (by decide) (by decide) (pc' := 23) rfl ?_
     intro T46 h46 b46 X46 e46 E46 g46 A46 D46
     have ge47 : n0 ≤ b46 := Nat.le_trans Z0 (Nat.le_of_eq g46.symm)
     have sz48 : h0.size ≤ b46 := Nat.le_trans (Nat.le_refl _) (Nat.le_of_eq g46.symm)
     have C49 : CHr Z EL s.vm h0 s.vm h46 := C0.trans (CHr.ext E46 C0.1)
     have K50 : Keep h0 h46 [] := (Keep.refl h0 []).ext E46
     have f51 : Fld Z h46 b46 kc0 "value" "[B" .null := D46 (Or.inr (wd_21 hw)) (ty := (.array .byte)) (by decide)
     have f52 : Fld Z h46 b46 kc0 "coder" "B" (.int (0 : Int32)) := D46 (Or.inr (wd_22 hw)) (ty := .byte) (by decide)
     refine w_dup X46 hx (d1_23 hby) rfl (pc' := 24) rfl ?_
     refine w_iconst X46 hx (d1_24 hby) (v := (1 : Int32)) rfl (pc' := 25) rfl ?_
     refine w_newP X46 hx .char .char 1 rfl hZ (wd_1 hw) e46 (d1_25 hby) (by decide) (by decide) (by decide) (by decide) (by decide) (pc' := 27) rfl ?_
     intro T53 h53 k53 b53 X53 e53 E53 g53 A53
     have ge54 : n0 ≤ b53 := Nat.le_trans (Nat.le_trans Z0 E46.1) (Nat.le_of_eq g53.symm)
     have sz55 : h0.size ≤ b53 := Nat.le_trans E46.1 (Nat.le_of_eq g53.symm)
     have C56 : CHr Z EL s.vm h0 s.vm h53 := C49.trans (CHr.ext E53 C49.1)
     have K57 : Keep h0 h53 [] := K50.ext E53
     have V58 : Arv Z h53 b53 k53 .char (1 : Int32) [(.int (0 : Int32))] (.int (0 : Int32)) := (Arv.new A53 (by decide)).pad (pad_rep [] (.int (0 : Int32)) 1)
     refine w_dup X53 hx (d1_27 hby) rfl (pc' := 28) rfl ?_
     refine w_iconst X53 hx (d1_28 hby) (v := (0 : Int32)) rfl (pc' := 29) rfl ?_
     refine w_iloadN X53 hx (d1_29 hby) rfl (pc' := 30) rfl ?_
     obtain ⟨clu59, Aru59, qu59, Su59, Nu59, Hu59, Gu59⟩ := id V58
     have hinu59 := inb_of (j := (0 : Int32)) Su59 ⟨by decide, by decide⟩
     refine w_stC X53 hx hZ e53 Aru59 hinu59 (d1_30 hby) (pc' := 31) rfl ?_
     intro T60 h60 X60 e60 W60
     have C61 : CHr Z EL s.vm h0 s.vm h60 := C56.trans (CHr.wr W60 (Safe.arv hZ.alike V58 (by decide)) C56.1)
     have V62 : Arv Z h60 b53 k53 .char (1 : Int32) [(.int (nar .char p1))] (.int (0 : Int32)) := Arv.set Aru59 qu59 Su59 Nu59 Hu59 Gu59 (fits_nar_char _) W60 0 rfl (Nat.le_of_ble_eq_true rfl)
     have V63 : Arv Z h60 b53 k53 .char (1 : Int32) [(.int p1)] (.int (0 : Int32)) := by rw [zz1] at V62; exact V62
     have K64 : Keep h0 h60 [] := K57.wr W60 (Or.inr sz55)
     have N65 := Fr.snoc X60 N0 ge54
     have f66 : Exa Z h60 b46 kc0 := ((A46.ext E53).wr W60)
     have ne67 : b46 ≠ b53 := (Nat.ne_of_lt (Nat.lt_of_lt_of_le A46.lt (Nat.le_trans (Nat.le_refl _) (Nat.le_of_eq g53.symm))))
     have f68 : Fld Z h60 b46 kc0 "coder" "B" (.int (0 : Int32)) := ((f52.ext E53).other W60 (Or.inl ne67))
     have f69 : Fld Z h60 b46 kc0 "value" "[B" .null := ((f51.ext E53).other W60 (Or.inl ne67))
     have f70 : Old Z n0 h60 := (((O0.ext E46).ext E53).wr W60 ge54)
     have le71 : h0.size ≤ h53.size := (Nat.le_trans E46.1 E53.1)
     have le72 : h0.size ≤ h60.size := (Nat.le_trans le71 (Keep.of_wr W60).1)
     refine w_special X60 hx (y := yn_2) rfl hown (mvT hZ (wd_9 hw)) (mvT hZ (wd_10 hw)) (mvT hZ (wd_11 hw)) (by decide) (backOf (W := 1) (rm_m2_7 l Z aZ hw [] b46 b53 k53 p1 jj0 h60 n0 (Nat.le_trans Z0 le72) V63 hP_6 zz1 f66 f68 f69 zz2 f70 zz3 zz4 zz5 ge47) hZ (wd_11 hw) (wd_8 hw) (by decide) (by decide)) (by rw [hml]; rfl) [(.ref b53)] (lenOf pd_1 rfl) rfl (Nat.le_of_eq rfl) (d1_31 hby) (fun _ _ => ⟨rfl, e60, (by decide : 2 + 2 ≤ _), (by decide : 5 + 3 ≤ _)⟩) (pc' := 34) rfl ?_
     rintro _ _ ⟨T73, L73, k73, n73⟩ X73 ⟨Lc73, hQ73, l73, y73, z73⟩
     dsimp only [Pt.U, Pt.locs, Pt.cells, Pt.slots] at X73 l73 y73 z73 hQ73 ⊢
     subst l73 y73 z73
     rcases hQ73 with ⟨t_73, kb_73, rfl, N73q, K73, g73_0, g73_1, g73_2, g73_3, g73_4, g73_5⟩ | ⟨t_73, kb_73, rfl, N73q, K73, g73_0, g73_1, g73_2, g73_3, g73_4, g73_5⟩
     · have N74 := Fr.app N65 N73q
       have y75 : Safe Z EL s.vm h60 b46 := (Safe.wr W60 (Safe.arv hZ.alike V58 (by decide)) C56.1 (Safe.ext E53 C49.1 (Safe.ext E46 C0.1 (Safe.new (Nat.le_of_eq g46.symm)))))
       have C76 : CHr Z EL s.vm h0 s.vm T73.heap := C61.trans (CHr.keep K73 (sfS y75 sf0) C61.1)
       have K77 : Keep h0 T73.heap [] := K64.trans K73 (allS (Or.inr sz48) (all0 (P := fun x => x ∈ [] ∨ h0.size ≤ x)))
       have ge78 : n0 ≤ t_73 := Nat.le_trans (Nat.le_trans Z0 le72) g73_3
       have sz79 : h0.size ≤ t_73 := Nat.le_trans le72 g73_3
       show Runs _ _ _ _ (T73.setTop (mkF m 34 #[.val (.int p0), .val (.int p1), .val (.int p2), .val (.int p3), .val (.int p4)] [(.ref b46)]))
       have y80 : Safe Z EL s.vm T73.heap b46 := (Safe.keep K73 (sfS y75 sf0) C61.1 y75)
       have le81 : h46.size ≤ h60.size := (Nat.le_trans E53.1 (Keep.of_wr W60).1)
       have le82 : h46.size ≤ T73.heap.size := (Nat.le_trans le81 K73.1)
       have le83 : h0.size ≤ T73.heap.size := (Nat.le_trans le72 K73.1)
       exact w_doneH X73 hlk (v := some (.ref b46)) rfl hh hZ (own_EW hw) hS0 (Nat.le_trans (Nat.le_refl _) le83) C76 (fun h => by rw [hret] at h; cases h) (fun fs hr => retOut X73 hx hret rfl (Or.inr (Or.inr (Or.inr (Or.inr ⟨rfl, rfl, rfl⟩)))) (d1_34 hby) hr) (by decide) (by decide) (fun hsy => Or.inl ⟨b46, t_73, kb_73, rfl, N74, K77, sz48, (hsy _ (Nat.lt_of_lt_of_le A46.lt le82) y80), g73_0, g73_1, g73_2, (by rw [hc45, own_cl4_1]; exact g73_4), (by rw [hc45, own_cl4_1]; exact (List.forall_mem_cons.2 ⟨g73_5, (fun _ h => nomatch h)⟩))⟩)
     · have N84 := Fr.app N65 N73q
       have y85 : Safe Z EL s.vm h60 b46 := (Safe.wr W60 (Safe.arv hZ.alike V58 (by decide)) C56.1 (Safe.ext E53 C49.1 (Safe.ext E46 C0.1 (Safe.new (Nat.le_of_eq g46.symm)))))
       have C86 : CHr Z EL s.vm h0 s.vm T73.heap := C61.trans (CHr.keep K73 (sfS y85 sf0) C61.1)
       have K87 : Keep h0 T73.heap [] := K64.trans K73 (allS (Or.inr sz48) (all0 (P := fun x => x ∈ [] ∨ h0.size ≤ x)))
       have ge88 : n0 ≤ t_73 := Nat.le_trans (Nat.le_trans Z0 le72) g73_3
       have sz89 : h0.size ≤ t_73 := Nat.le_trans le72 g73_3
       show Runs _ _ _ _ (T73.setTop (mkF m 34 #[.val (.int p0), .val (.int p1), .val (.int p2), .val (.int p3), .val (.int p4)] [(.ref b46)]))
       have y93 : Safe Z EL s.vm T73.heap b46 := (Safe.keep K73 (sfS y85 sf0) C61.1 y85)
       have le94 : h46.size ≤ h60.size := (Nat.le_trans E53.1 (Keep.of_wr W60).1)
       have le95 : h46.size ≤ T73.heap.size := (Nat.le_trans le94 K73.1)
       have le96 : h0.size ≤ T73.heap.size := (Nat.le_trans le72 K73.1)
       exact w_doneH X73 hlk (v := some (.ref b46)) rfl hh hZ (own_EW hw) hS0 (Nat.le_trans (Nat.le_refl _) le96) C86 (fun h => by rw [hret] at h; cases h) (fun fs hr => retOut X73 hx hret rfl (Or.inr (Or.inr (Or.inr (Or.inr ⟨rfl, rfl, rfl⟩)))) (d1_34 hby) hr) (by decide) (by decide) (fun hsy => Or.inr (⟨b46, t_73, kb_73, rfl, N84, K87, sz48, (hsy _ (Nat.lt_of_lt_of_le A46.lt le95) y93), g73_0, g73_1, g73_2, (by rw [hc45, own_cl4_1]; exact g73_4)⟩))
   · refine w_icY X0 hx (d1_17 hby) (feq hc45).2 (pc' := 35) (by decide) (by decide) ?_
     refine w_iloadN X0 hx (d1_35 hby) rfl (pc' := 36) rfl ?_
     refine w_iconst X0 hx (d1_36 hby) (v := (2 : Int32)) rfl (pc' := 37) rfl ?_
     by_cases hc97 : p0 = (2 : Int32)
     · refine w_icN X0 hx (d1_37 hby) (teq hc97).2 (pc' := 40) rfl ?_
       refine w_new X0 hx hZ hown (wd_6 hw) (wd_7 hw) (wd_8 hw) e0 (d1_40 hby) (by decide) (by decide) (pc' := 43) rfl ?_
       intro T98 h98 b98 X98 e98 E98 g98 A98 D98
       have ge99 : n0 ≤ b98 := Nat.le_trans Z0 (Nat.le_of_eq g98.symm)
       have sz100 : h0.size ≤ b98 := Nat.le_trans (Nat.le_refl _) (Nat.le_of_eq g98.symm)
       have C101 : CHr Z EL s.vm h0 s.vm h98 := C0.trans (CHr.ext E98 C0.1)
       have K102 : Keep h0 h98 [] := (Keep.refl h0 []).ext E98
       have f103 : Fld Z h98 b98 kc0 "value" "[B" .null := D98 (Or.inr (wd_21 hw)) (ty := (.array .byte)) (by decide)
       have f104 : Fld Z h98 b98 kc0 "coder" "B" (.int (0 : Int32)) := D98 (Or.inr (wd_22 hw)) (ty := .byte) (by decide)
       refine w_dup X98 hx (d1_43 hby) rfl (pc' := 44) rfl ?_
       refine w_iconst X98 hx (d1_44 hby) (v := (2 : Int32)) rfl (pc' := 45) rfl ?_
       refine w_newP X98 hx .char .char 2 rfl hZ (wd_1 hw) e98 (d1_45 hby) (by decide) (by decide) (by decide) (by decide) (by decide) (pc' := 47) rfl ?_
       intro T105 h105 k105 b105 X105 e105 E105 g105 A105
       have ge106 : n0 ≤ b105 := Nat.le_trans (Nat.le_trans Z0 E98.1) (Nat.le_of_eq g105.symm)
       have sz107 : h0.size ≤ b105 := Nat.le_trans E98.1 (Nat.le_of_eq g105.symm)
       have C108 : CHr Z EL s.vm h0 s.vm h105 := C101.trans (CHr.ext E105 C101.1)
       have K109 : Keep h0 h105 [] := K102.ext E105
       have V110 : Arv Z h105 b105 k105 .char (2 : Int32) [(.int (0 : Int32)), (.int (0 : Int32))] (.int (0 : Int32)) := (Arv.new A105 (by decide)).pad (pad_rep [] (.int (0 : Int32)) 2)
       refine w_dup X105 hx (d1_47 hby) rfl (pc' := 48) rfl ?_
       refine w_iconst X105 hx (d1_48 hby) (v := (0 : Int32)) rfl (pc' := 49) rfl ?_
       refine w_iloadN X105 hx (d1_49 hby) rfl (pc' := 50) rfl ?_
       obtain ⟨clu111, Aru111, qu111, Su111, Nu111, Hu111, Gu111⟩ := id V110
       have hinu111 := inb_of (j := (0 : Int32)) Su111 ⟨by decide, by decide⟩
       refine w_stC X105 hx hZ e105 Aru111 hinu111 (d1_50 hby) (pc' := 51) rfl ?_
       intro T112 h112 X112 e112 W112
       have C113 : CHr Z EL s.vm h0 s.vm h112 := C108.trans (CHr.wr W112 (Safe.arv hZ.alike V110 (by decide)) C108.1)
       have V114 : Arv Z h112 b105 k105 .char (2 : Int32) [(.int (nar .char p1)), (.int (0 : Int32))] (.int (0 : Int32)) := Arv.set Aru111 qu111 Su111 Nu111 Hu111 Gu111 (fits_nar_char _) W112 0 rfl (Nat.le_of_ble_eq_true rfl)
       have V115 : Arv Z h112 b105 k105 .char (2 : Int32) [(.int p1), (.int (0 : Int32))] (.int (0 : Int32)) := by rw [zz1] at V114; exact V114
       have K116 : Keep h0 h112 [] := K109.wr W112 (Or.inr sz107)
       have N117 := Fr.snoc X112 N0 ge106
       refine w_dup X112 hx (d1_51 hby) rfl (pc' := 52) rfl ?_
       refine w_iconst X112 hx (d1_52 hby) (v := (1 : Int32)) rfl (pc' := 53) rfl ?_
       refine w_iloadN X112 hx (d1_53 hby) rfl (pc' := 54) rfl ?_
       obtain ⟨clu118, Aru118, qu118, Su118, Nu118, Hu118, Gu118⟩ := id V115
       have hinu118 := inb_of (j := (1 : Int32)) Su118 ⟨by decide, by decide⟩
       refine w_stC X112 hx hZ e112 Aru118 hinu118 (d1_54 hby) (pc' := 55) rfl ?_
       intro T119 h119 X119 e119 W119
       have C120 : CHr Z EL s.vm h0 s.vm h119 := C113.trans (CHr.wr W119 (Safe.arv hZ.alike V115 (by decide)) C113.1)
       have V121 : Arv Z h119 b105 k105 .char (2 : Int32) [(.int p1), (.int (nar .char p2))] (.int (0 : Int32)) := Arv.set Aru118 qu118 Su118 Nu118 Hu118 Gu118 (fits_nar_char _) W119 1 rfl (Nat.le_of_ble_eq_true rfl)
       have V122 : Arv Z h119 b105 k105 .char (2 : Int32) [(.int p1), (.int p2)] (.int (0 : Int32)) := by rw [zz6] at V121; exact V121
       have K123 : Keep h0 h119 [] := K116.wr W119 (Or.inr sz107)
       have N124 := Fr.snoc X119 N117 ge106
       have f125 : Exa Z h119 b98 kc0 := (((A98.ext E105).wr W112).wr W119)
       have ne126 : b98 ≠ b105 := (Nat.ne_of_lt (Nat.lt_of_lt_of_le A98.lt (Nat.le_trans (Nat.le_refl _) (Nat.le_of_eq g105.symm))))
       have f127 : Fld Z h119 b98 kc0 "coder" "B" (.int (0 : Int32)) := (((f104.ext E105).other W112 (Or.inl ne126)).other W119 (Or.inl ne126))
       have f128 : Fld Z h119 b98 kc0 "value" "[B" .null := (((f103.ext E105).other W112 (Or.inl ne126)).other W119 (Or.inl ne126))
       have f129 : Old Z n0 h119 := ((((O0.ext E98).ext E105).wr W112 ge106).wr W119 ge106)
       have le130 : h0.size ≤ h105.size := (Nat.le_trans E98.1 E105.1)
       have le131 : h0.size ≤ h112.size := (Nat.le_trans le130 (Keep.of_wr W112).1)
       have le132 : h0.size ≤ h119.size := (Nat.le_trans le131 (Keep.of_wr W119).1)
       refine w_special X119 hx (y := yn_2) rfl hown (mvT hZ (wd_9 hw)) (mvT hZ (wd_10 hw)) (mvT hZ (wd_11 hw)) (by decide) (backOf (W := 1) (rm_m2_18 l Z aZ hw [] b98 b105 k105 p1 p2 jj0 h119 n0 (Nat.le_trans Z0 le132) V122 hP_6 zz1 zz6 f125 f127 f128 zz2 f129 zz3 zz4 zz5 ge99) hZ (wd_11 hw) (wd_8 hw) (by decide) (by decide)) (by rw [hml]; rfl) [(.ref b105)] (lenOf pd_1 rfl) rfl (Nat.le_of_eq rfl) (d1_55 hby) (fun _ _ => ⟨rfl, e119, (by decide : 2 + 2 ≤ _), (by decide : 6 + 6 ≤ _)⟩) (pc' := 58) rfl ?_
       rintro _ _ ⟨T133, L133, k133, n133⟩ X133 ⟨Lc133, hQ133, l133, y133, z133⟩
       dsimp only [Pt.U, Pt.locs, Pt.cells, Pt.slots] at X133 l133 y133 z133 hQ133 ⊢
       subst l133 y133 z133
       rcases hQ133 with ⟨t_133, kb_133, rfl, N133q, K133, g133_0, g133_1, g133_2, g133_3, g133_4, g133_5, g133_6⟩ | ⟨t_133, kb_133, rfl, N133q, K133, g133_0, g133_1, g133_2, g133_3, g133_4, g133_5⟩
       · have N134 := Fr.app N124 N133q
         have y135 : Safe Z EL s.vm h119 b98 := (Safe.wr W119 (Safe.arv hZ.alike V115 (by decide)) C113.1 (Safe.wr W112 (Safe.arv hZ.alike V110 (by decide)) C108.1 (Safe.ext E105 C101.1 (Safe.ext E98 C0.1 (Safe.new (Nat.le_of_eq g98.symm))))))
         have C136 : CHr Z EL s.vm h0 s.vm T133.heap := C120.trans (CHr.keep K133 (sfS y135 sf0) C120.1)
         have K137 : Keep h0 T133.heap [] := K123.trans K133 (allS (Or.inr sz100) (all0 (P := fun x => x ∈ [] ∨ h0.size ≤ x)))
         have ge138 : n0 ≤ t_133 := Nat.le_trans (Nat.le_trans Z0 le132) g133_3
         have sz139 : h0.size ≤ t_133 := Nat.le_trans le132 g133_3
         show Runs _ _ _ _ (T133.setTop (mkF m 58 #[.val (.int p0), .val (.int p1), .val (.int p2), .val (.int p3), .val (.int p4)] [(.ref b98)]))
         have y140 : Safe Z EL s.vm T133.heap b98 := (Safe.keep K133 (sfS y135 sf0) C120.1 y135)
         have le141 : h98.size ≤ h112.size := (Nat.le_trans E105.1 (Keep.of_wr W112).1)
         have le142 : h98.size ≤ h119.size := (Nat.le_trans le141 (Keep.of_wr W119).1)
         have le143 : h98.size ≤ T133.heap.size := (Nat.le_trans le142 K133.1)
         have le144 : h0.size ≤ T133.heap.size := (Nat.le_trans le132 K133.1)
         exact w_doneH X133 hlk (v := some (.ref b98)) rfl hh hZ (own_EW hw) hS0 (Nat.le_trans (Nat.le_refl _) le144) C136 (fun h => by rw [hret] at h; cases h) (fun fs hr => retOut X133 hx hret rfl (Or.inr (Or.inr (Or.inr (Or.inr ⟨rfl, rfl, rfl⟩)))) (d1_58 hby) hr) (by decide) (by decide) (fun hsy => Or.inl ⟨b98, t_133, kb_133, rfl, N134, K137, sz100, (hsy _ (Nat.lt_of_lt_of_le A98.lt le143) y140), g133_0, g133_1, g133_2, (by rw [hc97, own_cl4_2]; exact g133_4), (by rw [hc97, own_cl4_2]; exact (List.forall_mem_cons.2 ⟨g133_5, (List.forall_mem_cons.2 ⟨g133_6, (fun _ h => nomatch h)⟩)⟩))⟩)
       · have N145 := Fr.app N124 N133q
         have y146 : Safe Z EL s.vm h119 b98 := (Safe.wr W119 (Safe.arv hZ.alike V115 (by decide)) C113.1 (Safe.wr W112 (Safe.arv hZ.alike V110 (by decide)) C108.1 (Safe.ext E105 C101.1 (Safe.ext E98 C0.1 (Safe.new (Nat.le_of_eq g98.symm))))))
         have C147 : CHr Z EL s.vm h0 s.vm T133.heap := C120.trans (CHr.keep K133 (sfS y146 sf0) C120.1)
         have K148 : Keep h0 T133.heap [] := K123.trans K133 (allS (Or.inr sz100) (all0 (P := fun x => x ∈ [] ∨ h0.size ≤ x)))
         have ge149 : n0 ≤ t_133 := Nat.le_trans (Nat.le_trans Z0 le132) g133_3
         have sz150 : h0.size ≤ t_133 := Nat.le_trans le132 g133_3
         show Runs _ _ _ _ (T133.setTop (mkF m 58 #[.val (.int p0), .val (.int p1), .val (.int p2), .val (.int p3), .val (.int p4)] [(.ref b98)]))
         have y155 : Safe Z EL s.vm T133.heap b98 := (Safe.keep K133 (sfS y146 sf0) C120.1 y146)
         have le156 : h98.size ≤ h112.size := (Nat.le_trans E105.1 (Keep.of_wr W112).1)
         have le157 : h98.size ≤ h119.size := (Nat.le_trans le156 (Keep.of_wr W119).1)
         have le158 : h98.size ≤ T133.heap.size := (Nat.le_trans le157 K133.1)
         have le159 : h0.size ≤ T133.heap.size := (Nat.le_trans le132 K133.1)
         exact w_doneH X133 hlk (v := some (.ref b98)) rfl hh hZ (own_EW hw) hS0 (Nat.le_trans (Nat.le_refl _) le159) C147 (fun h => by rw [hret] at h; cases h) (fun fs hr => retOut X133 hx hret rfl (Or.inr (Or.inr (Or.inr (Or.inr ⟨rfl, rfl, rfl⟩)))) (d1_58 hby) hr) (by decide) (by decide) (fun hsy => Or.inr (⟨b98, t_133, kb_133, rfl, N145, K148, sz100, (hsy _ (Nat.lt_of_lt_of_le A98.lt le158) y155), g133_0, g133_1, g133_2, (by rw [hc97, own_cl4_2]; exact g133_4)⟩))
     · refine w_icY X0 hx (d1_37 hby) (feq hc97).2 (pc' := 59) (by decide) (by decide) ?_
       refine w_iloadN X0 hx (d1_59 hby) rfl (pc' := 60) rfl ?_
       refine w_iconst X0 hx (d1_60 hby) (v := (3 : Int32)) rfl (pc' := 61) rfl ?_
       by_cases hc160 : p0 = (3 : Int32)
       · refine w_icN X0 hx (d1_61 hby) (teq hc160).2 (pc' := 64) rfl ?_
         refine w_new X0 hx hZ hown (wd_6 hw) (wd_7 hw) (wd_8 hw) e0 (d1_64 hby) (by decide) (by decide) (pc' := 67) rfl ?_
         intro T161 h161 b161 X161 e161 E161 g161 A161 D161
         have ge162 : n0 ≤ b161 := Nat.le_trans Z0 (Nat.le_of_eq g161.symm)
         have sz163 : h0.size ≤ b161 := Nat.le_trans (Nat.le_refl _) (Nat.le_of_eq g161.symm)
         have C164 : CHr Z EL s.vm h0 s.vm h161 := C0.trans (CHr.ext E161 C0.1)
         have K165 : Keep h0 h161 [] := (Keep.refl h0 []).ext E161
         have f166 : Fld Z h161 b161 kc0 "value" "[B" .null := D161 (Or.inr (wd_21 hw)) (ty := (.array .byte)) (by decide)
         have f167 : Fld Z h161 b161 kc0 "coder" "B" (.int (0 : Int32)) := D161 (Or.inr (wd_22 hw)) (ty := .byte) (by decide)
         refine w_dup X161 hx (d1_67 hby) rfl (pc' := 68) rfl ?_
         refine w_iconst X161 hx (d1_68 hby) (v := (3 : Int32)) rfl (pc' := 69) rfl ?_
         refine w_newP X161 hx .char .char 3 rfl hZ (wd_1 hw) e161 (d1_69 hby) (by decide) (by decide) (by decide) (by decide) (by decide) (pc' := 71) rfl ?_
         intro T168 h168 k168 b168 X168 e168 E168 g168 A168
         have ge169 : n0 ≤ b168 := Nat.le_trans (Nat.le_trans Z0 E161.1) (Nat.le_of_eq g168.symm)
         have sz170 : h0.size ≤ b168 := Nat.le_trans E161.1 (Nat.le_of_eq g168.symm)
         have C171 : CHr Z EL s.vm h0 s.vm h168 := C164.trans (CHr.ext E168 C164.1)
         have K172 : Keep h0 h168 [] := K165.ext E168
         have V173 : Arv Z h168 b168 k168 .char (3 : Int32) [(.int (0 : Int32)), (.int (0 : Int32)), (.int (0 : Int32))] (.int (0 : Int32)) := (Arv.new A168 (by decide)).pad (pad_rep [] (.int (0 : Int32)) 3)
         refine w_dup X168 hx (d1_71 hby) rfl (pc' := 72) rfl ?_
         refine w_iconst X168 hx (d1_72 hby) (v := (0 : Int32)) rfl (pc' := 73) rfl ?_
         refine w_iloadN X168 hx (d1_73 hby) rfl (pc' := 74) rfl ?_
         obtain ⟨clu174, Aru174, qu174, Su174, Nu174, Hu174, Gu174⟩ := id V173
         have hinu174 := inb_of (j := (0 : Int32)) Su174 ⟨by decide, by decide⟩
         refine w_stC X168 hx hZ e168 Aru174 hinu174 (d1_74 hby) (pc' := 75) rfl ?_
         intro T175 h175 X175 e175 W175
         have C176 : CHr Z EL s.vm h0 s.vm h175 := C171.trans (CHr.wr W175 (Safe.arv hZ.alike V173 (by decide)) C171.1)
         have V177 : Arv Z h175 b168 k168 .char (3 : Int32) [(.int (nar .char p1)), (.int (0 : Int32)), (.int (0 : Int32))] (.int (0 : Int32)) := Arv.set Aru174 qu174 Su174 Nu174 Hu174 Gu174 (fits_nar_char _) W175 0 rfl (Nat.le_of_ble_eq_true rfl)
         have V178 : Arv Z h175 b168 k168 .char (3 : Int32) [(.int p1), (.int (0 : Int32)), (.int (0 : Int32))] (.int (0 : Int32)) := by rw [zz1] at V177; exact V177
         have K179 : Keep h0 h175 [] := K172.wr W175 (Or.inr sz170)
         have N180 := Fr.snoc X175 N0 ge169
         refine w_dup X175 hx (d1_75 hby) rfl (pc' := 76) rfl ?_
         refine w_iconst X175 hx (d1_76 hby) (v := (1 : Int32)) rfl (pc' := 77) rfl ?_
         refine w_iloadN X175 hx (d1_77 hby) rfl (pc' := 78) rfl ?_
         obtain ⟨clu181, Aru181, qu181, Su181, Nu181, Hu181, Gu181⟩ := id V178
         have hinu181 := inb_of (j := (1 : Int32)) Su181 ⟨by decide, by decide⟩
         refine w_stC X175 hx hZ e175 Aru181 hinu181 (d1_78 hby) (pc' := 79) rfl ?_
         intro T182 h182 X182 e182 W182
         have C183 : CHr Z EL s.vm h0 s.vm h182 := C176.trans (CHr.wr W182 (Safe.arv hZ.alike V178 (by decide)) C176.1)
         have V184 : Arv Z h182 b168 k168 .char (3 : Int32) [(.int p1), (.int (nar .char p2)), (.int (0 : Int32))] (.int (0 : Int32)) := Arv.set Aru181 qu181 Su181 Nu181 Hu181 Gu181 (fits_nar_char _) W182 1 rfl (Nat.le_of_ble_eq_true rfl)
         have V185 : Arv Z h182 b168 k168 .char (3 : Int32) [(.int p1), (.int p2), (.int (0 : Int32))] (.int (0 : Int32)) := by rw [zz6] at V184; exact V184
         have K186 : Keep h0 h182 [] := K179.wr W182 (Or.inr sz170)
         have N187 := Fr.snoc X182 N180 ge169
         refine w_dup X182 hx (d1_79 hby) rfl (pc' := 80) rfl ?_
         refine w_iconst X182 hx (d1_80 hby) (v := (2 : Int32)) rfl (pc' := 81) rfl ?_
         refine w_iloadN X182 hx (d1_81 hby) rfl (pc' := 82) rfl ?_
         obtain ⟨clu188, Aru188, qu188, Su188, Nu188, Hu188, Gu188⟩ := id V185
         have hinu188 := inb_of (j := (2 : Int32)) Su188 ⟨by decide, by decide⟩
         refine w_stC X182 hx hZ e182 Aru188 hinu188 (d1_82 hby) (pc' := 83) rfl ?_
         intro T189 h189 X189 e189 W189
         have C190 : CHr Z EL s.vm h0 s.vm h189 := C183.trans (CHr.wr W189 (Safe.arv hZ.alike V185 (by decide)) C183.1)
         have V191 : Arv Z h189 b168 k168 .char (3 : Int32) [(.int p1), (.int p2), (.int (nar .char p3))] (.int (0 : Int32)) := Arv.set Aru188 qu188 Su188 Nu188 Hu188 Gu188 (fits_nar_char _) W189 2 rfl (Nat.le_of_ble_eq_true rfl)
         have V192 : Arv Z h189 b168 k168 .char (3 : Int32) [(.int p1), (.int p2), (.int p3)] (.int (0 : Int32)) := by rw [zz7] at V191; exact V191
         have K193 : Keep h0 h189 [] := K186.wr W189 (Or.inr sz170)
         have N194 := Fr.snoc X189 N187 ge169
         have f195 : Exa Z h189 b161 kc0 := ((((A161.ext E168).wr W175).wr W182).wr W189)
         have ne196 : b161 ≠ b168 := (Nat.ne_of_lt (Nat.lt_of_lt_of_le A161.lt (Nat.le_trans (Nat.le_refl _) (Nat.le_of_eq g168.symm))))
         have f197 : Fld Z h189 b161 kc0 "coder" "B" (.int (0 : Int32)) := ((((f167.ext E168).other W175 (Or.inl ne196)).other W182 (Or.inl ne196)).other W189 (Or.inl ne196))
         have f198 : Fld Z h189 b161 kc0 "value" "[B" .null := ((((f166.ext E168).other W175 (Or.inl ne196)).other W182 (Or.inl ne196)).other W189 (Or.inl ne196))
         have f199 : Old Z n0 h189 := (((((O0.ext E161).ext E168).wr W175 ge169).wr W182 ge169).wr W189 ge169)
         have le200 : h0.size ≤ h168.size := (Nat.le_trans E161.1 E168.1)
         have le201 : h0.size ≤ h175.size := (Nat.le_trans le200 (Keep.of_wr W175).1)
         have le202 : h0.size ≤ h182.size := (Nat.le_trans le201 (Keep.of_wr W182).1)
         have le203 : h0.size ≤ h189.size := (Nat.le_trans le202 (Keep.of_wr W189).1)
         refine w_special X189 hx (y := yn_2) rfl hown (mvT hZ (wd_9 hw)) (mvT hZ (wd_10 hw)) (mvT hZ (wd_11 hw)) (by decide) (backOf (W := 1) (rm_m2_30 l Z aZ hw [] b161 b168 k168 p1 p2 p3 jj0 h189 n0 (Nat.le_trans Z0 le203) V192 hP_6 zz1 zz6 zz7 f195 f197 f198 zz2 f199 zz3 zz4 zz5 ge162) hZ (wd_11 hw) (wd_8 hw) (by decide) (by decide)) (by rw [hml]; rfl) [(.ref b168)] (lenOf pd_1 rfl) rfl (Nat.le_of_eq rfl) (d1_83 hby) (fun _ _ => ⟨rfl, e189, (by decide : 2 + 2 ≤ _), (by decide : 7 + 9 ≤ _)⟩) (pc' := 86) rfl ?_
         rintro _ _ ⟨T204, L204, k204, n204⟩ X204 ⟨Lc204, hQ204, l204, y204, z204⟩
         dsimp only [Pt.U, Pt.locs, Pt.cells, Pt.slots] at X204 l204 y204 z204 hQ204 ⊢
         subst l204 y204 z204
         rcases hQ204 with ⟨t_204, kb_204, rfl, N204q, K204, g204_0, g204_1, g204_2, g204_3, g204_4, g204_5, g204_6, g204_7⟩ | ⟨t_204, kb_204, rfl, N204q, K204, g204_0, g204_1, g204_2, g204_3, g204_4, g204_5⟩
         · have N205 := Fr.app N194 N204q
           have y206 : Safe Z EL s.vm h189 b161 := (Safe.wr W189 (Safe.arv hZ.alike V185 (by decide)) C183.1 (Safe.wr W182 (Safe.arv hZ.alike V178 (by decide)) C176.1 (Safe.wr W175 (Safe.arv hZ.alike V173 (by decide)) C171.1 (Safe.ext E168 C164.1 (Safe.ext E161 C0.1 (Safe.new (Nat.le_of_eq g161.symm)))))))
           have C207 : CHr Z EL s.vm h0 s.vm T204.heap := C190.trans (CHr.keep K204 (sfS y206 sf0) C190.1)
           have K208 : Keep h0 T204.heap [] := K193.trans K204 (allS (Or.inr sz163) (all0 (P := fun x => x ∈ [] ∨ h0.size ≤ x)))
           have ge209 : n0 ≤ t_204 := Nat.le_trans (Nat.le_trans Z0 le203) g204_3
           have sz210 : h0.size ≤ t_204 := Nat.le_trans le203 g204_3
           show Runs _ _ _ _ (T204.setTop (mkF m 86 #[.val (.int p0), .val (.int p1), .val (.int p2), .val (.int p3), .val (.int p4)] [(.ref b161)]))
           have y211 : Safe Z EL s.vm T204.heap b161 := (Safe.keep K204 (sfS y206 sf0) C190.1 y206)
           have le212 : h161.size ≤ h175.size := (Nat.le_trans E168.1 (Keep.of_wr W175).1)
           have le213 : h161.size ≤ h182.size := (Nat.le_trans le212 (Keep.of_wr W182).1)
           have le214 : h161.size ≤ h189.size := (Nat.le_trans le213 (Keep.of_wr W189).1)
           have le215 : h161.size ≤ T204.heap.size := (Nat.le_trans le214 K204.1)
           have le216 : h0.size ≤ T204.heap.size := (Nat.le_trans le203 K204.1)
           exact w_doneH X204 hlk (v := some (.ref b161)) rfl hh hZ (own_EW hw) hS0 (Nat.le_trans (Nat.le_refl _) le216) C207 (fun h => by rw [hret] at h; cases h) (fun fs hr => retOut X204 hx hret rfl (Or.inr (Or.inr (Or.inr (Or.inr ⟨rfl, rfl, rfl⟩)))) (d1_86 hby) hr) (by decide) (by decide) (fun hsy => Or.inl ⟨b161, t_204, kb_204, rfl, N205, K208, sz163, (hsy _ (Nat.lt_of_lt_of_le A161.lt le215) y211), g204_0, g204_1, g204_2, (by rw [hc160, own_cl4_3]; exact g204_4), (by rw [hc160, own_cl4_3]; exact (List.forall_mem_cons.2 ⟨g204_5, (List.forall_mem_cons.2 ⟨g204_6, (List.forall_mem_cons.2 ⟨g204_7, (fun _ h => nomatch h)⟩)⟩)⟩))⟩)
         · have N217 := Fr.app N194 N204q
           have y218 : Safe Z EL s.vm h189 b161 := (Safe.wr W189 (Safe.arv hZ.alike V185 (by decide)) C183.1 (Safe.wr W182 (Safe.arv hZ.alike V178 (by decide)) C176.1 (Safe.wr W175 (Safe.arv hZ.alike V173 (by decide)) C171.1 (Safe.ext E168 C164.1 (Safe.ext E161 C0.1 (Safe.new (Nat.le_of_eq g161.symm)))))))
           have C219 : CHr Z EL s.vm h0 s.vm T204.heap := C190.trans (CHr.keep K204 (sfS y218 sf0) C190.1)
           have K220 : Keep h0 T204.heap [] := K193.trans K204 (allS (Or.inr sz163) (all0 (P := fun x => x ∈ [] ∨ h0.size ≤ x)))
           have ge221 : n0 ≤ t_204 := Nat.le_trans (Nat.le_trans Z0 le203) g204_3
           have sz222 : h0.size ≤ t_204 := Nat.le_trans le203 g204_3
           show Runs _ _ _ _ (T204.setTop (mkF m 86 #[.val (.int p0), .val (.int p1), .val (.int p2), .val (.int p3), .val (.int p4)] [(.ref b161)]))
           have y228 : Safe Z EL s.vm T204.heap b161 := (Safe.keep K204 (sfS y218 sf0) C190.1 y218)
           have le229 : h161.size ≤ h175.size := (Nat.le_trans E168.1 (Keep.of_wr W175).1)
           have le230 : h161.size ≤ h182.size := (Nat.le_trans le229 (Keep.of_wr W182).1)
           have le231 : h161.size ≤ h189.size := (Nat.le_trans le230 (Keep.of_wr W189).1)
           have le232 : h161.size ≤ T204.heap.size := (Nat.le_trans le231 K204.1)
           have le233 : h0.size ≤ T204.heap.size := (Nat.le_trans le203 K204.1)
           exact w_doneH X204 hlk (v := some (.ref b161)) rfl hh hZ (own_EW hw) hS0 (Nat.le_trans (Nat.le_refl _) le233) C219 (fun h => by rw [hret] at h; cases h) (fun fs hr => retOut X204 hx hret rfl (Or.inr (Or.inr (Or.inr (Or.inr ⟨rfl, rfl, rfl⟩)))) (d1_86 hby) hr) (by decide) (by decide) (fun hsy => Or.inr (⟨b161, t_204, kb_204, rfl, N217, K220, sz163, (hsy _ (Nat.lt_of_lt_of_le A161.lt le232) y228), g204_0, g204_1, g204_2, (by rw [hc160, own_cl4_3]; exact g204_4)⟩))
       · refine w_icY X0 hx (d1_61 hby) (feq hc160).2 (pc' := 87) (by decide) (by decide) ?_
         refine w_new X0 hx hZ hown (wd_6 hw) (wd_7 hw) (wd_8 hw) e0 (d1_87 hby) (by decide) (by decide) (pc' := 90) rfl ?_
         intro T234 h234 b234 X234 e234 E234 g234 A234 D234
         have ge235 : n0 ≤ b234 := Nat.le_trans Z0 (Nat.le_of_eq g234.symm)
         have sz236 : h0.size ≤ b234 := Nat.le_trans (Nat.le_refl _) (Nat.le_of_eq g234.symm)
         have C237 : CHr Z EL s.vm h0 s.vm h234 := C0.trans (CHr.ext E234 C0.1)
         have K238 : Keep h0 h234 [] := (Keep.refl h0 []).ext E234
         have f239 : Fld Z h234 b234 kc0 "value" "[B" .null := D234 (Or.inr (wd_21 hw)) (ty := (.array .byte)) (by decide)
         have f240 : Fld Z h234 b234 kc0 "coder" "B" (.int (0 : Int32)) := D234 (Or.inr (wd_22 hw)) (ty := .byte) (by decide)
         refine w_dup X234 hx (d1_90 hby) rfl (pc' := 91) rfl ?_
         refine w_iconst X234 hx (d1_91 hby) (v := (4 : Int32)) rfl (pc' := 92) rfl ?_
         refine w_newP X234 hx .char .char 4 rfl hZ (wd_1 hw) e234 (d1_92 hby) (by decide) (by decide) (by decide) (by decide) (by decide) (pc' := 94) rfl ?_
         intro T241 h241 k241 b241 X241 e241 E241 g241 A241
         have ge242 : n0 ≤ b241 := Nat.le_trans (Nat.le_trans Z0 E234.1) (Nat.le_of_eq g241.symm)
         have sz243 : h0.size ≤ b241 := Nat.le_trans E234.1 (Nat.le_of_eq g241.symm)
         have C244 : CHr Z EL s.vm h0 s.vm h241 := C237.trans (CHr.ext E241 C237.1)
         have K245 : Keep h0 h241 [] := K238.ext E241
         have V246 : Arv Z h241 b241 k241 .char (4 : Int32) [(.int (0 : Int32)), (.int (0 : Int32)), (.int (0 : Int32)), (.int (0 : Int32))] (.int (0 : Int32)) := (Arv.new A241 (by decide)).pad (pad_rep [] (.int (0 : Int32)) 4)
         refine w_dup X241 hx (d1_94 hby) rfl (pc' := 95) rfl ?_
         refine w_iconst X241 hx (d1_95 hby) (v := (0 : Int32)) rfl (pc' := 96) rfl ?_
         refine w_iloadN X241 hx (d1_96 hby) rfl (pc' := 97) rfl ?_
         obtain ⟨clu247, Aru247, qu247, Su247, Nu247, Hu247, Gu247⟩ := id V246
         have hinu247 := inb_of (j := (0 : Int32)) Su247 ⟨by decide, by decide⟩
         refine w_stC X241 hx hZ e241 Aru247 hinu247 (d1_97 hby) (pc' := 98) rfl ?_
         intro T248 h248 X248 e248 W248
         have C249 : CHr Z EL s.vm h0 s.vm h248 := C244.trans (CHr.wr W248 (Safe.arv hZ.alike V246 (by decide)) C244.1)
         have V250 : Arv Z h248 b241 k241 .char (4 : Int32) [(.int (nar .char p1)), (.int (0 : Int32)), (.int (0 : Int32)), (.int (0 : Int32))] (.int (0 : Int32)) := Arv.set Aru247 qu247 Su247 Nu247 Hu247 Gu247 (fits_nar_char _) W248 0 rfl (Nat.le_of_ble_eq_true rfl)
         have V251 : Arv Z h248 b241 k241 .char (4 : Int32) [(.int p1), (.int (0 : Int32)), (.int (0 : Int32)), (.int (0 : Int32))] (.int (0 : Int32)) := by rw [zz1] at V250; exact V250
         have K252 : Keep h0 h248 [] := K245.wr W248 (Or.inr sz243)
         have N253 := Fr.snoc X248 N0 ge242
         refine w_dup X248 hx (d1_98 hby) rfl (pc' := 99) rfl ?_
         refine w_iconst X248 hx (d1_99 hby) (v := (1 : Int32)) rfl (pc' := 100) rfl ?_
         refine w_iloadN X248 hx (d1_100 hby) rfl (pc' := 101) rfl ?_
         obtain ⟨clu254, Aru254, qu254, Su254, Nu254, Hu254, Gu254⟩ := id V251
         have hinu254 := inb_of (j := (1 : Int32)) Su254 ⟨by decide, by decide⟩
         refine w_stC X248 hx hZ e248 Aru254 hinu254 (d1_101 hby) (pc' := 102) rfl ?_
         intro T255 h255 X255 e255 W255
         have C256 : CHr Z EL s.vm h0 s.vm h255 := C249.trans (CHr.wr W255 (Safe.arv hZ.alike V251 (by decide)) C249.1)
         have V257 : Arv Z h255 b241 k241 .char (4 : Int32) [(.int p1), (.int (nar .char p2)), (.int (0 : Int32)), (.int (0 : Int32))] (.int (0 : Int32)) := Arv.set Aru254 qu254 Su254 Nu254 Hu254 Gu254 (fits_nar_char _) W255 1 rfl (Nat.le_of_ble_eq_true rfl)
         have V258 : Arv Z h255 b241 k241 .char (4 : Int32) [(.int p1), (.int p2), (.int (0 : Int32)), (.int (0 : Int32))] (.int (0 : Int32)) := by rw [zz6] at V257; exact V257
         have K259 : Keep h0 h255 [] := K252.wr W255 (Or.inr sz243)
         have N260 := Fr.snoc X255 N253 ge242
         refine w_dup X255 hx (d1_102 hby) rfl (pc' := 103) rfl ?_
         refine w_iconst X255 hx (d1_103 hby) (v := (2 : Int32)) rfl (pc' := 104) rfl ?_
         refine w_iloadN X255 hx (d1_104 hby) rfl (pc' := 105) rfl ?_
         obtain ⟨clu261, Aru261, qu261, Su261, Nu261, Hu261, Gu261⟩ := id V258
         have hinu261 := inb_of (j := (2 : Int32)) Su261 ⟨by decide, by decide⟩
         refine w_stC X255 hx hZ e255 Aru261 hinu261 (d1_105 hby) (pc' := 106) rfl ?_
         intro T262 h262 X262 e262 W262
         have C263 : CHr Z EL s.vm h0 s.vm h262 := C256.trans (CHr.wr W262 (Safe.arv hZ.alike V258 (by decide)) C256.1)
         have V264 : Arv Z h262 b241 k241 .char (4 : Int32) [(.int p1), (.int p2), (.int (nar .char p3)), (.int (0 : Int32))] (.int (0 : Int32)) := Arv.set Aru261 qu261 Su261 Nu261 Hu261 Gu261 (fits_nar_char _) W262 2 rfl (Nat.le_of_ble_eq_true rfl)
         have V265 : Arv Z h262 b241 k241 .char (4 : Int32) [(.int p1), (.int p2), (.int p3), (.int (0 : Int32))] (.int (0 : Int32)) := by rw [zz7] at V264; exact V264
         have K266 : Keep h0 h262 [] := K259.wr W262 (Or.inr sz243)
         have N267 := Fr.snoc X262 N260 ge242
         refine w_dup X262 hx (d1_106 hby) rfl (pc' := 107) rfl ?_
         refine w_iconst X262 hx (d1_107 hby) (v := (3 : Int32)) rfl (pc' := 108) rfl ?_
         refine w_iload X262 hx (d1_108 hby) rfl (pc' := 110) rfl ?_
         obtain ⟨clu268, Aru268, qu268, Su268, Nu268, Hu268, Gu268⟩ := id V265
         have hinu268 := inb_of (j := (3 : Int32)) Su268 ⟨by decide, by decide⟩
         refine w_stC X262 hx hZ e262 Aru268 hinu268 (d1_110 hby) (pc' := 111) rfl ?_
         intro T269 h269 X269 e269 W269
         have C270 : CHr Z EL s.vm h0 s.vm h269 := C263.trans (CHr.wr W269 (Safe.arv hZ.alike V265 (by decide)) C263.1)
         have V271 : Arv Z h269 b241 k241 .char (4 : Int32) [(.int p1), (.int p2), (.int p3), (.int (nar .char p4))] (.int (0 : Int32)) := Arv.set Aru268 qu268 Su268 Nu268 Hu268 Gu268 (fits_nar_char _) W269 3 rfl (Nat.le_of_ble_eq_true rfl)
         have V272 : Arv Z h269 b241 k241 .char (4 : Int32) [(.int p1), (.int p2), (.int p3), (.int p4)] (.int (0 : Int32)) := by rw [zz8] at V271; exact V271
         have K273 : Keep h0 h269 [] := K266.wr W269 (Or.inr sz243)
         have N274 := Fr.snoc X269 N267 ge242
         have f275 : Exa Z h269 b234 kc0 := (((((A234.ext E241).wr W248).wr W255).wr W262).wr W269)
         have ne276 : b234 ≠ b241 := (Nat.ne_of_lt (Nat.lt_of_lt_of_le A234.lt (Nat.le_trans (Nat.le_refl _) (Nat.le_of_eq g241.symm))))
         have f277 : Fld Z h269 b234 kc0 "coder" "B" (.int (0 : Int32)) := (((((f240.ext E241).other W248 (Or.inl ne276)).other W255 (Or.inl ne276)).other W262 (Or.inl ne276)).other W269 (Or.inl ne276))
         have f278 : Fld Z h269 b234 kc0 "value" "[B" .null := (((((f239.ext E241).other W248 (Or.inl ne276)).other W255 (Or.inl ne276)).other W262 (Or.inl ne276)).other W269 (Or.inl ne276))
         have f279 : Old Z n0 h269 := ((((((O0.ext E234).ext E241).wr W248 ge242).wr W255 ge242).wr W262 ge242).wr W269 ge242)
         have le280 : h0.size ≤ h241.size := (Nat.le_trans E234.1 E241.1)
         have le281 : h0.size ≤ h248.size := (Nat.le_trans le280 (Keep.of_wr W248).1)
         have le282 : h0.size ≤ h255.size := (Nat.le_trans le281 (Keep.of_wr W255).1)
         have le283 : h0.size ≤ h262.size := (Nat.le_trans le282 (Keep.of_wr W262).1)
         have le284 : h0.size ≤ h269.size := (Nat.le_trans le283 (Keep.of_wr W269).1)
         refine w_special X269 hx (y := yn_2) rfl hown (mvT hZ (wd_9 hw)) (mvT hZ (wd_10 hw)) (mvT hZ (wd_11 hw)) (by decide) (backOf (W := 1) (rm_m2_43 l Z aZ hw [] b234 b241 k241 p1 p2 p3 p4 jj0 h269 n0 (Nat.le_trans Z0 le284) V272 hP_6 zz1 zz6 zz7 zz8 f275 f277 f278 zz2 f279 zz3 zz4 zz5 ge235) hZ (wd_11 hw) (wd_8 hw) (by decide) (by decide)) (by rw [hml]; rfl) [(.ref b241)] (lenOf pd_1 rfl) rfl (Nat.le_of_eq rfl) (d1_111 hby) (fun _ _ => ⟨rfl, e269, (by decide : 2 + 2 ≤ _), (by decide : 8 + 12 ≤ _)⟩) (pc' := 114) rfl ?_
         rintro _ _ ⟨T285, L285, k285, n285⟩ X285 ⟨Lc285, hQ285, l285, y285, z285⟩
         dsimp only [Pt.U, Pt.locs, Pt.cells, Pt.slots] at X285 l285 y285 z285 hQ285 ⊢
         subst l285 y285 z285
         rcases hQ285 with ⟨t_285, kb_285, rfl, N285q, K285, g285_0, g285_1, g285_2, g285_3, g285_4, g285_5, g285_6, g285_7, g285_8⟩ | ⟨t_285, kb_285, rfl, N285q, K285, g285_0, g285_1, g285_2, g285_3, g285_4, g285_5⟩
         · have N286 := Fr.app N274 N285q
           have y287 : Safe Z EL s.vm h269 b234 := (Safe.wr W269 (Safe.arv hZ.alike V265 (by decide)) C263.1 (Safe.wr W262 (Safe.arv hZ.alike V258 (by decide)) C256.1 (Safe.wr W255 (Safe.arv hZ.alike V251 (by decide)) C249.1 (Safe.wr W248 (Safe.arv hZ.alike V246 (by decide)) C244.1 (Safe.ext E241 C237.1 (Safe.ext E234 C0.1 (Safe.new (Nat.le_of_eq g234.symm))))))))
           have C288 : CHr Z EL s.vm h0 s.vm T285.heap := C270.trans (CHr.keep K285 (sfS y287 sf0) C270.1)
           have K289 : Keep h0 T285.heap [] := K273.trans K285 (allS (Or.inr sz236) (all0 (P := fun x => x ∈ [] ∨ h0.size ≤ x)))
           have ge290 : n0 ≤ t_285 := Nat.le_trans (Nat.le_trans Z0 le284) g285_3
           have sz291 : h0.size ≤ t_285 := Nat.le_trans le284 g285_3
           show Runs _ _ _ _ (T285.setTop (mkF m 114 #[.val (.int p0), .val (.int p1), .val (.int p2), .val (.int p3), .val (.int p4)] [(.ref b234)]))
           have y292 : Safe Z EL s.vm T285.heap b234 := (Safe.keep K285 (sfS y287 sf0) C270.1 y287)
           have le293 : h234.size ≤ h248.size := (Nat.le_trans E241.1 (Keep.of_wr W248).1)
           have le294 : h234.size ≤ h255.size := (Nat.le_trans le293 (Keep.of_wr W255).1)
           have le295 : h234.size ≤ h262.size := (Nat.le_trans le294 (Keep.of_wr W262).1)
           have le296 : h234.size ≤ h269.size := (Nat.le_trans le295 (Keep.of_wr W269).1)
           have le297 : h234.size ≤ T285.heap.size := (Nat.le_trans le296 K285.1)
           have le298 : h0.size ≤ T285.heap.size := (Nat.le_trans le284 K285.1)
           exact w_doneH X285 hlk (v := some (.ref b234)) rfl hh hZ (own_EW hw) hS0 (Nat.le_trans (Nat.le_refl _) le298) C288 (fun h => by rw [hret] at h; cases h) (fun fs hr => retOut X285 hx hret rfl (Or.inr (Or.inr (Or.inr (Or.inr ⟨rfl, rfl, rfl⟩)))) (d1_114 hby) hr) (by decide) (by decide) (fun hsy => Or.inl ⟨b234, t_285, kb_285, rfl, N286, K289, sz236, (hsy _ (Nat.lt_of_lt_of_le A234.lt le297) y292), g285_0, g285_1, g285_2, (by rw [(own_is4 zz9 zz10 hc20 hc45 hc97 hc160), own_cl4_4]; exact g285_4), (by rw [(own_is4 zz9 zz10 hc20 hc45 hc97 hc160), own_cl4_4]; exact (List.forall_mem_cons.2 ⟨g285_5, (List.forall_mem_cons.2 ⟨g285_6, (List.forall_mem_cons.2 ⟨g285_7, (List.forall_mem_cons.2 ⟨g285_8, (fun _ h => nomatch h)⟩)⟩)⟩)⟩))⟩)
         · have N299 := Fr.app N274 N285q
           have y300 : Safe Z EL s.vm h269 b234 := (Safe.wr W269 (Safe.arv hZ.alike V265 (by decide)) C263.1 (Safe.wr W262 (Safe.arv hZ.alike V258 (by decide)) C256.1 (Safe.wr W255 (Safe.arv hZ.alike V251 (by decide)) C249.1 (Safe.wr W248 (Safe.arv hZ.alike V246 (by decide)) C244.1 (Safe.ext E241 C237.1 (Safe.ext E234 C0.1 (Safe.new (Nat.le_of_eq g234.symm))))))))
           have C301 : CHr Z EL s.vm h0 s.vm T285.heap := C270.trans (CHr.keep K285 (sfS y300 sf0) C270.1)
           have K302 : Keep h0 T285.heap [] := K273.trans K285 (allS (Or.inr sz236) (all0 (P := fun x => x ∈ [] ∨ h0.size ≤ x)))
           have ge303 : n0 ≤ t_285 := Nat.le_trans (Nat.le_trans Z0 le284) g285_3
           have sz304 : h0.size ≤ t_285 := Nat.le_trans le284 g285_3
           show Runs _ _ _ _ (T285.setTop (mkF m 114 #[.val (.int p0), .val (.int p1), .val (.int p2), .val (.int p3), .val (.int p4)] [(.ref b234)]))
           have y311 : Safe Z EL s.vm T285.heap b234 := (Safe.keep K285 (sfS y300 sf0) C270.1 y300)
           have le312 : h234.size ≤ h248.size := (Nat.le_trans E241.1 (Keep.of_wr W248).1)
           have le313 : h234.size ≤ h255.size := (Nat.le_trans le312 (Keep.of_wr W255).1)
           have le314 : h234.size ≤ h262.size := (Nat.le_trans le313 (Keep.of_wr W262).1)
           have le315 : h234.size ≤ h269.size := (Nat.le_trans le314 (Keep.of_wr W269).1)
           have le316 : h234.size ≤ T285.heap.size := (Nat.le_trans le315 K285.1)
           have le317 : h0.size ≤ T285.heap.size := (Nat.le_trans le284 K285.1)
           exact w_doneH X285 hlk (v := some (.ref b234)) rfl hh hZ (own_EW hw) hS0 (Nat.le_trans (Nat.le_refl _) le317) C301 (fun h => by rw [hret] at h; cases h) (fun fs hr => retOut X285 hx hret rfl (Or.inr (Or.inr (Or.inr (Or.inr ⟨rfl, rfl, rfl⟩)))) (d1_114 hby) hr) (by decide) (by decide) (fun hsy => Or.inr (⟨b234, t_285, kb_285, rfl, N299, K302, sz236, (hsy _ (Nat.lt_of_lt_of_le A234.lt le316) y311), g285_0, g285_1, g285_2, (by rw [(own_is4 zz9 zz10 hc20 hc45 hc97 hc160), own_cl4_4]; exact g285_4)⟩))
theorem ef_m6_58 (m : MethodId) (a0 : Addr) (a1 : Addr) (a2 : Addr)  : entryFrame m #[(.ref a0), (.ref a1), (.ref a2)] 3 = mkF m 0 #[.val (.ref a0), .val (.ref a1), .val (.ref a2)] [] := by first | (simp [entryFrame, mkF, argsToLocals, Value.category]; done) | rfl
def Q_m6_58 (Z : State) (a0 : Addr) (a1 : Addr) (a2 : Addr) (h0 : Heap) (n0 : Nat) (v : Option Value) (h : Heap) (L : List Loc) : Prop := v = none ∧ Fr n0 L ∧ Keep h0 h [a0] ∧ Exa Z h a0 kc3 ∧ Fld Z h a0 kc2 "text" "Ljava/lang/String;" (.ref a1) ∧ Fld Z h a0 kc2 "refusal" "Ljava/lang/String;" (.ref a2) ∧ Fld Z h a0 kc2 "position" "I" (.int (0 : Int32))
theorem rm_m6_58 (l : Launch) (Z : State) (aZ : Array Value) (hw : ∀ d ∈ tables_1, d.before aZ Z = true) (ws : List Jvm.Cond) (a0 : Addr) (a1 : Addr) (a2 : Addr) (h0 : Heap) (n0 : Nat) (Z0 : n0 ≤ h0.size) (E_a0 : Exa Z h0 a0 kc3) (zz0 : Fld Z h0 a0 kc2 "text" "Ljava/lang/String;" .null) (zz1 : n0 ≤ a0) (zz2 : Fld Z h0 a0 kc2 "refusal" "Ljava/lang/String;" .null) (zz3 : Fld Z h0 a0 kc2 "position" "I" (.int (0 : Int32))) :
    MetN l Z yn_6 prog_52_method_1_code 3 none ws ({ frames := 1, cells := 0, slots := 0, locals := 12 } : Room) #[(.ref a0), (.ref a1), (.ref a2)] h0 (Q_m6_58 Z a0 a1 a2 h0 n0) := by
 refine MetN.of (plainFor_of_name pn_3) ?_
 intro p e s m below meth c s₁ hret hx hby hml hown hnm hlk hZ X0 e0
 have N0 := Fr.nil n0
 rw [ef_m6_58 m a0 a1 a2]
 refine w_aloadN X0 hx (d6_0 hby) rfl rfl (pc' := 1) rfl ?_
 refine w_initO X0 hx 0 hZ hown (wd_38 hw) (wd_17 hw) (wd_18 hw) e0 (by rw [hml]; rfl) (d6_1 hby) (by decide) (Nat.le_of_eq rfl) (by decide) (pc' := 4) rfl ?_
 intro T20 X20 e20
 refine w_aloadN X20 hx (d6_4 hby) rfl rfl (pc' := 5) rfl ?_
 refine w_aloadN X20 hx (d6_5 hby) rfl rfl (pc' := 6) rfl ?_
 refine w_putF X20 hx "" hZ hown (Or.inl (wd_39 hw)) Via.refl e20 zz0 E_a0 (Or.inr ⟨(wd_40 hw), rfl, hnm⟩) (wd_28 hw) (ty := (.object kc0)) (by decide) rfl rfl (d6_6 hby) (pc' := 9) rfl ?_
 intro T21 h21 X21 e21 W21
 have f22 : Fld Z h21 a0 kc2 "text" "Ljava/lang/String;" (.ref a1) := zz0.same W21
 have K23 : Keep h0 h21 [a0] := (Keep.refl h0 [a0]).wr W21 (Or.inl (by simp))
 have N24 := Fr.snoc X21 N0 zz1
 refine w_aloadN X21 hx (d6_9 hby) rfl rfl (pc' := 10) rfl ?_
 refine w_aloadN X21 hx (d6_10 hby) rfl rfl (pc' := 11) rfl ?_
 have f25 : Exa Z h21 a0 kc3 := (E_a0.wr W21)
 have f26 : Fld Z h21 a0 kc2 "refusal" "Ljava/lang/String;" .null := (zz2.other W21 (Or.inr (slot_ne (Or.inr (wd_42 hw)) (Or.inr (wd_40 hw)) (by decide) (t := (.object kc0)) (t' := (.object kc0)) (by decide) (by decide))))
 refine w_putF X21 hx "" hZ hown (Or.inl (wd_41 hw)) Via.refl e21 f26 f25 (Or.inr ⟨(wd_42 hw), rfl, hnm⟩) (wd_28 hw) (ty := (.object kc0)) (by decide) rfl rfl (d6_11 hby) (pc' := 14) rfl ?_
 intro T27 h27 X27 e27 W27
 have f28 : Fld Z h27 a0 kc2 "refusal" "Ljava/lang/String;" (.ref a2) := f26.same W27
 have K29 : Keep h0 h27 [a0] := K23.wr W27 (Or.inl (by simp))
 have N30 := Fr.snoc X27 N24 zz1
 have f31 : Exa Z h27 a0 kc3 := (f25.wr W27)
 have f32 : Fld Z h27 a0 kc2 "text" "Ljava/lang/String;" (.ref a1) := (f22.other W27 (Or.inr (slot_ne (Or.inr (wd_40 hw)) (Or.inr (wd_42 hw)) (by decide) (t := (.object kc0)) (t' := (.object kc0)) (by decide) (by decide))))
 have f33 : Fld Z h27 a0 kc2 "position" "I" (.int (0 : Int32)) := ((zz3.other W21 (Or.inr (slot_ne (Or.inl (wd_45 hw)) (Or.inr (wd_40 hw)) (by decide) (t := .int) (t' := (.object kc0)) (by decide) (by decide)))).other W27 (Or.inr (slot_ne (Or.inl (wd_45 hw)) (Or.inr (wd_42 hw)) (by decide) (t := .int) (t' := (.object kc0)) (by decide) (by decide))))
 exact w_done X27 hlk (v := none) e27 (fun _ => rfl) (fun fs hr => X27.returnOut hx hret (d6_14 hby) hr) (by decide) (by decide) (⟨rfl, N30, K29, f31, f32, f28, f33⟩)
theorem ef_m5_57 (m : MethodId) (a0 : Addr) (a1 : Addr) (a2 : Addr)  : entryFrame m #[(.ref a0), (.ref a1), (.ref a2)] 3 = mkF m 0 #[.val (.ref a0), .val (.ref a1), .val (.ref a2)] [] := by first | (simp [entryFrame, mkF, argsToLocals, Value.category]; done) | rfl
def Q_m5_57 (Z : State) (a0 : Addr) (a1 : Addr) (a2 : Addr) (h0 : Heap) (n0 : Nat) (v : Option Value) (h : Heap) (L : List Loc) : Prop := v = none ∧ Fr n0 L ∧ Keep h0 h [a0] ∧ Exa Z h a0 kc3 ∧ Fld Z h a0 kc2 "text" "Ljava/lang/String;" (.ref a1) ∧ Fld Z h a0 kc2 "refusal" "Ljava/lang/String;" (.ref a2) ∧ Fld Z h a0 kc2 "position" "I" (.int (0 : Int32))
theorem rm_m5_57 (l : Launch) (Z : State) (aZ : Array Value) (hw : ∀ d ∈ tables_1, d.before aZ Z = true) (ws : List Jvm.Cond) (a0 : Addr) (a1 : Addr) (a2 : Addr) (h0 : Heap) (n0 : Nat) (Z0 : n0 ≤ h0.size) (E_a0 : Exa Z h0 a0 kc3) (zz0 : Fld Z h0 a0 kc2 "text" "Ljava/lang/String;" .null) (zz1 : Fld Z h0 a0 kc2 "refusal" "Ljava/lang/String;" .null) (zz2 : Fld Z h0 a0 kc2 "position" "I" (.int (0 : Int32))) (zz3 : n0 ≤ a0) :
    MetN l Z yn_5 method_1_code 3 none ws ({ frames := 2, cells := 0, slots := 0, locals := 26 } : Room) #[(.ref a0), (.ref a1), (.ref a2)] h0 (Q_m5_57 Z a0 a1 a2 h0 n0) := by
 refine MetN.of (plainFor_of_name pn_2) ?_
 intro p e s m below meth c s₁ hret hx hby hml hown hnm hlk hZ X0 e0
 have N0 := Fr.nil n0
 rw [ef_m5_57 m a0 a1 a2]
 refine w_aloadN X0 hx (d5_0 hby) rfl rfl (pc' := 1) rfl ?_
 refine w_aloadN X0 hx (d5_1 hby) rfl rfl (pc' := 2) rfl ?_
 refine w_aloadN X0 hx (d5_2 hby) rfl rfl (pc' := 3) rfl ?_
 refine w_special X0 hx (y := yn_6) rfl hown (mvT hZ (wd_33 hw)) (mvT hZ (wd_34 hw)) (mvT hZ (wd_37 hw)) (by decide) (backOf (W := 0) (rm_m6_58 l Z aZ hw [] a0 a1 a2 h0 n0 Z0 E_a0 zz0 zz3 zz1 zz2) hZ (wd_37 hw) (wd_36 hw) (by decide) (by decide)) (by rw [hml]; rfl) [(.ref a1), (.ref a2)] (lenOf pd_10 rfl) rfl (Nat.le_of_eq rfl) (d5_3 hby) (fun _ _ => ⟨rfl, e0, (by decide : 0 + 0 ≤ _), (by decide : 0 + 0 ≤ _)⟩) (pc' := 6) rfl ?_
 rintro _ _ ⟨T20, L20, k20, n20⟩ X20 ⟨Lc20, hQ20, l20, y20, z20⟩
 dsimp only [Pt.U, Pt.locs, Pt.cells, Pt.slots] at X20 l20 y20 z20 hQ20 ⊢
 subst l20 y20 z20
 obtain ⟨rfl, N20q, K20, g20_0, g20_1, g20_2, g20_3⟩ := hQ20
 have N21 := Fr.app N0 N20q
 have K22 : Keep h0 T20.heap [a0] := (Keep.refl h0 [a0]).trans K20 (allS (Or.inl (by simp)) (all0 (P := fun x => x ∈ [a0] ∨ h0.size ≤ x)))
 show Runs _ _ _ _ (T20.setTop (mkF m 6 #[.val (.ref a0), .val (.ref a1), .val (.ref a2)] []))
 exact w_done X20 hlk (v := none) rfl (fun _ => rfl) (fun fs hr => X20.returnOut hx hret (d5_6 hby) hr) (by decide) (by decide) (⟨rfl, N21, K22, g20_0, g20_1, g20_2, g20_3⟩)
theorem ef_m9_61 (m : MethodId) (a0 : Addr)  : entryFrame m #[(.ref a0)] 1 = mkF m 0 #[.val (.ref a0)] [] := by first | (simp [entryFrame, mkF, argsToLocals, Value.category]; done) | rfl
def Q_m9_61 (Z : State) (a0 : Addr) (jj0 : Int32) (h0 : Heap) (n0 : Nat) (v : Option Value) (h : Heap) (L : List Loc) : Prop := v = some (.int (0 : Int32)) ∧ Fr n0 L ∧ h = h0
theorem rm_m9_61 (l : Launch) (Z : State) (aZ : Array Value) (hw : ∀ d ∈ tables_1, d.before aZ Z = true) (ws : List Jvm.Cond) (a0 : Addr) (jj0 : Int32) (h0 : Heap) (n0 : Nat) (Z0 : n0 ≤ h0.size) (zz1 : Sta Z Z.heap kc0 "COMPACT_STRINGS" "Z" (.int jj0)) (O0 : Old Z n0 h0) (hP_2 : ¬ (jj0 = (0 : Int32))) (zz2 : Fld Z h0 a0 kc0 "coder" "B" (.int (0 : Int32))) :
    MetN l Z yn_9 jdk_42_method_152_code 1 (some .byte) ws ({ frames := 0, cells := 0, slots := 0, locals := 0 } : Room) #[(.ref a0)] h0 (Q_m9_61 Z a0 jj0 h0 n0) := by
 refine MetN.of (plainFor_of_name pn_0) ?_
 intro p e s m below meth c s₁ hret hx hby hml hown hnm hlk hZ X0 e0
 have N0 := Fr.nil n0
 rw [ef_m9_61 m a0]
 refine w_getS X0 hx "" hZ hown (Or.inl (wd_63 hw)) Via.refl e0 (zz1.ext O0.2) (d9_0 hby) (pc' := 3) rfl ?_
 intro T20 X20 e20
 refine w_ifN X20 hx (d9_3 hby) (feq hP_2).1 (pc' := 6) rfl ?_
 refine w_aloadN X20 hx (d9_6 hby) rfl rfl (pc' := 7) rfl ?_
 refine w_getF X20 hx "" hZ hown (Or.inl (wd_26 hw)) Via.refl e20 zz2 (d9_7 hby) (pc' := 10) rfl ?_
 intro T21 X21 e21
 refine w_goto X21 hx (d9_10 hby) (pc' := 14) (by decide) (by decide) ?_
 exact w_done X21 hlk (v := some (.int (0 : Int32))) e21 (fun h => by rw [hret] at h; cases h) (fun fs hr => retN X21 hx (t := .byte) hret (by simp) (d9_14 hby) hr) (by decide) (by decide) (⟨rfl, N0, rfl⟩)
theorem ef_m8_60 (m : MethodId) (a0 : Addr)  : entryFrame m #[(.ref a0)] 1 = mkF m 0 #[.val (.ref a0)] [] := by first | (simp [entryFrame, mkF, argsToLocals, Value.category]; done) | rfl
def Q_m8_60 (Z : State) (a0 : Addr) (jj0 : Addr) (jj1 : ClassId) (jj2 : Int32) (jj3 : List Int32) (jj4 : Int32) (h0 : Heap) (n0 : Nat) (v : Option Value) (h : Heap) (L : List Loc) : Prop := v = some (.int (jj2 >>> ((0 : Int32) &&& 31))) ∧ Fr n0 L ∧ h = h0
theorem rm_m8_60 (l : Launch) (Z : State) (aZ : Array Value) (hw : ∀ d ∈ tables_1, d.before aZ Z = true) (ws : List Jvm.Cond) (a0 : Addr) (jj0 : Addr) (jj1 : ClassId) (jj2 : Int32) (jj3 : List Int32) (jj4 : Int32) (h0 : Heap) (n0 : Nat) (Z0 : n0 ≤ h0.size) (zz5 : Fld Z h0 a0 kc0 "value" "[B" (.ref jj0)) (zz6 : Arv Z h0 jj0 jj1 .byte jj2 (mI jj3) (.int (0 : Int32))) (E_a0 : Exa Z h0 a0 kc0) (hP_3 : ¬ (jj4 = (0 : Int32))) (zz7 : Fld Z h0 a0 kc0 "coder" "B" (.int (0 : Int32))) (zz8 : Sta Z Z.heap kc0 "COMPACT_STRINGS" "Z" (.int jj4)) (O0 : Old Z n0 h0) :
    MetN l Z yn_8 jdk_42_method_54_code 1 (some .int) ws ({ frames := 1, cells := 0, slots := 0, locals := 13 } : Room) #[(.ref a0)] h0 (Q_m8_60 Z a0 jj0 jj1 jj2 jj3 jj4 h0 n0) := by
 refine MetN.of (plainFor_of_name pn_0) ?_
 intro p e s m below meth c s₁ hret hx hby hml hown hnm hlk hZ X0 e0
 have N0 := Fr.nil n0
 rw [ef_m8_60 m a0]
 refine w_aloadN X0 hx (d8_0 hby) rfl rfl (pc' := 1) rfl ?_
 refine w_getF X0 hx "" hZ hown (Or.inl (wd_25 hw)) Via.refl e0 zz5 (d8_1 hby) (pc' := 4) rfl ?_
 intro T20 X20 e20
 refine w_alen X20 hx hZ e20 zz6 (d8_4 hby) (pc' := 5) rfl ?_
 refine w_aloadN X20 hx (d8_5 hby) rfl rfl (pc' := 6) rfl ?_
 obtain ⟨cq21, kq21, q21a, q21b, q21c⟩ := isOf hZ e20 E_a0
 refine w_virtual X20 hx (y := yn_9) (z := yn_9) hown (mvT hZ (wd_58 hw)) (mvT hZ (wd_59 hw)) (notFace_of_selects (args := #[]) (mvT hZ (wd_61 hw))) (mvT hZ (wd_61 hw)) (mvT hZ (wd_60 hw)) (by decide) (backOf (W := 1) (rm_m9_61 l Z aZ hw [] a0 jj4 h0 n0 Z0 zz8 O0 hP_3 zz7) hZ (wd_62 hw) (wd_8 hw) (by decide) (by decide)) q21a q21c (by rw [hml]; rfl) [] (lenOf pd_11 rfl) rfl (Nat.le_of_eq rfl) (d8_6 hby) (fun _ _ => ⟨rfl, e20, (by decide : 0 + 0 ≤ _), (by decide : 0 + 0 ≤ _)⟩) (pc' := 9) rfl ?_
 rintro _ _ ⟨T21, L21, k21, n21⟩ X21 ⟨Lc21, hQ21, l21, y21, z21⟩
 dsimp only [Pt.U, Pt.locs, Pt.cells, Pt.slots] at X21 l21 y21 z21 hQ21 ⊢
 subst l21 y21 z21
 obtain ⟨rfl, N21q, e21⟩ := hQ21
 have N22 := Fr.app N0 N21q
 show Runs _ _ _ _ (T21.setTop (mkF m 9 #[.val (.ref a0)] [(.int (0 : Int32)), (.int jj2)]))
 refine w_ishr X21 hx (d8_9 hby) (pc' := 10) rfl ?_
 exact w_done X21 hlk (v := some (.int (jj2 >>> ((0 : Int32) &&& 31)))) e21 (fun h => by rw [hret] at h; cases h) (fun fs hr => retI X21 hx hret (d8_10 hby) hr) (by decide) (by decide) (⟨rfl, N22, rfl⟩)
theorem ef_m14_63 (m : MethodId) (a0 : Addr)  : entryFrame m #[(.ref a0)] 1 = mkF m 0 #[.val (.ref a0)] [] := by first | (simp [entryFrame, mkF, argsToLocals, Value.category]; done) | rfl
def Q_m14_63 (Z : State) (a0 : Addr) (jj0 : Int32) (h0 : Heap) (n0 : Nat) (v : Option Value) (h : Heap) (L : List Loc) : Prop := v = some (.int (1 : Int32)) ∧ Fr n0 L ∧ h = h0
theorem rm_m14_63 (l : Launch) (Z : State) (aZ : Array Value) (hw : ∀ d ∈ tables_1, d.before aZ Z = true) (ws : List Jvm.Cond) (a0 : Addr) (jj0 : Int32) (h0 : Heap) (n0 : Nat) (Z0 : n0 ≤ h0.size) (zz1 : Sta Z Z.heap kc0 "COMPACT_STRINGS" "Z" (.int jj0)) (O0 : Old Z n0 h0) (hP_2 : ¬ (jj0 = (0 : Int32))) (zz2 : Fld Z h0 a0 kc0 "coder" "B" (.int (0 : Int32))) :
    MetN l Z yn_14 jdk_42_method_154_code 1 (some .boolean) ws ({ frames := 0, cells := 0, slots := 0, locals := 0 } : Room) #[(.ref a0)] h0 (Q_m14_63 Z a0 jj0 h0 n0) := by
 refine MetN.of (plainFor_of_name pn_0) ?_
 intro p e s m below meth c s₁ hret hx hby hml hown hnm hlk hZ X0 e0
 have N0 := Fr.nil n0
 rw [ef_m14_63 m a0]
 refine w_getS X0 hx "" hZ hown (Or.inl (wd_63 hw)) Via.refl e0 (zz1.ext O0.2) (d14_0 hby) (pc' := 3) rfl ?_
 intro T20 X20 e20
 refine w_ifN X20 hx (d14_3 hby) (feq hP_2).1 (pc' := 6) rfl ?_
 refine w_aloadN X20 hx (d14_6 hby) rfl rfl (pc' := 7) rfl ?_
 refine w_getF X20 hx "" hZ hown (Or.inl (wd_26 hw)) Via.refl e20 zz2 (d14_7 hby) (pc' := 10) rfl ?_
 intro T21 X21 e21
 refine w_ifN X21 hx (d14_10 hby) (teq (by decide : (0 : Int32) = (0 : Int32))).2 (pc' := 13) rfl ?_
 refine w_iconst X21 hx (d14_13 hby) (v := (1 : Int32)) rfl (pc' := 14) rfl ?_
 refine w_goto X21 hx (d14_14 hby) (pc' := 18) (by decide) (by decide) ?_
 exact w_done X21 hlk (v := some (.int (1 : Int32))) e21 (fun h => by rw [hret] at h; cases h) (fun fs hr => retN X21 hx (t := .boolean) hret (by simp) (d14_18 hby) hr) (by decide) (by decide) (⟨rfl, N0, rfl⟩)
theorem ef_m17_66 (m : MethodId) (p0 : Int32) (p1 : Int32) (v2 : Value) (r_v2 : v2.isRef = true) : entryFrame m #[(.int p0), (.int p1), v2] 3 = mkF m 0 #[.val (.int p0), .val (.int p1), .val v2] [] := by
  rcases XT.refc r_v2 with rfl | ⟨z_v2, rfl⟩ <;> first | (simp [entryFrame, mkF, argsToLocals, Value.category]; done) | rfl
def Q_m17_66 (Z : State) (p0 : Int32) (p1 : Int32) (v2 : Value) (h0 : Heap) (n0 : Nat) (v : Option Value) (h : Heap) (L : List Loc) : Prop := v = some (.int p0) ∧ Fr n0 L ∧ h = h0
theorem rm_m17_66 (l : Launch) (Z : State) (aZ : Array Value) (hw : ∀ d ∈ tables_1, d.before aZ Z = true) (ws : List Jvm.Cond) (p0 : Int32) (p1 : Int32) (v2 : Value) (h0 : Heap) (n0 : Nat) (Z0 : n0 ≤ h0.size) (r_v2 : v2.isRef = true) (hP_1 : ¬ (p0 < (0 : Int32))) (hP_2 : p0 < p1) :
    MetN l Z yn_17 jdk_41_method_11_code 3 (some .int) ws ({ frames := 0, cells := 0, slots := 0, locals := 0 } : Room) #[(.int p0), (.int p1), v2] h0 (Q_m17_66 Z p0 p1 v2 h0 n0) := by
 refine MetN.of (plainFor_of_name pn_4) ?_
 intro p e s m below meth c s₁ hret hx hby hml hown hnm hlk hZ X0 e0
 have N0 := Fr.nil n0
 rw [ef_m17_66 m p0 p1 v2 r_v2]
 refine w_iloadN X0 hx (d17_0 hby) rfl (pc' := 1) rfl ?_
 refine w_ifN X0 hx (d17_1 hby) (flt hP_1).1 (pc' := 4) rfl ?_
 refine w_iloadN X0 hx (d17_4 hby) rfl (pc' := 5) rfl ?_
 refine w_iloadN X0 hx (d17_5 hby) rfl (pc' := 6) rfl ?_
 refine w_icY X0 hx (d17_6 hby) (tlt hP_2).1 (pc' := 16) (by decide) (by decide) ?_
 refine w_iloadN X0 hx (d17_16 hby) rfl (pc' := 17) rfl ?_
 exact w_done X0 hlk (v := some (.int p0)) e0 (fun h => by rw [hret] at h; cases h) (fun fs hr => retI X0 hx hret (d17_17 hby) hr) (by decide) (by decide) (⟨rfl, N0, rfl⟩)
theorem ef_m16_65 (m : MethodId) (p0 : Int32) (p1 : Int32)  : entryFrame m #[(.int p0), (.int p1)] 2 = mkF m 0 #[.val (.int p0), .val (.int p1)] [] := by first | (simp [entryFrame, mkF, argsToLocals, Value.category]; done) | rfl
def Q_m16_65 (Z : State) (p0 : Int32) (p1 : Int32) (jj0 : Value) (h0 : Heap) (n0 : Nat) (v : Option Value) (h : Heap) (L : List Loc) : Prop := v = none ∧ Fr n0 L ∧ h = h0
theorem rm_m16_65 (l : Launch) (Z : State) (aZ : Array Value) (hw : ∀ d ∈ tables_1, d.before aZ Z = true) (ws : List Jvm.Cond) (p0 : Int32) (p1 : Int32) (jj0 : Value) (h0 : Heap) (n0 : Nat) (Z0 : n0 ≤ h0.size) (zz1 : jj0.isRef = true) (zz2 : Sta Z Z.heap "jdk/internal/util/Preconditions" "SIOOBE_FORMATTER" "Ljava/util/function/BiFunction;" jj0) (O0 : Old Z n0 h0) (hP_3 : ¬ (p0 < (0 : Int32))) (hP_4 : p0 < p1) :
    MetN l Z yn_16 jdk_42_method_155_code 2 none ws ({ frames := 1, cells := 0, slots := 0, locals := 14 } : Room) #[(.int p0), (.int p1)] h0 (Q_m16_65 Z p0 p1 jj0 h0 n0) := by
 refine MetN.of (plainFor_of_name pn_0) ?_
 intro p e s m below meth c s₁ hret hx hby hml hown hnm hlk hZ X0 e0
 have N0 := Fr.nil n0
 rw [ef_m16_65 m p0 p1]
 refine w_iloadN X0 hx (d16_0 hby) rfl (pc' := 1) rfl ?_
 refine w_iloadN X0 hx (d16_1 hby) rfl (pc' := 2) rfl ?_
 refine w_getS X0 hx "" hZ hown (Or.inl (wd_93 hw)) Via.refl e0 (zz2.ext O0.2) (d16_2 hby) (pc' := 5) rfl ?_
 intro T20 X20 e20
 refine w_static X20 hx (y := yn_17) hown (mvT hZ (wd_95 hw)) (mvT hZ (wd_96 hw)) (mvT hZ (wd_94 hw)) (mvT hZ (wd_97 hw)) (by decide) (backOf (W := 0) (rm_m17_66 l Z aZ hw [] p0 p1 jj0 h0 n0 Z0 zz1 hP_3 hP_4) hZ (wd_97 hw) (wd_94 hw) (by decide) (by decide)) (by rw [hml]; rfl) [(.int p0), (.int p1), jj0] (lenOf pd_14 rfl) rfl (Nat.le_of_eq rfl) (d16_5 hby) (fun _ _ => ⟨rfl, e20, (by decide : 0 + 0 ≤ _), (by decide : 0 + 0 ≤ _)⟩) (pc' := 8) rfl ?_
 rintro _ _ ⟨T21, L21, k21, n21⟩ X21 ⟨Lc21, hQ21, l21, y21, z21⟩
 dsimp only [Pt.U, Pt.locs, Pt.cells, Pt.slots] at X21 l21 y21 z21 hQ21 ⊢
 subst l21 y21 z21
 obtain ⟨rfl, N21q, e21⟩ := hQ21
 have N22 := Fr.app N0 N21q
 show Runs _ _ _ _ (T21.setTop (mkF m 8 #[.val (.int p0), .val (.int p1)] [(.int p0)]))
 refine w_pop X21 hx (d16_8 hby) rfl (pc' := 9) rfl ?_
 exact w_done X21 hlk (v := none) e21 (fun _ => rfl) (fun fs hr => X21.returnOut hx hret (d16_9 hby) hr) (by decide) (by decide) (⟨rfl, N22, rfl⟩)
theorem ef_m15_64 (m : MethodId) (a0 : Addr) (p1 : Int32)  : entryFrame m #[(.ref a0), (.int p1)] 2 = mkF m 0 #[.val (.ref a0), .val (.int p1)] [] := by first | (simp [entryFrame, mkF, argsToLocals, Value.category]; done) | rfl
def Q_m15_64 (Z : State) (a0 : Addr) (p1 : Int32) (k_a0 : ClassId) (jj0 : Int32) (l_a0 : List Int32) (jj1 : Value) (h0 : Heap) (n0 : Nat) (v : Option Value) (h : Heap) (L : List Loc) : Prop := v = some (.int (((gI l_a0 p1) &&& (255 : Int32)).toUInt32.toUInt16.toUInt32.toInt32)) ∧ Fr n0 L ∧ h = h0
theorem rm_m15_64 (l : Launch) (Z : State) (aZ : Array Value) (hw : ∀ d ∈ tables_1, d.before aZ Z = true) (ws : List Jvm.Cond) (a0 : Addr) (p1 : Int32) (k_a0 : ClassId) (jj0 : Int32) (l_a0 : List Int32) (jj1 : Value) (h0 : Heap) (n0 : Nat) (Z0 : n0 ≤ h0.size) (V_a0 : Arv Z h0 a0 k_a0 .byte jj0 (mI l_a0) (.int (0 : Int32))) (hP_1 : ¬ (p1 < (0 : Int32))) (hP_2 : p1 < jj0) (zz2 : jj1.isRef = true) (zz3 : Sta Z Z.heap "jdk/internal/util/Preconditions" "SIOOBE_FORMATTER" "Ljava/util/function/BiFunction;" jj1) (O0 : Old Z n0 h0) :
    MetN l Z yn_15 jdk_43_method_2_code 2 (some .char) ws ({ frames := 2, cells := 0, slots := 0, locals := 27 } : Room) #[(.ref a0), (.int p1)] h0 (Q_m15_64 Z a0 p1 k_a0 jj0 l_a0 jj1 h0 n0) := by
 refine MetN.of (plainFor_of_name pn_5) ?_
 intro p e s m below meth c s₁ hret hx hby hml hown hnm hlk hZ X0 e0
 have N0 := Fr.nil n0
 rw [ef_m15_64 m a0 p1]
 refine w_iloadN X0 hx (d15_0 hby) rfl (pc' := 1) rfl ?_
 refine w_aloadN X0 hx (d15_1 hby) rfl rfl (pc' := 2) rfl ?_
 refine w_alen X0 hx hZ e0 V_a0 (d15_2 hby) (pc' := 3) rfl ?_
 refine w_static X0 hx (y := yn_16) hown (mvT hZ (wd_90 hw)) (mvT hZ (wd_91 hw)) (mvT hZ (wd_8 hw)) (mvT hZ (wd_92 hw)) (by decide) (backOf (W := 0) (rm_m16_65 l Z aZ hw [] p1 jj0 jj1 h0 n0 Z0 zz2 zz3 O0 hP_1 hP_2) hZ (wd_92 hw) (wd_8 hw) (by decide) (by decide)) (by rw [hml]; rfl) [(.int p1), (.int jj0)] (lenOf pd_15 rfl) rfl (Nat.le_of_eq rfl) (d15_3 hby) (fun _ _ => ⟨rfl, e0, (by decide : 0 + 0 ≤ _), (by decide : 0 + 0 ≤ _)⟩) (pc' := 6) rfl ?_
 rintro _ _ ⟨T20, L20, k20, n20⟩ X20 ⟨Lc20, hQ20, l20, y20, z20⟩
 dsimp only [Pt.U, Pt.locs, Pt.cells, Pt.slots] at X20 l20 y20 z20 hQ20 ⊢
 subst l20 y20 z20
 obtain ⟨rfl, N20q, e20⟩ := hQ20
 have N21 := Fr.app N0 N20q
 show Runs _ _ _ _ (T20.setTop (mkF m 6 #[.val (.ref a0), .val (.int p1)] []))
 refine w_aloadN X20 hx (d15_6 hby) rfl rfl (pc' := 7) rfl ?_
 refine w_iloadN X20 hx (d15_7 hby) rfl (pc' := 8) rfl ?_
 obtain ⟨clu22, Aru22, qu22, Su22, Nu22, Hu22, Gu22⟩ := id V_a0
 have hinu22 := inb_of (j := p1) Su22 ⟨hP_1, hP_2⟩
 refine w_baload X20 hx hZ e20 Aru22 hinu22 (Hu22.at hinu22 (own_gI l_a0 p1)) (d15_8 hby) (pc' := 9) rfl ?_
 refine w_sipush X20 hx (d15_9 hby) (v := (255 : Int32)) rfl (pc' := 12) rfl ?_
 refine w_iand X20 hx (d15_12 hby) (pc' := 13) rfl ?_
 refine w_i2c X20 hx (d15_13 hby) (pc' := 14) rfl ?_
 exact w_done X20 hlk (v := some (.int (((gI l_a0 p1) &&& (255 : Int32)).toUInt32.toUInt16.toUInt32.toInt32))) e20 (fun h => by rw [hret] at h; cases h) (fun fs hr => retOut X20 hx hret (t := .char) (XT.narrow_c _) (Or.inl ⟨rfl, by simp, _, rfl⟩) (d15_14 hby) hr) (by decide) (by decide) (⟨rfl, N21, rfl⟩)
theorem ef_m13_62 (m : MethodId) (a0 : Addr) (p1 : Int32)  : entryFrame m #[(.ref a0), (.int p1)] 2 = mkF m 0 #[.val (.ref a0), .val (.int p1)] [] := by first | (simp [entryFrame, mkF, argsToLocals, Value.category]; done) | rfl
def Q_m13_62 (Z : State) (a0 : Addr) (p1 : Int32) (jj0 : Int32) (jj1 : Addr) (jj2 : ClassId) (jj3 : Int32) (jj4 : List Int32) (jj5 : Value) (h0 : Heap) (n0 : Nat) (v : Option Value) (h : Heap) (L : List Loc) : Prop := v = some (.int (((gI jj4 p1) &&& (255 : Int32)).toUInt32.toUInt16.toUInt32.toInt32)) ∧ Fr n0 L ∧ h = h0
theorem rm_m13_62 (l : Launch) (Z : State) (aZ : Array Value) (hw : ∀ d ∈ tables_1, d.before aZ Z = true) (ws : List Jvm.Cond) (a0 : Addr) (p1 : Int32) (jj0 : Int32) (jj1 : Addr) (jj2 : ClassId) (jj3 : Int32) (jj4 : List Int32) (jj5 : Value) (h0 : Heap) (n0 : Nat) (Z0 : n0 ≤ h0.size) (E_a0 : Exa Z h0 a0 kc0) (hP_1 : ¬ (jj0 = (0 : Int32))) (zz6 : Fld Z h0 a0 kc0 "coder" "B" (.int (0 : Int32))) (zz7 : Sta Z Z.heap kc0 "COMPACT_STRINGS" "Z" (.int jj0)) (O0 : Old Z n0 h0) (zz8 : Fld Z h0 a0 kc0 "value" "[B" (.ref jj1)) (zz9 : Arv Z h0 jj1 jj2 .byte jj3 (mI jj4) (.int (0 : Int32))) (hP_7 : ¬ (p1 < (0 : Int32))) (hP_8 : p1 < jj3) (zz10 : jj5.isRef = true) (zz11 : Sta Z Z.heap "jdk/internal/util/Preconditions" "SIOOBE_FORMATTER" "Ljava/util/function/BiFunction;" jj5) :
    MetN l Z yn_13 jdk_42_method_56_code 2 (some .char) ws ({ frames := 3, cells := 0, slots := 0, locals := 40 } : Room) #[(.ref a0), (.int p1)] h0 (Q_m13_62 Z a0 p1 jj0 jj1 jj2 jj3 jj4 jj5 h0 n0) := by
 refine MetN.of (plainFor_of_name pn_0) ?_
 intro p e s m below meth c s₁ hret hx hby hml hown hnm hlk hZ X0 e0
 have N0 := Fr.nil n0
 rw [ef_m13_62 m a0 p1]
 refine w_aloadN X0 hx (d13_0 hby) rfl rfl (pc' := 1) rfl ?_
 obtain ⟨cq20, kq20, q20a, q20b, q20c⟩ := isOf hZ e0 E_a0
 refine w_virtual X0 hx (y := yn_14) (z := yn_14) hown (mvT hZ (wd_81 hw)) (mvT hZ (wd_82 hw)) (notFace_of_selects (args := #[]) (mvT hZ (wd_84 hw))) (mvT hZ (wd_84 hw)) (mvT hZ (wd_83 hw)) (by decide) (backOf (W := 0) (rm_m14_63 l Z aZ hw [] a0 jj0 h0 n0 Z0 zz7 O0 hP_1 zz6) hZ (wd_85 hw) (wd_8 hw) (by decide) (by decide)) q20a q20c (by rw [hml]; rfl) [] (lenOf pd_13 rfl) rfl (Nat.le_of_eq rfl) (d13_1 hby) (fun _ _ => ⟨rfl, e0, (by decide : 0 + 0 ≤ _), (by decide : 0 + 0 ≤ _)⟩) (pc' := 4) rfl ?_
 rintro _ _ ⟨T20, L20, k20, n20⟩ X20 ⟨Lc20, hQ20, l20, y20, z20⟩
 dsimp only [Pt.U, Pt.locs, Pt.cells, Pt.slots] at X20 l20 y20 z20 hQ20 ⊢
 subst l20 y20 z20
 obtain ⟨rfl, N20q, e20⟩ := hQ20
 have N21 := Fr.app N0 N20q
 show Runs _ _ _ _ (T20.setTop (mkF m 4 #[.val (.ref a0), .val (.int p1)] [(.int (1 : Int32))]))
 refine w_ifN X20 hx (d13_4 hby) (feq (by decide : ¬ ((1 : Int32) = (0 : Int32)))).1 (pc' := 7) rfl ?_
 refine w_aloadN X20 hx (d13_7 hby) rfl rfl (pc' := 8) rfl ?_
 refine w_getF X20 hx "" hZ hown (Or.inl (wd_25 hw)) Via.refl e20 zz8 (d13_8 hby) (pc' := 11) rfl ?_
 intro T22 X22 e22
 refine w_iloadN X22 hx (d13_11 hby) rfl (pc' := 12) rfl ?_
 refine w_static X22 hx (y := yn_15) hown (mvT hZ (wd_86 hw)) (mvT hZ (wd_87 hw)) (mvT hZ (wd_88 hw)) (mvT hZ (wd_89 hw)) (by decide) (backOf (W := 0) (rm_m15_64 l Z aZ hw [] jj1 p1 jj2 jj3 jj4 jj5 h0 n0 Z0 zz9 hP_7 hP_8 zz10 zz11 O0) hZ (wd_89 hw) (wd_88 hw) (by decide) (by decide)) (by rw [hml]; rfl) [(.ref jj1), (.int p1)] (lenOf pd_7 rfl) rfl (Nat.le_of_eq rfl) (d13_12 hby) (fun _ _ => ⟨rfl, e22, (by decide : 0 + 0 ≤ _), (by decide : 0 + 0 ≤ _)⟩) (pc' := 15) rfl ?_
 rintro _ _ ⟨T23, L23, k23, n23⟩ X23 ⟨Lc23, hQ23, l23, y23, z23⟩
 dsimp only [Pt.U, Pt.locs, Pt.cells, Pt.slots] at X23 l23 y23 z23 hQ23 ⊢
 subst l23 y23 z23
 obtain ⟨rfl, N23q, e23⟩ := hQ23
 have N24 := Fr.app N21 N23q
 show Runs _ _ _ _ (T23.setTop (mkF m 15 #[.val (.ref a0), .val (.int p1)] [(.int (((gI jj4 p1) &&& (255 : Int32)).toUInt32.toUInt16.toUInt32.toInt32))]))
 exact w_done X23 hlk (v := some (.int (((gI jj4 p1) &&& (255 : Int32)).toUInt32.toUInt16.toUInt32.toInt32))) e23 (fun h => by rw [hret] at h; cases h) (fun fs hr => retOut X23 hx hret (t := .char) (XT.narrow_c _) (Or.inl ⟨rfl, by simp, _, rfl⟩) (d13_15 hby) hr) (by decide) (by decide) (⟨rfl, N24, rfl⟩)
theorem ef_m7_59 (m : MethodId) (a0 : Addr) (p1 : Int32)  : entryFrame m #[(.ref a0), (.int p1)] 2 = mkF m 0 #[.val (.ref a0), .val (.int p1)] [] := by first | (simp [entryFrame, mkF, argsToLocals, Value.category]; done) | rfl
def Q_m7_59 (Z : State) (a0 : Addr) (p1 : Int32) (jj0 : Int32) (jj1 : Addr) (jj2 : Addr) (jj3 : ClassId) (jj4 : Int32) (jj5 : List Int32) (jj6 : Int32) (jj7 : Value) (h0 : Heap) (n0 : Nat) (v : Option Value) (h : Heap) (L : List Loc) : Prop := v = some (.int (if (((gI jj5 jj0) &&& (255 : Int32)).toUInt32.toUInt16.toUInt32.toInt32) = p1 then (1 : Int32) else (0 : Int32))) ∧ Fr n0 L ∧ h = h0
theorem rm_m7_59 (l : Launch) (Z : State) (aZ : Array Value) (hw : ∀ d ∈ tables_1, d.before aZ Z = true) (ws : List Jvm.Cond) (a0 : Addr) (p1 : Int32) (jj0 : Int32) (jj1 : Addr) (jj2 : Addr) (jj3 : ClassId) (jj4 : Int32) (jj5 : List Int32) (jj6 : Int32) (jj7 : Value) (h0 : Heap) (n0 : Nat) (Z0 : n0 ≤ h0.size) (zz8 : Fld Z h0 a0 kc2 "position" "I" (.int jj0)) (zz9 : Fld Z h0 a0 kc2 "text" "Ljava/lang/String;" (.ref jj1)) (zz10 : Exa Z h0 jj1 kc0) (zz11 : Fld Z h0 jj1 kc0 "value" "[B" (.ref jj2)) (zz12 : Arv Z h0 jj2 jj3 .byte jj4 (mI jj5) (.int (0 : Int32))) (zz13 : Fld Z h0 jj1 kc0 "coder" "B" (.int (0 : Int32))) (zz14 : Sta Z Z.heap kc0 "COMPACT_STRINGS" "Z" (.int jj6)) (O0 : Old Z n0 h0) (hP_8 : ¬ (jj6 = (0 : Int32))) (hP_9 : jj0 < jj4) (zz15 : ¬ (jj0 < (0 : Int32))) (zz16 : jj7.isRef = true) (zz17 : Sta Z Z.heap "jdk/internal/util/Preconditions" "SIOOBE_FORMATTER" "Ljava/util/function/BiFunction;" jj7) :
    MetN l Z yn_7 prog_52_method_2_code 2 (some .boolean) ws ({ frames := 4, cells := 0, slots := 0, locals := 53 } : Room) #[(.ref a0), (.int p1)] h0 (Q_m7_59 Z a0 p1 jj0 jj1 jj2 jj3 jj4 jj5 jj6 jj7 h0 n0) := by
 refine MetN.of (plainFor_of_name pn_3) ?_
 intro p e s m below meth c s₁ hret hx hby hml hown hnm hlk hZ X0 e0
 have N0 := Fr.nil n0
 rw [ef_m7_59 m a0 p1]
 refine w_aloadN X0 hx (d7_0 hby) rfl rfl (pc' := 1) rfl ?_
 refine w_getF X0 hx "" hZ hown (Or.inl (wd_52 hw)) Via.refl e0 zz8 (d7_1 hby) (pc' := 4) rfl ?_
 intro T20 X20 e20
 refine w_aloadN X20 hx (d7_4 hby) rfl rfl (pc' := 5) rfl ?_
 refine w_getF X20 hx "" hZ hown (Or.inl (wd_39 hw)) Via.refl e20 zz9 (d7_5 hby) (pc' := 8) rfl ?_
 intro T21 X21 e21
 obtain ⟨cq22, kq22, q22a, q22b, q22c⟩ := isOf hZ e21 zz10
 refine w_virtual X21 hx (y := yn_8) (z := yn_8) hown (mvT hZ (wd_53 hw)) (mvT hZ (wd_54 hw)) (notFace_of_selects (args := #[]) (mvT hZ (wd_56 hw))) (mvT hZ (wd_56 hw)) (mvT hZ (wd_55 hw)) (by decide) (backOf (W := 1) (rm_m8_60 l Z aZ hw [] jj1 jj2 jj3 jj4 jj5 jj6 h0 n0 Z0 zz11 zz12 zz10 hP_8 zz13 zz14 O0) hZ (wd_57 hw) (wd_8 hw) (by decide) (by decide)) q22a q22c (by rw [hml]; rfl) [] (lenOf pd_12 rfl) rfl (Nat.le_of_eq rfl) (d7_8 hby) (fun _ _ => ⟨rfl, e21, (by decide : 0 + 0 ≤ _), (by decide : 0 + 0 ≤ _)⟩) (pc' := 11) rfl ?_
 rintro _ _ ⟨T22, L22, k22, n22⟩ X22 ⟨Lc22, hQ22, l22, y22, z22⟩
 dsimp only [Pt.U, Pt.locs, Pt.cells, Pt.slots] at X22 l22 y22 z22 hQ22 ⊢
 subst l22 y22 z22
 obtain ⟨rfl, N22q, e22⟩ := hQ22
 have N23 := Fr.app N0 N22q
 show Runs _ _ _ _ (T22.setTop (mkF m 11 #[.val (.ref a0), .val (.int p1)] [(.int (jj4 >>> ((0 : Int32) &&& 31))), (.int jj0)]))
 refine w_icN X22 hx (d7_11 hby) (tlt (show jj0 < (jj4 >>> ((0 : Int32) &&& 31)) from by rw [own_shr0]; exact hP_9)).2.1 (pc' := 14) rfl ?_
 refine w_aloadN X22 hx (d7_14 hby) rfl rfl (pc' := 15) rfl ?_
 refine w_getF X22 hx "" hZ hown (Or.inl (wd_39 hw)) Via.refl e22 zz9 (d7_15 hby) (pc' := 18) rfl ?_
 intro T24 X24 e24
 refine w_aloadN X24 hx (d7_18 hby) rfl rfl (pc' := 19) rfl ?_
 refine w_getF X24 hx "" hZ hown (Or.inl (wd_52 hw)) Via.refl e24 zz8 (d7_19 hby) (pc' := 22) rfl ?_
 intro T25 X25 e25
 obtain ⟨cq26, kq26, q26a, q26b, q26c⟩ := isOf hZ e25 zz10
 refine w_virtual X25 hx (y := yn_13) (z := yn_13) hown (mvT hZ (wd_76 hw)) (mvT hZ (wd_77 hw)) (notFace_of_selects (args := #[]) (mvT hZ (wd_79 hw))) (mvT hZ (wd_79 hw)) (mvT hZ (wd_78 hw)) (by decide) (backOf (W := 0) (rm_m13_62 l Z aZ hw [] jj1 jj0 jj6 jj2 jj3 jj4 jj5 jj7 h0 n0 Z0 zz10 hP_8 zz13 zz14 O0 zz11 zz12 zz15 hP_9 zz16 zz17) hZ (wd_80 hw) (wd_8 hw) (by decide) (by decide)) q26a q26c (by rw [hml]; rfl) [(.int jj0)] (lenOf pd_16 rfl) rfl (Nat.le_of_eq rfl) (d7_22 hby) (fun _ _ => ⟨rfl, e25, (by decide : 0 + 0 ≤ _), (by decide : 0 + 0 ≤ _)⟩) (pc' := 25) rfl ?_
 rintro _ _ ⟨T26, L26, k26, n26⟩ X26 ⟨Lc26, hQ26, l26, y26, z26⟩
 dsimp only [Pt.U, Pt.locs, Pt.cells, Pt.slots] at X26 l26 y26 z26 hQ26 ⊢
 subst l26 y26 z26
 obtain ⟨rfl, N26q, e26⟩ := hQ26
 have N27 := Fr.app N23 N26q
 show Runs _ _ _ _ (T26.setTop (mkF m 25 #[.val (.ref a0), .val (.int p1)] [(.int (((gI jj5 jj0) &&& (255 : Int32)).toUInt32.toUInt16.toUInt32.toInt32))]))
 refine w_iloadN X26 hx (d7_25 hby) rfl (pc' := 26) rfl ?_
 suffices key29 : Runs p e below (EndN s (Q_m7_59 Z a0 p1 jj0 jj1 jj2 jj3 jj4 jj5 jj6 jj7 h0 n0) ({ frames := 4, cells := 0, slots := 0, locals := 53 } : Room).cells ({ frames := 4, cells := 0, slots := 0, locals := 53 } : Room).slots) (T26.setTop (mkF m 34 #[.val (.ref a0), .val (.int p1)] [(.int (if (((gI jj5 jj0) &&& (255 : Int32)).toUInt32.toUInt16.toUInt32.toInt32) = p1 then (1 : Int32) else (0 : Int32)))])) by
  by_cases hc28 : (((gI jj5 jj0) &&& (255 : Int32)).toUInt32.toUInt16.toUInt32.toInt32) = p1
  · rw [if_pos hc28] at key29
    refine w_icN X26 hx (d7_26 hby) (teq hc28).2 (pc' := 29) rfl ?_
    refine w_iconst X26 hx (d7_29 hby) (v := (1 : Int32)) rfl (pc' := 30) rfl ?_
    refine w_goto X26 hx (d7_30 hby) (pc' := 34) (by decide) (by decide) ?_
    exact key29
  · rw [if_neg hc28] at key29
    refine w_icY X26 hx (d7_26 hby) (feq hc28).2 (pc' := 33) (by decide) (by decide) ?_
    refine w_iconst X26 hx (d7_33 hby) (v := (0 : Int32)) rfl (pc' := 34) rfl ?_
    exact key29
 exact w_done X26 hlk (v := some (.int (if (((gI jj5 jj0) &&& (255 : Int32)).toUInt32.toUInt16.toUInt32.toInt32) = p1 then (1 : Int32) else (0 : Int32)))) e26 (fun h => by rw [hret] at h; cases h) (fun fs hr => retOut X26 hx hret (t := .boolean) (narrow_nar (t := .boolean) (by simp) nar_ite) (Or.inl ⟨rfl, by simp, _, rfl⟩) (d7_34 hby) hr) (by decide) (by decide) (⟨rfl, N27, rfl⟩)
theorem ef_m7_67 (m : MethodId) (a0 : Addr) (p1 : Int32)  : entryFrame m #[(.ref a0), (.int p1)] 2 = mkF m 0 #[.val (.ref a0), .val (.int p1)] [] := by first | (simp [entryFrame, mkF, argsToLocals, Value.category]; done) | rfl
def Q_m7_67 (Z : State) (a0 : Addr) (p1 : Int32) (jj0 : Int32) (jj1 : Addr) (jj2 : Addr) (jj3 : ClassId) (jj4 : Int32) (jj5 : List Int32) (jj6 : Int32) (h0 : Heap) (n0 : Nat) (v : Option Value) (h : Heap) (L : List Loc) : Prop := v = some (.int (0 : Int32)) ∧ Fr n0 L ∧ h = h0
theorem rm_m7_67 (l : Launch) (Z : State) (aZ : Array Value) (hw : ∀ d ∈ tables_1, d.before aZ Z = true) (ws : List Jvm.Cond) (a0 : Addr) (p1 : Int32) (jj0 : Int32) (jj1 : Addr) (jj2 : Addr) (jj3 : ClassId) (jj4 : Int32) (jj5 : List Int32) (jj6 : Int32) (h0 : Heap) (n0 : Nat) (Z0 : n0 ≤ h0.size) (zz7 : Fld Z h0 a0 kc2 "position" "I" (.int jj0)) (zz8 : Fld Z h0 a0 kc2 "text" "Ljava/lang/String;" (.ref jj1)) (zz9 : Exa Z h0 jj1 kc0) (zz10 : Fld Z h0 jj1 kc0 "value" "[B" (.ref jj2)) (zz11 : Arv Z h0 jj2 jj3 .byte jj4 (mI jj5) (.int (0 : Int32))) (zz12 : Fld Z h0 jj1 kc0 "coder" "B" (.int (0 : Int32))) (zz13 : Sta Z Z.heap kc0 "COMPACT_STRINGS" "Z" (.int jj6)) (O0 : Old Z n0 h0) (hP_8 : ¬ (jj6 = (0 : Int32))) (hP_9 : ¬ (jj0 < jj4)) :
    MetN l Z yn_7 prog_52_method_2_code 2 (some .boolean) ws ({ frames := 2, cells := 0, slots := 0, locals := 26 } : Room) #[(.ref a0), (.int p1)] h0 (Q_m7_67 Z a0 p1 jj0 jj1 jj2 jj3 jj4 jj5 jj6 h0 n0) := by
 refine MetN.of (plainFor_of_name pn_3) ?_
 intro p e s m below meth c s₁ hret hx hby hml hown hnm hlk hZ X0 e0
 have N0 := Fr.nil n0
 rw [ef_m7_67 m a0 p1]
 refine w_aloadN X0 hx (d7_0 hby) rfl rfl (pc' := 1) rfl ?_
 refine w_getF X0 hx "" hZ hown (Or.inl (wd_52 hw)) Via.refl e0 zz7 (d7_1 hby) (pc' := 4) rfl ?_
 intro T20 X20 e20
 refine w_aloadN X20 hx (d7_4 hby) rfl rfl (pc' := 5) rfl ?_
 refine w_getF X20 hx "" hZ hown (Or.inl (wd_39 hw)) Via.refl e20 zz8 (d7_5 hby) (pc' := 8) rfl ?_
 intro T21 X21 e21
 obtain ⟨cq22, kq22, q22a, q22b, q22c⟩ := isOf hZ e21 zz9
 refine w_virtual X21 hx (y := yn_8) (z := yn_8) hown (mvT hZ (wd_53 hw)) (mvT hZ (wd_54 hw)) (notFace_of_selects (args := #[]) (mvT hZ (wd_56 hw))) (mvT hZ (wd_56 hw)) (mvT hZ (wd_55 hw)) (by decide) (backOf (W := 1) (rm_m8_60 l Z aZ hw [] jj1 jj2 jj3 jj4 jj5 jj6 h0 n0 Z0 zz10 zz11 zz9 hP_8 zz12 zz13 O0) hZ (wd_57 hw) (wd_8 hw) (by decide) (by decide)) q22a q22c (by rw [hml]; rfl) [] (lenOf pd_12 rfl) rfl (Nat.le_of_eq rfl) (d7_8 hby) (fun _ _ => ⟨rfl, e21, (by decide : 0 + 0 ≤ _), (by decide : 0 + 0 ≤ _)⟩) (pc' := 11) rfl ?_
 rintro _ _ ⟨T22, L22, k22, n22⟩ X22 ⟨Lc22, hQ22, l22, y22, z22⟩
 dsimp only [Pt.U, Pt.locs, Pt.cells, Pt.slots] at X22 l22 y22 z22 hQ22 ⊢
 subst l22 y22 z22
 obtain ⟨rfl, N22q, e22⟩ := hQ22
 have N23 := Fr.app N0 N22q
 show Runs _ _ _ _ (T22.setTop (mkF m 11 #[.val (.ref a0), .val (.int p1)] [(.int (jj4 >>> ((0 : Int32) &&& 31))), (.int jj0)]))
 refine w_icY X22 hx (d7_11 hby) (flt (show ¬ (jj0 < (jj4 >>> ((0 : Int32) &&& 31))) from by rw [own_shr0]; exact hP_9)).2.1 (pc' := 33) (by decide) (by decide) ?_
 refine w_iconst X22 hx (d7_33 hby) (v := (0 : Int32)) rfl (pc' := 34) rfl ?_
 exact w_done X22 hlk (v := some (.int (0 : Int32))) e22 (fun h => by rw [hret] at h; cases h) (fun fs hr => retN X22 hx (t := .boolean) hret (by simp) (d7_34 hby) hr) (by decide) (by decide) (⟨rfl, N23, rfl⟩)
theorem ef_m9_70 (m : MethodId) (a0 : Addr)  : entryFrame m #[(.ref a0)] 1 = mkF m 0 #[.val (.ref a0)] [] := by first | (simp [entryFrame, mkF, argsToLocals, Value.category]; done) | rfl
def Q_m9_70 (Z : State) (a0 : Addr) (jj0 : Int32) (h0 : Heap) (n0 : Nat) (v : Option Value) (h : Heap) (L : List Loc) : Prop := v = some (.int (1 : Int32)) ∧ Fr n0 L ∧ h = h0
theorem rm_m9_70 (l : Launch) (Z : State) (aZ : Array Value) (hw : ∀ d ∈ tables_1, d.before aZ Z = true) (ws : List Jvm.Cond) (a0 : Addr) (jj0 : Int32) (h0 : Heap) (n0 : Nat) (Z0 : n0 ≤ h0.size) (zz1 : Sta Z Z.heap kc0 "COMPACT_STRINGS" "Z" (.int jj0)) (O0 : Old Z n0 h0) (hP_2 : ¬ (jj0 = (0 : Int32))) (zz2 : Fld Z h0 a0 kc0 "coder" "B" (.int (1 : Int32))) :
    MetN l Z yn_9 jdk_42_method_152_code 1 (some .byte) ws ({ frames := 0, cells := 0, slots := 0, locals := 0 } : Room) #[(.ref a0)] h0 (Q_m9_70 Z a0 jj0 h0 n0) := by
 refine MetN.of (plainFor_of_name pn_0) ?_
 intro p e s m below meth c s₁ hret hx hby hml hown hnm hlk hZ X0 e0
 have N0 := Fr.nil n0
 rw [ef_m9_70 m a0]
 refine w_getS X0 hx "" hZ hown (Or.inl (wd_63 hw)) Via.refl e0 (zz1.ext O0.2) (d9_0 hby) (pc' := 3) rfl ?_
 intro T20 X20 e20
 refine w_ifN X20 hx (d9_3 hby) (feq hP_2).1 (pc' := 6) rfl ?_
 refine w_aloadN X20 hx (d9_6 hby) rfl rfl (pc' := 7) rfl ?_
 refine w_getF X20 hx "" hZ hown (Or.inl (wd_26 hw)) Via.refl e20 zz2 (d9_7 hby) (pc' := 10) rfl ?_
 intro T21 X21 e21
 refine w_goto X21 hx (d9_10 hby) (pc' := 14) (by decide) (by decide) ?_
 exact w_done X21 hlk (v := some (.int (1 : Int32))) e21 (fun h => by rw [hret] at h; cases h) (fun fs hr => retN X21 hx (t := .byte) hret (by simp) (d9_14 hby) hr) (by decide) (by decide) (⟨rfl, N0, rfl⟩)
theorem ef_m8_69 (m : MethodId) (a0 : Addr)  : entryFrame m #[(.ref a0)] 1 = mkF m 0 #[.val (.ref a0)] [] := by first | (simp [entryFrame, mkF, argsToLocals, Value.category]; done) | rfl
def Q_m8_69 (Z : State) (a0 : Addr) (jj0 : Addr) (jj1 : ClassId) (jj2 : Int32) (jj3 : List Int32) (jj4 : Int32) (h0 : Heap) (n0 : Nat) (v : Option Value) (h : Heap) (L : List Loc) : Prop := v = some (.int (jj2 >>> ((1 : Int32) &&& 31))) ∧ Fr n0 L ∧ h = h0
theorem rm_m8_69 (l : Launch) (Z : State) (aZ : Array Value) (hw : ∀ d ∈ tables_1, d.before aZ Z = true) (ws : List Jvm.Cond) (a0 : Addr) (jj0 : Addr) (jj1 : ClassId) (jj2 : Int32) (jj3 : List Int32) (jj4 : Int32) (h0 : Heap) (n0 : Nat) (Z0 : n0 ≤ h0.size) (zz5 : Fld Z h0 a0 kc0 "value" "[B" (.ref jj0)) (zz6 : Arv Z h0 jj0 jj1 .byte jj2 (mI jj3) (.int (0 : Int32))) (E_a0 : Exa Z h0 a0 kc0) (hP_3 : ¬ (jj4 = (0 : Int32))) (zz7 : Fld Z h0 a0 kc0 "coder" "B" (.int (1 : Int32))) (zz8 : Sta Z Z.heap kc0 "COMPACT_STRINGS" "Z" (.int jj4)) (O0 : Old Z n0 h0) :
    MetN l Z yn_8 jdk_42_method_54_code 1 (some .int) ws ({ frames := 1, cells := 0, slots := 0, locals := 13 } : Room) #[(.ref a0)] h0 (Q_m8_69 Z a0 jj0 jj1 jj2 jj3 jj4 h0 n0) := by
 refine MetN.of (plainFor_of_name pn_0) ?_
 intro p e s m below meth c s₁ hret hx hby hml hown hnm hlk hZ X0 e0
 have N0 := Fr.nil n0
 rw [ef_m8_69 m a0]
 refine w_aloadN X0 hx (d8_0 hby) rfl rfl (pc' := 1) rfl ?_
 refine w_getF X0 hx "" hZ hown (Or.inl (wd_25 hw)) Via.refl e0 zz5 (d8_1 hby) (pc' := 4) rfl ?_
 intro T20 X20 e20
 refine w_alen X20 hx hZ e20 zz6 (d8_4 hby) (pc' := 5) rfl ?_
 refine w_aloadN X20 hx (d8_5 hby) rfl rfl (pc' := 6) rfl ?_
 obtain ⟨cq21, kq21, q21a, q21b, q21c⟩ := isOf hZ e20 E_a0
 refine w_virtual X20 hx (y := yn_9) (z := yn_9) hown (mvT hZ (wd_58 hw)) (mvT hZ (wd_59 hw)) (notFace_of_selects (args := #[]) (mvT hZ (wd_61 hw))) (mvT hZ (wd_61 hw)) (mvT hZ (wd_60 hw)) (by decide) (backOf (W := 1) (rm_m9_70 l Z aZ hw [] a0 jj4 h0 n0 Z0 zz8 O0 hP_3 zz7) hZ (wd_62 hw) (wd_8 hw) (by decide) (by decide)) q21a q21c (by rw [hml]; rfl) [] (lenOf pd_11 rfl) rfl (Nat.le_of_eq rfl) (d8_6 hby) (fun _ _ => ⟨rfl, e20, (by decide : 0 + 0 ≤ _), (by decide : 0 + 0 ≤ _)⟩) (pc' := 9) rfl ?_
 rintro _ _ ⟨T21, L21, k21, n21⟩ X21 ⟨Lc21, hQ21, l21, y21, z21⟩
 dsimp only [Pt.U, Pt.locs, Pt.cells, Pt.slots] at X21 l21 y21 z21 hQ21 ⊢
 subst l21 y21 z21
 obtain ⟨rfl, N21q, e21⟩ := hQ21
 have N22 := Fr.app N0 N21q
 show Runs _ _ _ _ (T21.setTop (mkF m 9 #[.val (.ref a0)] [(.int (1 : Int32)), (.int jj2)]))
 refine w_ishr X21 hx (d8_9 hby) (pc' := 10) rfl ?_
 exact w_done X21 hlk (v := some (.int (jj2 >>> ((1 : Int32) &&& 31)))) e21 (fun h => by rw [hret] at h; cases h) (fun fs hr => retI X21 hx hret (d8_10 hby) hr) (by decide) (by decide) (⟨rfl, N22, rfl⟩)
theorem ef_m14_72 (m : MethodId) (a0 : Addr)  : entryFrame m #[(.ref a0)] 1 = mkF m 0 #[.val (.ref a0)] [] := by first | (simp [entryFrame, mkF, argsToLocals, Value.category]; done) | rfl
def Q_m14_72 (Z : State) (a0 : Addr) (jj0 : Int32) (h0 : Heap) (n0 : Nat) (v : Option Value) (h : Heap) (L : List Loc) : Prop := v = some (.int (0 : Int32)) ∧ Fr n0 L ∧ h = h0
theorem rm_m14_72 (l : Launch) (Z : State) (aZ : Array Value) (hw : ∀ d ∈ tables_1, d.before aZ Z = true) (ws : List Jvm.Cond) (a0 : Addr) (jj0 : Int32) (h0 : Heap) (n0 : Nat) (Z0 : n0 ≤ h0.size) (zz1 : Sta Z Z.heap kc0 "COMPACT_STRINGS" "Z" (.int jj0)) (O0 : Old Z n0 h0) (hP_2 : ¬ (jj0 = (0 : Int32))) (zz2 : Fld Z h0 a0 kc0 "coder" "B" (.int (1 : Int32))) :
    MetN l Z yn_14 jdk_42_method_154_code 1 (some .boolean) ws ({ frames := 0, cells := 0, slots := 0, locals := 0 } : Room) #[(.ref a0)] h0 (Q_m14_72 Z a0 jj0 h0 n0) := by
 refine MetN.of (plainFor_of_name pn_0) ?_
 intro p e s m below meth c s₁ hret hx hby hml hown hnm hlk hZ X0 e0
 have N0 := Fr.nil n0
 rw [ef_m14_72 m a0]
 refine w_getS X0 hx "" hZ hown (Or.inl (wd_63 hw)) Via.refl e0 (zz1.ext O0.2) (d14_0 hby) (pc' := 3) rfl ?_
 intro T20 X20 e20
 refine w_ifN X20 hx (d14_3 hby) (feq hP_2).1 (pc' := 6) rfl ?_
 refine w_aloadN X20 hx (d14_6 hby) rfl rfl (pc' := 7) rfl ?_
 refine w_getF X20 hx "" hZ hown (Or.inl (wd_26 hw)) Via.refl e20 zz2 (d14_7 hby) (pc' := 10) rfl ?_
 intro T21 X21 e21
 refine w_ifY X21 hx (d14_10 hby) (feq (by decide : ¬ ((1 : Int32) = (0 : Int32)))).2 (pc' := 17) (by decide) (by decide) ?_
 refine w_iconst X21 hx (d14_17 hby) (v := (0 : Int32)) rfl (pc' := 18) rfl ?_
 exact w_done X21 hlk (v := some (.int (0 : Int32))) e21 (fun h => by rw [hret] at h; cases h) (fun fs hr => retN X21 hx (t := .boolean) hret (by simp) (d14_18 hby) hr) (by decide) (by decide) (⟨rfl, N0, rfl⟩)
theorem ef_m25_75 (m : MethodId) (a0 : Addr)  : entryFrame m #[(.ref a0)] 1 = mkF m 0 #[.val (.ref a0)] [] := by first | (simp [entryFrame, mkF, argsToLocals, Value.category]; done) | rfl
def Q_m25_75 (Z : State) (a0 : Addr) (k_a0 : ClassId) (jj0 : Int32) (l_a0 : List Int32) (h0 : Heap) (n0 : Nat) (v : Option Value) (h : Heap) (L : List Loc) : Prop := v = some (.int (jj0 >>> ((1 : Int32) &&& 31))) ∧ Fr n0 L ∧ h = h0
theorem rm_m25_75 (l : Launch) (Z : State) (aZ : Array Value) (hw : ∀ d ∈ tables_1, d.before aZ Z = true) (ws : List Jvm.Cond) (a0 : Addr) (k_a0 : ClassId) (jj0 : Int32) (l_a0 : List Int32) (h0 : Heap) (n0 : Nat) (Z0 : n0 ≤ h0.size) (V_a0 : Arv Z h0 a0 k_a0 .byte jj0 (mI l_a0) (.int (0 : Int32))) :
    MetN l Z yn_25 jdk_52_method_6_code 1 (some .int) ws ({ frames := 0, cells := 0, slots := 0, locals := 0 } : Room) #[(.ref a0)] h0 (Q_m25_75 Z a0 k_a0 jj0 l_a0 h0 n0) := by
 refine MetN.of (plainFor_of_name pn_1) ?_
 intro p e s m below meth c s₁ hret hx hby hml hown hnm hlk hZ X0 e0
 have N0 := Fr.nil n0
 rw [ef_m25_75 m a0]
 refine w_aloadN X0 hx (d25_0 hby) rfl rfl (pc' := 1) rfl ?_
 refine w_alen X0 hx hZ e0 V_a0 (d25_1 hby) (pc' := 2) rfl ?_
 refine w_iconst X0 hx (d25_2 hby) (v := (1 : Int32)) rfl (pc' := 3) rfl ?_
 refine w_ishr X0 hx (d25_3 hby) (pc' := 4) rfl ?_
 exact w_done X0 hlk (v := some (.int (jj0 >>> ((1 : Int32) &&& 31)))) e0 (fun h => by rw [hret] at h; cases h) (fun fs hr => retI X0 hx hret (d25_4 hby) hr) (by decide) (by decide) (⟨rfl, N0, rfl⟩)
theorem ef_m24_74 (m : MethodId) (p0 : Int32) (a1 : Addr)  : entryFrame m #[(.int p0), (.ref a1)] 2 = mkF m 0 #[.val (.int p0), .val (.ref a1)] [] := by first | (simp [entryFrame, mkF, argsToLocals, Value.category]; done) | rfl
def Q_m24_74 (Z : State) (p0 : Int32) (a1 : Addr) (k_a1 : ClassId) (jj0 : Int32) (l_a1 : List Int32) (jj1 : Value) (h0 : Heap) (n0 : Nat) (v : Option Value) (h : Heap) (L : List Loc) : Prop := v = none ∧ Fr n0 L ∧ h = h0
theorem rm_m24_74 (l : Launch) (Z : State) (aZ : Array Value) (hw : ∀ d ∈ tables_1, d.before aZ Z = true) (ws : List Jvm.Cond) (p0 : Int32) (a1 : Addr) (k_a1 : ClassId) (jj0 : Int32) (l_a1 : List Int32) (jj1 : Value) (h0 : Heap) (n0 : Nat) (Z0 : n0 ≤ h0.size) (V_a1 : Arv Z h0 a1 k_a1 .byte jj0 (mI l_a1) (.int (0 : Int32))) (zz2 : jj1.isRef = true) (zz3 : Sta Z Z.heap "jdk/internal/util/Preconditions" "SIOOBE_FORMATTER" "Ljava/util/function/BiFunction;" jj1) (O0 : Old Z n0 h0) (hP_4 : ¬ (p0 < (0 : Int32))) (hP_5 : p0 < (jj0 >>> ((1 : Int32) &&& 31))) :
    MetN l Z yn_24 jdk_52_method_91_code 2 none ws ({ frames := 2, cells := 0, slots := 0, locals := 27 } : Room) #[(.int p0), (.ref a1)] h0 (Q_m24_74 Z p0 a1 k_a1 jj0 l_a1 jj1 h0 n0) := by
 refine MetN.of (plainFor_of_name pn_1) ?_
 intro p e s m below meth c s₁ hret hx hby hml hown hnm hlk hZ X0 e0
 have N0 := Fr.nil n0
 rw [ef_m24_74 m p0 a1]
 refine w_iloadN X0 hx (d24_0 hby) rfl (pc' := 1) rfl ?_
 refine w_aloadN X0 hx (d24_1 hby) rfl rfl (pc' := 2) rfl ?_
 refine w_static X0 hx (y := yn_25) hown (mvT hZ (wd_123 hw)) (mvT hZ (wd_124 hw)) (mvT hZ (wd_68 hw)) (mvT hZ (wd_125 hw)) (by decide) (backOf (W := 1) (rm_m25_75 l Z aZ hw [] a1 k_a1 jj0 l_a1 h0 n0 Z0 V_a1) hZ (wd_125 hw) (wd_68 hw) (by decide) (by decide)) (by rw [hml]; rfl) [(.ref a1)] (lenOf pd_18 rfl) rfl (Nat.le_of_eq rfl) (d24_2 hby) (fun _ _ => ⟨rfl, e0, (by decide : 0 + 0 ≤ _), (by decide : 0 + 0 ≤ _)⟩) (pc' := 5) rfl ?_
 rintro _ _ ⟨T20, L20, k20, n20⟩ X20 ⟨Lc20, hQ20, l20, y20, z20⟩
 dsimp only [Pt.U, Pt.locs, Pt.cells, Pt.slots] at X20 l20 y20 z20 hQ20 ⊢
 subst l20 y20 z20
 obtain ⟨rfl, N20q, e20⟩ := hQ20
 have N21 := Fr.app N0 N20q
 show Runs _ _ _ _ (T20.setTop (mkF m 5 #[.val (.int p0), .val (.ref a1)] [(.int (jj0 >>> ((1 : Int32) &&& 31))), (.int p0)]))
 refine w_static X20 hx (y := yn_16) hown (mvT hZ (wd_126 hw)) (mvT hZ (wd_91 hw)) (mvT hZ (wd_8 hw)) (mvT hZ (wd_92 hw)) (by decide) (backOf (W := 0) (rm_m16_65 l Z aZ hw [] p0 (jj0 >>> ((1 : Int32) &&& 31)) jj1 h0 n0 Z0 zz2 zz3 O0 hP_4 hP_5) hZ (wd_92 hw) (wd_8 hw) (by decide) (by decide)) (by rw [hml]; rfl) [(.int p0), (.int (jj0 >>> ((1 : Int32) &&& 31)))] (lenOf pd_15 rfl) rfl (Nat.le_of_eq rfl) (d24_5 hby) (fun _ _ => ⟨rfl, e20, (by decide : 0 + 0 ≤ _), (by decide : 0 + 0 ≤ _)⟩) (pc' := 8) rfl ?_
 rintro _ _ ⟨T22, L22, k22, n22⟩ X22 ⟨Lc22, hQ22, l22, y22, z22⟩
 dsimp only [Pt.U, Pt.locs, Pt.cells, Pt.slots] at X22 l22 y22 z22 hQ22 ⊢
 subst l22 y22 z22
 obtain ⟨rfl, N22q, e22⟩ := hQ22
 have N23 := Fr.app N21 N22q
 show Runs _ _ _ _ (T22.setTop (mkF m 8 #[.val (.int p0), .val (.ref a1)] []))
 exact w_done X22 hlk (v := none) e22 (fun _ => rfl) (fun fs hr => X22.returnOut hx hret (d24_8 hby) hr) (by decide) (by decide) (⟨rfl, N23, rfl⟩)
theorem ef_m22_76 (m : MethodId) (a0 : Addr) (p1 : Int32)  : entryFrame m #[(.ref a0), (.int p1)] 2 = mkF m 0 #[.val (.ref a0), .val (.int p1)] [] := by first | (simp [entryFrame, mkF, argsToLocals, Value.category]; done) | rfl
def Q_m22_76 (Z : State) (a0 : Addr) (p1 : Int32) (k_a0 : ClassId) (jj0 : Int32) (l_a0 : List Int32) (h0 : Heap) (n0 : Nat) (v : Option Value) (h : Heap) (L : List Loc) : Prop := v = some (.int (((((gI l_a0 (p1 <<< ((1 : Int32) &&& 31))) &&& (255 : Int32)) <<< ((0 : Int32) &&& 31)) ||| (((gI l_a0 ((p1 <<< ((1 : Int32) &&& 31)) + (1 : Int32))) &&& (255 : Int32)) <<< ((8 : Int32) &&& 31))).toUInt32.toUInt16.toUInt32.toInt32)) ∧ Fr n0 L ∧ h = h0
theorem rm_m22_76 (l : Launch) (Z : State) (aZ : Array Value) (hw : ∀ d ∈ tables_1, d.before aZ Z = true) (ws : List Jvm.Cond) (a0 : Addr) (p1 : Int32) (k_a0 : ClassId) (jj0 : Int32) (l_a0 : List Int32) (h0 : Heap) (n0 : Nat) (Z0 : n0 ≤ h0.size) (zz1 : Sta Z Z.heap kc1 "$assertionsDisabled" "Z" (.int (1 : Int32))) (O0 : Old Z n0 h0) (V_a0 : Arv Z h0 a0 k_a0 .byte jj0 (mI l_a0) (.int (0 : Int32))) (hP_3 : ¬ (p1 < (0 : Int32))) (hP_4 : p1 < (4 : Int32)) (hP_5 : (p1 <<< ((1 : Int32) &&& 31)) < jj0) (zz2 : Sta Z Z.heap kc1 "HI_BYTE_SHIFT" "I" (.int (0 : Int32))) (hP_7 : ((p1 <<< ((1 : Int32) &&& 31)) + (1 : Int32)) < jj0) (zz3 : Sta Z Z.heap kc1 "LO_BYTE_SHIFT" "I" (.int (8 : Int32))) :
    MetN l Z yn_22 jdk_52_method_5_code 2 (some .char) ws ({ frames := 0, cells := 0, slots := 0, locals := 0 } : Room) #[(.ref a0), (.int p1)] h0 (Q_m22_76 Z a0 p1 k_a0 jj0 l_a0 h0 n0) := by
 refine MetN.of (plainFor_of_name pn_1) ?_
 intro p e s m below meth c s₁ hret hx hby hml hown hnm hlk hZ X0 e0
 have N0 := Fr.nil n0
 rw [ef_m22_76 m a0 p1]
 refine w_getS X0 hx "" hZ hown (Or.inl (wd_111 hw)) Via.refl e0 (zz1.ext O0.2) (d22_0 hby) (pc' := 3) rfl ?_
 intro T20 X20 e20
 refine w_ifY X20 hx (d22_3 hby) (feq (by decide : ¬ ((1 : Int32) = (0 : Int32)))).2 (pc' := 28) (by decide) (by decide) ?_
 refine w_iloadN X20 hx (d22_28 hby) rfl (pc' := 29) rfl ?_
 refine w_iconst X20 hx (d22_29 hby) (v := (1 : Int32)) rfl (pc' := 30) rfl ?_
 refine w_ishl X20 hx (d22_30 hby) (pc' := 31) rfl ?_
 refine w_istoreN X20 hx (d22_31 hby) (L' := #[.val (.ref a0), .val (.int (p1 <<< ((1 : Int32) &&& 31)))]) rfl (pc' := 32) rfl ?_
 refine w_aloadN X20 hx (d22_32 hby) rfl rfl (pc' := 33) rfl ?_
 refine w_iloadN X20 hx (d22_33 hby) rfl (pc' := 34) rfl ?_
 refine w_iinc X20 hx (d22_34 hby) (v := (1 : Int32)) rfl rfl (L' := #[.val (.ref a0), .val (.int ((p1 <<< ((1 : Int32) &&& 31)) + (1 : Int32)))]) rfl (pc' := 37) rfl ?_
 obtain ⟨clu21, Aru21, qu21, Su21, Nu21, Hu21, Gu21⟩ := id V_a0
 have hinu21 := inb_of (j := (p1 <<< ((1 : Int32) &&& 31))) Su21 ⟨(own_shl_in (n := 4) (by decide) (by decide) hP_3 hP_4).1.1, hP_5⟩
 refine w_baload X20 hx hZ e20 Aru21 hinu21 (Hu21.at hinu21 (own_gI l_a0 (p1 <<< ((1 : Int32) &&& 31)))) (d22_37 hby) (pc' := 38) rfl ?_
 refine w_sipush X20 hx (d22_38 hby) (v := (255 : Int32)) rfl (pc' := 41) rfl ?_
 refine w_iand X20 hx (d22_41 hby) (pc' := 42) rfl ?_
 refine w_getS X20 hx "" hZ hown (Or.inl (wd_112 hw)) Via.refl e20 (zz2.ext O0.2) (d22_42 hby) (pc' := 45) rfl ?_
 intro T22 X22 e22
 refine w_ishl X22 hx (d22_45 hby) (pc' := 46) rfl ?_
 refine w_aloadN X22 hx (d22_46 hby) rfl rfl (pc' := 47) rfl ?_
 refine w_iloadN X22 hx (d22_47 hby) rfl (pc' := 48) rfl ?_
 obtain ⟨clu23, Aru23, qu23, Su23, Nu23, Hu23, Gu23⟩ := id V_a0
 have hinu23 := inb_of (j := ((p1 <<< ((1 : Int32) &&& 31)) + (1 : Int32))) Su23 ⟨(own_shl_in (n := 4) (by decide) (by decide) hP_3 hP_4).2.1, hP_7⟩
 refine w_baload X22 hx hZ e22 Aru23 hinu23 (Hu23.at hinu23 (own_gI l_a0 ((p1 <<< ((1 : Int32) &&& 31)) + (1 : Int32)))) (d22_48 hby) (pc' := 49) rfl ?_
 refine w_sipush X22 hx (d22_49 hby) (v := (255 : Int32)) rfl (pc' := 52) rfl ?_
 refine w_iand X22 hx (d22_52 hby) (pc' := 53) rfl ?_
 refine w_getS X22 hx "" hZ hown (Or.inl (wd_113 hw)) Via.refl e22 (zz3.ext O0.2) (d22_53 hby) (pc' := 56) rfl ?_
 intro T24 X24 e24
 refine w_ishl X24 hx (d22_56 hby) (pc' := 57) rfl ?_
 refine w_ior X24 hx (d22_57 hby) (pc' := 58) rfl ?_
 refine w_i2c X24 hx (d22_58 hby) (pc' := 59) rfl ?_
 exact w_done X24 hlk (v := some (.int (((((gI l_a0 (p1 <<< ((1 : Int32) &&& 31))) &&& (255 : Int32)) <<< ((0 : Int32) &&& 31)) ||| (((gI l_a0 ((p1 <<< ((1 : Int32) &&& 31)) + (1 : Int32))) &&& (255 : Int32)) <<< ((8 : Int32) &&& 31))).toUInt32.toUInt16.toUInt32.toInt32))) e24 (fun h => by rw [hret] at h; cases h) (fun fs hr => retOut X24 hx hret (t := .char) (XT.narrow_c _) (Or.inl ⟨rfl, by simp, _, rfl⟩) (d22_59 hby) hr) (by decide) (by decide) (⟨rfl, N0, rfl⟩)
theorem ef_m23_73 (m : MethodId) (a0 : Addr) (p1 : Int32)  : entryFrame m #[(.ref a0), (.int p1)] 2 = mkF m 0 #[.val (.ref a0), .val (.int p1)] [] := by first | (simp [entryFrame, mkF, argsToLocals, Value.category]; done) | rfl
def Q_m23_73 (Z : State) (a0 : Addr) (p1 : Int32) (k_a0 : ClassId) (jj0 : Int32) (l_a0 : List Int32) (jj1 : Value) (h0 : Heap) (n0 : Nat) (v : Option Value) (h : Heap) (L : List Loc) : Prop := v = some (.int (((((gI l_a0 (p1 <<< ((1 : Int32) &&& 31))) &&& (255 : Int32)) <<< ((0 : Int32) &&& 31)) ||| (((gI l_a0 ((p1 <<< ((1 : Int32) &&& 31)) + (1 : Int32))) &&& (255 : Int32)) <<< ((8 : Int32) &&& 31))).toUInt32.toUInt16.toUInt32.toInt32)) ∧ Fr n0 L ∧ h = h0
theorem rm_m23_73 (l : Launch) (Z : State) (aZ : Array Value) (hw : ∀ d ∈ tables_1, d.before aZ Z = true) (ws : List Jvm.Cond) (a0 : Addr) (p1 : Int32) (k_a0 : ClassId) (jj0 : Int32) (l_a0 : List Int32) (jj1 : Value) (h0 : Heap) (n0 : Nat) (Z0 : n0 ≤ h0.size) (V_a0 : Arv Z h0 a0 k_a0 .byte jj0 (mI l_a0) (.int (0 : Int32))) (hP_1 : ¬ (p1 < (0 : Int32))) (hP_2 : p1 < (jj0 >>> ((1 : Int32) &&& 31))) (zz2 : jj1.isRef = true) (zz3 : Sta Z Z.heap "jdk/internal/util/Preconditions" "SIOOBE_FORMATTER" "Ljava/util/function/BiFunction;" jj1) (O0 : Old Z n0 h0) (hP_6 : p1 < (4 : Int32)) (hP_7 : (p1 <<< ((1 : Int32) &&& 31)) < jj0) (hP_8 : ((p1 <<< ((1 : Int32) &&& 31)) + (1 : Int32)) < jj0) (zz4 : Sta Z Z.heap kc1 "$assertionsDisabled" "Z" (.int (1 : Int32))) (zz5 : Sta Z Z.heap kc1 "HI_BYTE_SHIFT" "I" (.int (0 : Int32))) (zz6 : Sta Z Z.heap kc1 "LO_BYTE_SHIFT" "I" (.int (8 : Int32))) :
    MetN l Z yn_23 jdk_52_method_83_code 2 (some .char) ws ({ frames := 3, cells := 0, slots := 0, locals := 40 } : Room) #[(.ref a0), (.int p1)] h0 (Q_m23_73 Z a0 p1 k_a0 jj0 l_a0 jj1 h0 n0) := by
 refine MetN.of (plainFor_of_name pn_1) ?_
 intro p e s m below meth c s₁ hret hx hby hml hown hnm hlk hZ X0 e0
 have N0 := Fr.nil n0
 rw [ef_m23_73 m a0 p1]
 refine w_iloadN X0 hx (d23_0 hby) rfl (pc' := 1) rfl ?_
 refine w_aloadN X0 hx (d23_1 hby) rfl rfl (pc' := 2) rfl ?_
 refine w_static X0 hx (y := yn_24) hown (mvT hZ (wd_120 hw)) (mvT hZ (wd_121 hw)) (mvT hZ (wd_68 hw)) (mvT hZ (wd_122 hw)) (by decide) (backOf (W := 0) (rm_m24_74 l Z aZ hw [] p1 a0 k_a0 jj0 l_a0 jj1 h0 n0 Z0 V_a0 zz2 zz3 O0 hP_1 hP_2) hZ (wd_122 hw) (wd_68 hw) (by decide) (by decide)) (by rw [hml]; rfl) [(.int p1), (.ref a0)] (lenOf pd_19 rfl) rfl (Nat.le_of_eq rfl) (d23_2 hby) (fun _ _ => ⟨rfl, e0, (by decide : 0 + 0 ≤ _), (by decide : 0 + 0 ≤ _)⟩) (pc' := 5) rfl ?_
 rintro _ _ ⟨T20, L20, k20, n20⟩ X20 ⟨Lc20, hQ20, l20, y20, z20⟩
 dsimp only [Pt.U, Pt.locs, Pt.cells, Pt.slots] at X20 l20 y20 z20 hQ20 ⊢
 subst l20 y20 z20
 obtain ⟨rfl, N20q, e20⟩ := hQ20
 have N21 := Fr.app N0 N20q
 show Runs _ _ _ _ (T20.setTop (mkF m 5 #[.val (.ref a0), .val (.int p1)] []))
 refine w_aloadN X20 hx (d23_5 hby) rfl rfl (pc' := 6) rfl ?_
 refine w_iloadN X20 hx (d23_6 hby) rfl (pc' := 7) rfl ?_
 refine w_static X20 hx (y := yn_22) hown (mvT hZ (wd_114 hw)) (mvT hZ (wd_115 hw)) (mvT hZ (wd_68 hw)) (mvT hZ (wd_116 hw)) (by decide) (backOf (W := 0) (rm_m22_76 l Z aZ hw [] a0 p1 k_a0 jj0 l_a0 h0 n0 Z0 zz4 O0 V_a0 hP_1 hP_6 hP_7 zz5 hP_8 zz6) hZ (wd_116 hw) (wd_68 hw) (by decide) (by decide)) (by rw [hml]; rfl) [(.ref a0), (.int p1)] (lenOf pd_7 rfl) rfl (Nat.le_of_eq rfl) (d23_7 hby) (fun _ _ => ⟨rfl, e20, (by decide : 0 + 0 ≤ _), (by decide : 0 + 0 ≤ _)⟩) (pc' := 10) rfl ?_
 rintro _ _ ⟨T22, L22, k22, n22⟩ X22 ⟨Lc22, hQ22, l22, y22, z22⟩
 dsimp only [Pt.U, Pt.locs, Pt.cells, Pt.slots] at X22 l22 y22 z22 hQ22 ⊢
 subst l22 y22 z22
 obtain ⟨rfl, N22q, e22⟩ := hQ22
 have N23 := Fr.app N21 N22q
 show Runs _ _ _ _ (T22.setTop (mkF m 10 #[.val (.ref a0), .val (.int p1)] [(.int (((((gI l_a0 (p1 <<< ((1 : Int32) &&& 31))) &&& (255 : Int32)) <<< ((0 : Int32) &&& 31)) ||| (((gI l_a0 ((p1 <<< ((1 : Int32) &&& 31)) + (1 : Int32))) &&& (255 : Int32)) <<< ((8 : Int32) &&& 31))).toUInt32.toUInt16.toUInt32.toInt32))]))
 exact w_done X22 hlk (v := some (.int (((((gI l_a0 (p1 <<< ((1 : Int32) &&& 31))) &&& (255 : Int32)) <<< ((0 : Int32) &&& 31)) ||| (((gI l_a0 ((p1 <<< ((1 : Int32) &&& 31)) + (1 : Int32))) &&& (255 : Int32)) <<< ((8 : Int32) &&& 31))).toUInt32.toUInt16.toUInt32.toInt32))) e22 (fun h => by rw [hret] at h; cases h) (fun fs hr => retOut X22 hx hret (t := .char) (XT.narrow_c _) (Or.inl ⟨rfl, by simp, _, rfl⟩) (d23_10 hby) hr) (by decide) (by decide) (⟨rfl, N23, rfl⟩)
theorem ef_m13_71 (m : MethodId) (a0 : Addr) (p1 : Int32)  : entryFrame m #[(.ref a0), (.int p1)] 2 = mkF m 0 #[.val (.ref a0), .val (.int p1)] [] := by first | (simp [entryFrame, mkF, argsToLocals, Value.category]; done) | rfl
def Q_m13_71 (Z : State) (a0 : Addr) (p1 : Int32) (jj0 : Int32) (jj1 : Addr) (jj2 : ClassId) (jj3 : Int32) (jj4 : List Int32) (jj5 : Value) (h0 : Heap) (n0 : Nat) (v : Option Value) (h : Heap) (L : List Loc) : Prop := v = some (.int (((((gI jj4 (p1 <<< ((1 : Int32) &&& 31))) &&& (255 : Int32)) <<< ((0 : Int32) &&& 31)) ||| (((gI jj4 ((p1 <<< ((1 : Int32) &&& 31)) + (1 : Int32))) &&& (255 : Int32)) <<< ((8 : Int32) &&& 31))).toUInt32.toUInt16.toUInt32.toInt32)) ∧ Fr n0 L ∧ h = h0
theorem rm_m13_71 (l : Launch) (Z : State) (aZ : Array Value) (hw : ∀ d ∈ tables_1, d.before aZ Z = true) (ws : List Jvm.Cond) (a0 : Addr) (p1 : Int32) (jj0 : Int32) (jj1 : Addr) (jj2 : ClassId) (jj3 : Int32) (jj4 : List Int32) (jj5 : Value) (h0 : Heap) (n0 : Nat) (Z0 : n0 ≤ h0.size) (E_a0 : Exa Z h0 a0 kc0) (hP_1 : ¬ (jj0 = (0 : Int32))) (zz6 : Fld Z h0 a0 kc0 "coder" "B" (.int (1 : Int32))) (zz7 : Sta Z Z.heap kc0 "COMPACT_STRINGS" "Z" (.int jj0)) (O0 : Old Z n0 h0) (zz8 : Fld Z h0 a0 kc0 "value" "[B" (.ref jj1)) (zz9 : Arv Z h0 jj1 jj2 .byte jj3 (mI jj4) (.int (0 : Int32))) (hP_7 : ¬ (p1 < (0 : Int32))) (hP_8 : p1 < (jj3 >>> ((1 : Int32) &&& 31))) (hP_9 : p1 < (4 : Int32)) (zz10 : (p1 <<< ((1 : Int32) &&& 31)) < jj3) (zz11 : ((p1 <<< ((1 : Int32) &&& 31)) + (1 : Int32)) < jj3) (zz12 : jj5.isRef = true) (zz13 : Sta Z Z.heap "jdk/internal/util/Preconditions" "SIOOBE_FORMATTER" "Ljava/util/function/BiFunction;" jj5) (zz14 : Sta Z Z.heap kc1 "$assertionsDisabled" "Z" (.int (1 : Int32))) (zz15 : Sta Z Z.heap kc1 "HI_BYTE_SHIFT" "I" (.int (0 : Int32))) (zz16 : Sta Z Z.heap kc1 "LO_BYTE_SHIFT" "I" (.int (8 : Int32))) :
    MetN l Z yn_13 jdk_42_method_56_code 2 (some .char) ws ({ frames := 4, cells := 0, slots := 0, locals := 53 } : Room) #[(.ref a0), (.int p1)] h0 (Q_m13_71 Z a0 p1 jj0 jj1 jj2 jj3 jj4 jj5 h0 n0) := by
 refine MetN.of (plainFor_of_name pn_0) ?_
 intro p e s m below meth c s₁ hret hx hby hml hown hnm hlk hZ X0 e0
 have N0 := Fr.nil n0
 rw [ef_m13_71 m a0 p1]
 refine w_aloadN X0 hx (d13_0 hby) rfl rfl (pc' := 1) rfl ?_
 obtain ⟨cq20, kq20, q20a, q20b, q20c⟩ := isOf hZ e0 E_a0
 refine w_virtual X0 hx (y := yn_14) (z := yn_14) hown (mvT hZ (wd_81 hw)) (mvT hZ (wd_82 hw)) (notFace_of_selects (args := #[]) (mvT hZ (wd_84 hw))) (mvT hZ (wd_84 hw)) (mvT hZ (wd_83 hw)) (by decide) (backOf (W := 0) (rm_m14_72 l Z aZ hw [] a0 jj0 h0 n0 Z0 zz7 O0 hP_1 zz6) hZ (wd_85 hw) (wd_8 hw) (by decide) (by decide)) q20a q20c (by rw [hml]; rfl) [] (lenOf pd_13 rfl) rfl (Nat.le_of_eq rfl) (d13_1 hby) (fun _ _ => ⟨rfl, e0, (by decide : 0 + 0 ≤ _), (by decide : 0 + 0 ≤ _)⟩) (pc' := 4) rfl ?_
 rintro _ _ ⟨T20, L20, k20, n20⟩ X20 ⟨Lc20, hQ20, l20, y20, z20⟩
 dsimp only [Pt.U, Pt.locs, Pt.cells, Pt.slots] at X20 l20 y20 z20 hQ20 ⊢
 subst l20 y20 z20
 obtain ⟨rfl, N20q, e20⟩ := hQ20
 have N21 := Fr.app N0 N20q
 show Runs _ _ _ _ (T20.setTop (mkF m 4 #[.val (.ref a0), .val (.int p1)] [(.int (0 : Int32))]))
 refine w_ifY X20 hx (d13_4 hby) (teq (by decide : (0 : Int32) = (0 : Int32))).1 (pc' := 16) (by decide) (by decide) ?_
 refine w_aloadN X20 hx (d13_16 hby) rfl rfl (pc' := 17) rfl ?_
 refine w_getF X20 hx "" hZ hown (Or.inl (wd_25 hw)) Via.refl e20 zz8 (d13_17 hby) (pc' := 20) rfl ?_
 intro T22 X22 e22
 refine w_iloadN X22 hx (d13_20 hby) rfl (pc' := 21) rfl ?_
 refine w_static X22 hx (y := yn_23) hown (mvT hZ (wd_117 hw)) (mvT hZ (wd_118 hw)) (mvT hZ (wd_68 hw)) (mvT hZ (wd_119 hw)) (by decide) (backOf (W := 0) (rm_m23_73 l Z aZ hw [] jj1 p1 jj2 jj3 jj4 jj5 h0 n0 Z0 zz9 hP_7 hP_8 zz12 zz13 O0 hP_9 zz10 zz11 zz14 zz15 zz16) hZ (wd_119 hw) (wd_68 hw) (by decide) (by decide)) (by rw [hml]; rfl) [(.ref jj1), (.int p1)] (lenOf pd_7 rfl) rfl (Nat.le_of_eq rfl) (d13_21 hby) (fun _ _ => ⟨rfl, e22, (by decide : 0 + 0 ≤ _), (by decide : 0 + 0 ≤ _)⟩) (pc' := 24) rfl ?_
 rintro _ _ ⟨T23, L23, k23, n23⟩ X23 ⟨Lc23, hQ23, l23, y23, z23⟩
 dsimp only [Pt.U, Pt.locs, Pt.cells, Pt.slots] at X23 l23 y23 z23 hQ23 ⊢
 subst l23 y23 z23
 obtain ⟨rfl, N23q, e23⟩ := hQ23
 have N24 := Fr.app N21 N23q
 show Runs _ _ _ _ (T23.setTop (mkF m 24 #[.val (.ref a0), .val (.int p1)] [(.int (((((gI jj4 (p1 <<< ((1 : Int32) &&& 31))) &&& (255 : Int32)) <<< ((0 : Int32) &&& 31)) ||| (((gI jj4 ((p1 <<< ((1 : Int32) &&& 31)) + (1 : Int32))) &&& (255 : Int32)) <<< ((8 : Int32) &&& 31))).toUInt32.toUInt16.toUInt32.toInt32))]))
 exact w_done X23 hlk (v := some (.int (((((gI jj4 (p1 <<< ((1 : Int32) &&& 31))) &&& (255 : Int32)) <<< ((0 : Int32) &&& 31)) ||| (((gI jj4 ((p1 <<< ((1 : Int32) &&& 31)) + (1 : Int32))) &&& (255 : Int32)) <<< ((8 : Int32) &&& 31))).toUInt32.toUInt16.toUInt32.toInt32))) e23 (fun h => by rw [hret] at h; cases h) (fun fs hr => retOut X23 hx hret (t := .char) (XT.narrow_c _) (Or.inl ⟨rfl, by simp, _, rfl⟩) (d13_24 hby) hr) (by decide) (by decide) (⟨rfl, N24, rfl⟩)
theorem ef_m7_68 (m : MethodId) (a0 : Addr) (p1 : Int32)  : entryFrame m #[(.ref a0), (.int p1)] 2 = mkF m 0 #[.val (.ref a0), .val (.int p1)] [] := by first | (simp [entryFrame, mkF, argsToLocals, Value.category]; done) | rfl
def Q_m7_68 (Z : State) (a0 : Addr) (p1 : Int32) (jj0 : Int32) (jj1 : Addr) (jj2 : Addr) (jj3 : ClassId) (jj4 : Int32) (jj5 : List Int32) (jj6 : Int32) (jj7 : Value) (h0 : Heap) (n0 : Nat) (v : Option Value) (h : Heap) (L : List Loc) : Prop := v = some (.int (if (((((gI jj5 (jj0 <<< ((1 : Int32) &&& 31))) &&& (255 : Int32)) <<< ((0 : Int32) &&& 31)) ||| (((gI jj5 ((jj0 <<< ((1 : Int32) &&& 31)) + (1 : Int32))) &&& (255 : Int32)) <<< ((8 : Int32) &&& 31))).toUInt32.toUInt16.toUInt32.toInt32) = p1 then (1 : Int32) else (0 : Int32))) ∧ Fr n0 L ∧ h = h0
theorem rm_m7_68 (l : Launch) (Z : State) (aZ : Array Value) (hw : ∀ d ∈ tables_1, d.before aZ Z = true) (ws : List Jvm.Cond) (a0 : Addr) (p1 : Int32) (jj0 : Int32) (jj1 : Addr) (jj2 : Addr) (jj3 : ClassId) (jj4 : Int32) (jj5 : List Int32) (jj6 : Int32) (jj7 : Value) (h0 : Heap) (n0 : Nat) (Z0 : n0 ≤ h0.size) (zz8 : Fld Z h0 a0 kc2 "position" "I" (.int jj0)) (zz9 : Fld Z h0 a0 kc2 "text" "Ljava/lang/String;" (.ref jj1)) (zz10 : Exa Z h0 jj1 kc0) (zz11 : Fld Z h0 jj1 kc0 "value" "[B" (.ref jj2)) (zz12 : Arv Z h0 jj2 jj3 .byte jj4 (mI jj5) (.int (0 : Int32))) (zz13 : Fld Z h0 jj1 kc0 "coder" "B" (.int (1 : Int32))) (zz14 : Sta Z Z.heap kc0 "COMPACT_STRINGS" "Z" (.int jj6)) (O0 : Old Z n0 h0) (hP_8 : ¬ (jj6 = (0 : Int32))) (hP_9 : jj0 < (jj4 >>> ((1 : Int32) &&& 31))) (zz15 : ¬ (jj0 < (0 : Int32))) (zz16 : jj0 < (4 : Int32)) (zz17 : (jj0 <<< ((1 : Int32) &&& 31)) < jj4) (zz18 : ((jj0 <<< ((1 : Int32) &&& 31)) + (1 : Int32)) < jj4) (zz19 : jj7.isRef = true) (zz20 : Sta Z Z.heap "jdk/internal/util/Preconditions" "SIOOBE_FORMATTER" "Ljava/util/function/BiFunction;" jj7) (zz21 : Sta Z Z.heap kc1 "$assertionsDisabled" "Z" (.int (1 : Int32))) (zz22 : Sta Z Z.heap kc1 "HI_BYTE_SHIFT" "I" (.int (0 : Int32))) (zz23 : Sta Z Z.heap kc1 "LO_BYTE_SHIFT" "I" (.int (8 : Int32))) :
    MetN l Z yn_7 prog_52_method_2_code 2 (some .boolean) ws ({ frames := 5, cells := 0, slots := 0, locals := 66 } : Room) #[(.ref a0), (.int p1)] h0 (Q_m7_68 Z a0 p1 jj0 jj1 jj2 jj3 jj4 jj5 jj6 jj7 h0 n0) := by
 refine MetN.of (plainFor_of_name pn_3) ?_
 intro p e s m below meth c s₁ hret hx hby hml hown hnm hlk hZ X0 e0
 have N0 := Fr.nil n0
 rw [ef_m7_68 m a0 p1]
 refine w_aloadN X0 hx (d7_0 hby) rfl rfl (pc' := 1) rfl ?_
 refine w_getF X0 hx "" hZ hown (Or.inl (wd_52 hw)) Via.refl e0 zz8 (d7_1 hby) (pc' := 4) rfl ?_
 intro T20 X20 e20
 refine w_aloadN X20 hx (d7_4 hby) rfl rfl (pc' := 5) rfl ?_
 refine w_getF X20 hx "" hZ hown (Or.inl (wd_39 hw)) Via.refl e20 zz9 (d7_5 hby) (pc' := 8) rfl ?_
 intro T21 X21 e21
 obtain ⟨cq22, kq22, q22a, q22b, q22c⟩ := isOf hZ e21 zz10
 refine w_virtual X21 hx (y := yn_8) (z := yn_8) hown (mvT hZ (wd_53 hw)) (mvT hZ (wd_54 hw)) (notFace_of_selects (args := #[]) (mvT hZ (wd_56 hw))) (mvT hZ (wd_56 hw)) (mvT hZ (wd_55 hw)) (by decide) (backOf (W := 1) (rm_m8_69 l Z aZ hw [] jj1 jj2 jj3 jj4 jj5 jj6 h0 n0 Z0 zz11 zz12 zz10 hP_8 zz13 zz14 O0) hZ (wd_57 hw) (wd_8 hw) (by decide) (by decide)) q22a q22c (by rw [hml]; rfl) [] (lenOf pd_12 rfl) rfl (Nat.le_of_eq rfl) (d7_8 hby) (fun _ _ => ⟨rfl, e21, (by decide : 0 + 0 ≤ _), (by decide : 0 + 0 ≤ _)⟩) (pc' := 11) rfl ?_
 rintro _ _ ⟨T22, L22, k22, n22⟩ X22 ⟨Lc22, hQ22, l22, y22, z22⟩
 dsimp only [Pt.U, Pt.locs, Pt.cells, Pt.slots] at X22 l22 y22 z22 hQ22 ⊢
 subst l22 y22 z22
 obtain ⟨rfl, N22q, e22⟩ := hQ22
 have N23 := Fr.app N0 N22q
 show Runs _ _ _ _ (T22.setTop (mkF m 11 #[.val (.ref a0), .val (.int p1)] [(.int (jj4 >>> ((1 : Int32) &&& 31))), (.int jj0)]))
 refine w_icN X22 hx (d7_11 hby) (tlt hP_9).2.1 (pc' := 14) rfl ?_
 refine w_aloadN X22 hx (d7_14 hby) rfl rfl (pc' := 15) rfl ?_
 refine w_getF X22 hx "" hZ hown (Or.inl (wd_39 hw)) Via.refl e22 zz9 (d7_15 hby) (pc' := 18) rfl ?_
 intro T24 X24 e24
 refine w_aloadN X24 hx (d7_18 hby) rfl rfl (pc' := 19) rfl ?_
 refine w_getF X24 hx "" hZ hown (Or.inl (wd_52 hw)) Via.refl e24 zz8 (d7_19 hby) (pc' := 22) rfl ?_
 intro T25 X25 e25
 obtain ⟨cq26, kq26, q26a, q26b, q26c⟩ := isOf hZ e25 zz10
 refine w_virtual X25 hx (y := yn_13) (z := yn_13) hown (mvT hZ (wd_76 hw)) (mvT hZ (wd_77 hw)) (notFace_of_selects (args := #[]) (mvT hZ (wd_79 hw))) (mvT hZ (wd_79 hw)) (mvT hZ (wd_78 hw)) (by decide) (backOf (W := 0) (rm_m13_71 l Z aZ hw [] jj1 jj0 jj6 jj2 jj3 jj4 jj5 jj7 h0 n0 Z0 zz10 hP_8 zz13 zz14 O0 zz11 zz12 zz15 hP_9 zz16 zz17 zz18 zz19 zz20 zz21 zz22 zz23) hZ (wd_80 hw) (wd_8 hw) (by decide) (by decide)) q26a q26c (by rw [hml]; rfl) [(.int jj0)] (lenOf pd_16 rfl) rfl (Nat.le_of_eq rfl) (d7_22 hby) (fun _ _ => ⟨rfl, e25, (by decide : 0 + 0 ≤ _), (by decide : 0 + 0 ≤ _)⟩) (pc' := 25) rfl ?_
 rintro _ _ ⟨T26, L26, k26, n26⟩ X26 ⟨Lc26, hQ26, l26, y26, z26⟩
 dsimp only [Pt.U, Pt.locs, Pt.cells, Pt.slots] at X26 l26 y26 z26 hQ26 ⊢
 subst l26 y26 z26
 obtain ⟨rfl, N26q, e26⟩ := hQ26
 have N27 := Fr.app N23 N26q
 show Runs _ _ _ _ (T26.setTop (mkF m 25 #[.val (.ref a0), .val (.int p1)] [(.int (((((gI jj5 (jj0 <<< ((1 : Int32) &&& 31))) &&& (255 : Int32)) <<< ((0 : Int32) &&& 31)) ||| (((gI jj5 ((jj0 <<< ((1 : Int32) &&& 31)) + (1 : Int32))) &&& (255 : Int32)) <<< ((8 : Int32) &&& 31))).toUInt32.toUInt16.toUInt32.toInt32))]))
 refine w_iloadN X26 hx (d7_25 hby) rfl (pc' := 26) rfl ?_
 suffices key29 : Runs p e below (EndN s (Q_m7_68 Z a0 p1 jj0 jj1 jj2 jj3 jj4 jj5 jj6 jj7 h0 n0) ({ frames := 5, cells := 0, slots := 0, locals := 66 } : Room).cells ({ frames := 5, cells := 0, slots := 0, locals := 66 } : Room).slots) (T26.setTop (mkF m 34 #[.val (.ref a0), .val (.int p1)] [(.int (if (((((gI jj5 (jj0 <<< ((1 : Int32) &&& 31))) &&& (255 : Int32)) <<< ((0 : Int32) &&& 31)) ||| (((gI jj5 ((jj0 <<< ((1 : Int32) &&& 31)) + (1 : Int32))) &&& (255 : Int32)) <<< ((8 : Int32) &&& 31))).toUInt32.toUInt16.toUInt32.toInt32) = p1 then (1 : Int32) else (0 : Int32)))])) by
  by_cases hc28 : (((((gI jj5 (jj0 <<< ((1 : Int32) &&& 31))) &&& (255 : Int32)) <<< ((0 : Int32) &&& 31)) ||| (((gI jj5 ((jj0 <<< ((1 : Int32) &&& 31)) + (1 : Int32))) &&& (255 : Int32)) <<< ((8 : Int32) &&& 31))).toUInt32.toUInt16.toUInt32.toInt32) = p1
  · rw [if_pos hc28] at key29
    refine w_icN X26 hx (d7_26 hby) (teq hc28).2 (pc' := 29) rfl ?_
    refine w_iconst X26 hx (d7_29 hby) (v := (1 : Int32)) rfl (pc' := 30) rfl ?_
    refine w_goto X26 hx (d7_30 hby) (pc' := 34) (by decide) (by decide) ?_
    exact key29
  · rw [if_neg hc28] at key29
    refine w_icY X26 hx (d7_26 hby) (feq hc28).2 (pc' := 33) (by decide) (by decide) ?_
    refine w_iconst X26 hx (d7_33 hby) (v := (0 : Int32)) rfl (pc' := 34) rfl ?_
    exact key29
 exact w_done X26 hlk (v := some (.int (if (((((gI jj5 (jj0 <<< ((1 : Int32) &&& 31))) &&& (255 : Int32)) <<< ((0 : Int32) &&& 31)) ||| (((gI jj5 ((jj0 <<< ((1 : Int32) &&& 31)) + (1 : Int32))) &&& (255 : Int32)) <<< ((8 : Int32) &&& 31))).toUInt32.toUInt16.toUInt32.toInt32) = p1 then (1 : Int32) else (0 : Int32)))) e26 (fun h => by rw [hret] at h; cases h) (fun fs hr => retOut X26 hx hret (t := .boolean) (narrow_nar (t := .boolean) (by simp) nar_ite) (Or.inl ⟨rfl, by simp, _, rfl⟩) (d7_34 hby) hr) (by decide) (by decide) (⟨rfl, N27, rfl⟩)
theorem ef_m7_77 (m : MethodId) (a0 : Addr) (p1 : Int32)  : entryFrame m #[(.ref a0), (.int p1)] 2 = mkF m 0 #[.val (.ref a0), .val (.int p1)] [] := by first | (simp [entryFrame, mkF, argsToLocals, Value.category]; done) | rfl
def Q_m7_77 (Z : State) (a0 : Addr) (p1 : Int32) (jj0 : Int32) (jj1 : Addr) (jj2 : Addr) (jj3 : ClassId) (jj4 : Int32) (jj5 : List Int32) (jj6 : Int32) (h0 : Heap) (n0 : Nat) (v : Option Value) (h : Heap) (L : List Loc) : Prop := v = some (.int (0 : Int32)) ∧ Fr n0 L ∧ h = h0
theorem rm_m7_77 (l : Launch) (Z : State) (aZ : Array Value) (hw : ∀ d ∈ tables_1, d.before aZ Z = true) (ws : List Jvm.Cond) (a0 : Addr) (p1 : Int32) (jj0 : Int32) (jj1 : Addr) (jj2 : Addr) (jj3 : ClassId) (jj4 : Int32) (jj5 : List Int32) (jj6 : Int32) (h0 : Heap) (n0 : Nat) (Z0 : n0 ≤ h0.size) (zz7 : Fld Z h0 a0 kc2 "position" "I" (.int jj0)) (zz8 : Fld Z h0 a0 kc2 "text" "Ljava/lang/String;" (.ref jj1)) (zz9 : Exa Z h0 jj1 kc0) (zz10 : Fld Z h0 jj1 kc0 "value" "[B" (.ref jj2)) (zz11 : Arv Z h0 jj2 jj3 .byte jj4 (mI jj5) (.int (0 : Int32))) (zz12 : Fld Z h0 jj1 kc0 "coder" "B" (.int (1 : Int32))) (zz13 : Sta Z Z.heap kc0 "COMPACT_STRINGS" "Z" (.int jj6)) (O0 : Old Z n0 h0) (hP_8 : ¬ (jj6 = (0 : Int32))) (hP_9 : ¬ (jj0 < (jj4 >>> ((1 : Int32) &&& 31)))) :
    MetN l Z yn_7 prog_52_method_2_code 2 (some .boolean) ws ({ frames := 2, cells := 0, slots := 0, locals := 26 } : Room) #[(.ref a0), (.int p1)] h0 (Q_m7_77 Z a0 p1 jj0 jj1 jj2 jj3 jj4 jj5 jj6 h0 n0) := by
 refine MetN.of (plainFor_of_name pn_3) ?_
 intro p e s m below meth c s₁ hret hx hby hml hown hnm hlk hZ X0 e0
 have N0 := Fr.nil n0
 rw [ef_m7_77 m a0 p1]
 refine w_aloadN X0 hx (d7_0 hby) rfl rfl (pc' := 1) rfl ?_
 refine w_getF X0 hx "" hZ hown (Or.inl (wd_52 hw)) Via.refl e0 zz7 (d7_1 hby) (pc' := 4) rfl ?_
 intro T20 X20 e20
 refine w_aloadN X20 hx (d7_4 hby) rfl rfl (pc' := 5) rfl ?_
 refine w_getF X20 hx "" hZ hown (Or.inl (wd_39 hw)) Via.refl e20 zz8 (d7_5 hby) (pc' := 8) rfl ?_
 intro T21 X21 e21
 obtain ⟨cq22, kq22, q22a, q22b, q22c⟩ := isOf hZ e21 zz9
 refine w_virtual X21 hx (y := yn_8) (z := yn_8) hown (mvT hZ (wd_53 hw)) (mvT hZ (wd_54 hw)) (notFace_of_selects (args := #[]) (mvT hZ (wd_56 hw))) (mvT hZ (wd_56 hw)) (mvT hZ (wd_55 hw)) (by decide) (backOf (W := 1) (rm_m8_69 l Z aZ hw [] jj1 jj2 jj3 jj4 jj5 jj6 h0 n0 Z0 zz10 zz11 zz9 hP_8 zz12 zz13 O0) hZ (wd_57 hw) (wd_8 hw) (by decide) (by decide)) q22a q22c (by rw [hml]; rfl) [] (lenOf pd_12 rfl) rfl (Nat.le_of_eq rfl) (d7_8 hby) (fun _ _ => ⟨rfl, e21, (by decide : 0 + 0 ≤ _), (by decide : 0 + 0 ≤ _)⟩) (pc' := 11) rfl ?_
 rintro _ _ ⟨T22, L22, k22, n22⟩ X22 ⟨Lc22, hQ22, l22, y22, z22⟩
 dsimp only [Pt.U, Pt.locs, Pt.cells, Pt.slots] at X22 l22 y22 z22 hQ22 ⊢
 subst l22 y22 z22
 obtain ⟨rfl, N22q, e22⟩ := hQ22
 have N23 := Fr.app N0 N22q
 show Runs _ _ _ _ (T22.setTop (mkF m 11 #[.val (.ref a0), .val (.int p1)] [(.int (jj4 >>> ((1 : Int32) &&& 31))), (.int jj0)]))
 refine w_icY X22 hx (d7_11 hby) (flt hP_9).2.1 (pc' := 33) (by decide) (by decide) ?_
 refine w_iconst X22 hx (d7_33 hby) (v := (0 : Int32)) rfl (pc' := 34) rfl ?_
 exact w_done X22 hlk (v := some (.int (0 : Int32))) e22 (fun h => by rw [hret] at h; cases h) (fun fs hr => retN X22 hx (t := .boolean) hret (by simp) (d7_34 hby) hr) (by decide) (by decide) (⟨rfl, N23, rfl⟩)
theorem ef_law (m : MethodId) (p0 : Int32) (p1 : Int32) (p2 : Int32) (p3 : Int32)  : entryFrame m #[(.int p0), (.int p1), (.int p2), (.int p3)] maxLocals = mkF m 0 #[.val (.int p0), .val (.int p1), .val (.int p2), .val (.int p3), .unset, .unset, .unset, .unset, .unset, .unset, .unset, .unset, .unset, .unset, .unset, .unset] [] := by first | (simp [entryFrame, mkF, argsToLocals, Value.category, maxLocals]; done) | rfl
def Q_law (Z : State) (p0 : Int32) (p1 : Int32) (p2 : Int32) (p3 : Int32) (G_COMPACT_STRINGS : Int32) (G_SIOOBE_FORMATTER : Value) (h0 : Heap) (n0 : Nat) (v : Option Value) (h : Heap) (L : List Loc) (S : Addr → Prop) : Prop := v = some (.int (1 : Int32)) ∧ Fr n0 L
theorem rm_law (l : Launch) (Z : State) (aZ : Array Value) (hw : ∀ d ∈ tables_1, d.before aZ Z = true) (ws : List Jvm.Cond) (p0 : Int32) (p1 : Int32) (p2 : Int32) (p3 : Int32) (G_COMPACT_STRINGS : Int32) (G_SIOOBE_FORMATTER : Value) (h0 : Heap) (n0 : Nat) (Z0 : n0 ≤ h0.size) (S_COMPACT_STRINGS : Sta Z Z.heap kc0 "COMPACT_STRINGS" "Z" (.int G_COMPACT_STRINGS)) (O0 : Old Z n0 h0) (S__assertionsDisabled : Sta Z Z.heap kc1 "$assertionsDisabled" "Z" (.int (1 : Int32))) (S_HI_BYTE_SHIFT : Sta Z Z.heap kc1 "HI_BYTE_SHIFT" "I" (.int (0 : Int32))) (S_LO_BYTE_SHIFT : Sta Z Z.heap kc1 "LO_BYTE_SHIFT" "I" (.int (8 : Int32))) (hP_5 : ¬ (G_COMPACT_STRINGS = (0 : Int32))) (r_G_SIOOBE_FORMATTER : G_SIOOBE_FORMATTER.isRef = true) (S_SIOOBE_FORMATTER : Sta Z Z.heap "jdk/internal/util/Preconditions" "SIOOBE_FORMATTER" "Ljava/util/function/BiFunction;" G_SIOOBE_FORMATTER) :
    MetH l Z EL x code maxLocals ret ws room_1 #[(.int p0), (.int p1), (.int p2), (.int p3)] h0 (Q_law Z p0 p1 p2 p3 G_COMPACT_STRINGS G_SIOOBE_FORMATTER h0 n0) [] := by
 refine MetH.of (plainFor_of_name pn_2) ?_
 intro p e s m below meth c s₁ hret hx hby hml hown hnm hlk hZ X0 e0 hh hH hsf hS0 C0
 have N0 := Fr.nil n0
 rw [ef_law m p0 p1 p2 p3]
 refine w_iloadN X0 hx (hb hby at_0) rfl (pc' := 1) rfl ?_
 refine w_ldcI X0 hx hZ hown (wd_0 hw) (hb hby at_1) (pc' := 3) rfl ?_
 refine w_iand X0 hx (hb hby at_3) (pc' := 4) rfl ?_
 refine w_i2c X0 hx (hb hby at_4) (pc' := 5) rfl ?_
 refine w_istore X0 hx (hb hby at_5) (L' := #[.val (.int p0), .val (.int p1), .val (.int p2), .val (.int p3), .val (.int ((p1 &&& (65535 : Int32)).toUInt32.toUInt16.toUInt32.toInt32)), .unset, .unset, .unset, .unset, .unset, .unset, .unset, .unset, .unset, .unset, .unset]) rfl (pc' := 7) rfl ?_
 refine w_iloadN X0 hx (hb hby at_7) rfl (pc' := 8) rfl ?_
 refine w_bipush X0 hx (hb hby at_8) (v := (16 : Int32)) rfl (pc' := 10) rfl ?_
 refine w_iushr X0 hx (hb hby at_10) (pc' := 11) rfl ?_
 refine w_ldcI X0 hx hZ hown (wd_0 hw) (hb hby at_11) (pc' := 13) rfl ?_
 refine w_iand X0 hx (hb hby at_13) (pc' := 14) rfl ?_
 refine w_i2c X0 hx (hb hby at_14) (pc' := 15) rfl ?_
 refine w_istore X0 hx (hb hby at_15) (L' := #[.val (.int p0), .val (.int p1), .val (.int p2), .val (.int p3), .val (.int ((p1 &&& (65535 : Int32)).toUInt32.toUInt16.toUInt32.toInt32)), .val (.int ((((p1.toUInt32 >>> ((16 : Int32) &&& 31).toUInt32).toInt32) &&& (65535 : Int32)).toUInt32.toUInt16.toUInt32.toInt32)), .unset, .unset, .unset, .unset, .unset, .unset, .unset, .unset, .unset, .unset]) rfl (pc' := 17) rfl ?_
 refine w_iloadN X0 hx (hb hby at_17) rfl (pc' := 18) rfl ?_
 refine w_ldcI X0 hx hZ hown (wd_0 hw) (hb hby at_18) (pc' := 20) rfl ?_
 refine w_iand X0 hx (hb hby at_20) (pc' := 21) rfl ?_
 refine w_i2c X0 hx (hb hby at_21) (pc' := 22) rfl ?_
 refine w_istore X0 hx (hb hby at_22) (L' := #[.val (.int p0), .val (.int p1), .val (.int p2), .val (.int p3), .val (.int ((p1 &&& (65535 : Int32)).toUInt32.toUInt16.toUInt32.toInt32)), .val (.int ((((p1.toUInt32 >>> ((16 : Int32) &&& 31).toUInt32).toInt32) &&& (65535 : Int32)).toUInt32.toUInt16.toUInt32.toInt32)), .val (.int ((p2 &&& (65535 : Int32)).toUInt32.toUInt16.toUInt32.toInt32)), .unset, .unset, .unset, .unset, .unset, .unset, .unset, .unset, .unset]) rfl (pc' := 24) rfl ?_
 refine w_iloadN X0 hx (hb hby at_24) rfl (pc' := 25) rfl ?_
 refine w_bipush X0 hx (hb hby at_25) (v := (16 : Int32)) rfl (pc' := 27) rfl ?_
 refine w_iushr X0 hx (hb hby at_27) (pc' := 28) rfl ?_
 refine w_ldcI X0 hx hZ hown (wd_0 hw) (hb hby at_28) (pc' := 30) rfl ?_
 refine w_iand X0 hx (hb hby at_30) (pc' := 31) rfl ?_
 refine w_i2c X0 hx (hb hby at_31) (pc' := 32) rfl ?_
 refine w_istore X0 hx (hb hby at_32) (L' := #[.val (.int p0), .val (.int p1), .val (.int p2), .val (.int p3), .val (.int ((p1 &&& (65535 : Int32)).toUInt32.toUInt16.toUInt32.toInt32)), .val (.int ((((p1.toUInt32 >>> ((16 : Int32) &&& 31).toUInt32).toInt32) &&& (65535 : Int32)).toUInt32.toUInt16.toUInt32.toInt32)), .val (.int ((p2 &&& (65535 : Int32)).toUInt32.toUInt16.toUInt32.toInt32)), .val (.int ((((p2.toUInt32 >>> ((16 : Int32) &&& 31).toUInt32).toInt32) &&& (65535 : Int32)).toUInt32.toUInt16.toUInt32.toInt32)), .unset, .unset, .unset, .unset, .unset, .unset, .unset, .unset]) rfl (pc' := 34) rfl ?_
 have hg20 : nar .char ((p1 &&& (65535 : Int32)).toUInt32.toUInt16.toUInt32.toInt32) = ((p1 &&& (65535 : Int32)).toUInt32.toUInt16.toUInt32.toInt32) := (nar_c _)
 generalize ((p1 &&& (65535 : Int32)).toUInt32.toUInt16.toUInt32.toInt32) = ch4 at hg20 ⊢
 have hg21 : nar .char ((((p1.toUInt32 >>> ((16 : Int32) &&& 31).toUInt32).toInt32) &&& (65535 : Int32)).toUInt32.toUInt16.toUInt32.toInt32) = ((((p1.toUInt32 >>> ((16 : Int32) &&& 31).toUInt32).toInt32) &&& (65535 : Int32)).toUInt32.toUInt16.toUInt32.toInt32) := (nar_c _)
 generalize ((((p1.toUInt32 >>> ((16 : Int32) &&& 31).toUInt32).toInt32) &&& (65535 : Int32)).toUInt32.toUInt16.toUInt32.toInt32) = ch5 at hg21 ⊢
 have hg22 : nar .char ((p2 &&& (65535 : Int32)).toUInt32.toUInt16.toUInt32.toInt32) = ((p2 &&& (65535 : Int32)).toUInt32.toUInt16.toUInt32.toInt32) := (nar_c _)
 generalize ((p2 &&& (65535 : Int32)).toUInt32.toUInt16.toUInt32.toInt32) = ch6 at hg22 ⊢
 have hg23 : nar .char ((((p2.toUInt32 >>> ((16 : Int32) &&& 31).toUInt32).toInt32) &&& (65535 : Int32)).toUInt32.toUInt16.toUInt32.toInt32) = ((((p2.toUInt32 >>> ((16 : Int32) &&& 31).toUInt32).toInt32) &&& (65535 : Int32)).toUInt32.toUInt16.toUInt32.toInt32) := (nar_c _)
 generalize ((((p2.toUInt32 >>> ((16 : Int32) &&& 31).toUInt32).toInt32) &&& (65535 : Int32)).toUInt32.toUInt16.toUInt32.toInt32) = ch7 at hg23 ⊢
 refine w_iconst X0 hx (hb hby at_34) (v := (4 : Int32)) rfl (pc' := 35) rfl ?_
 refine w_newP X0 hx .char .char 4 rfl hZ (wd_1 hw) e0 (hb hby at_35) (by decide) (by decide) (by decide) (by decide) (by decide) (pc' := 37) rfl ?_
 intro T24 h24 k24 b24 X24 e24 E24 g24 A24
 have ge25 : n0 ≤ b24 := Nat.le_trans Z0 (Nat.le_of_eq g24.symm)
 have sz26 : h0.size ≤ b24 := Nat.le_trans (Nat.le_refl _) (Nat.le_of_eq g24.symm)
 have C27 : CHr Z EL s.vm h0 s.vm h24 := C0.trans (CHr.ext E24 C0.1)
 have K28 : Keep h0 h24 [] := (Keep.refl h0 []).ext E24
 have V29 : Arv Z h24 b24 k24 .char (4 : Int32) [(.int (0 : Int32)), (.int (0 : Int32)), (.int (0 : Int32)), (.int (0 : Int32))] (.int (0 : Int32)) := (Arv.new A24 (by decide)).pad (pad_rep [] (.int (0 : Int32)) 4)
 refine w_dup X24 hx (hb hby at_37) rfl (pc' := 38) rfl ?_
 refine w_iconst X24 hx (hb hby at_38) (v := (0 : Int32)) rfl (pc' := 39) rfl ?_
 refine w_iload X24 hx (hb hby at_39) rfl (pc' := 41) rfl ?_
 obtain ⟨clu30, Aru30, qu30, Su30, Nu30, Hu30, Gu30⟩ := id V29
 have hinu30 := inb_of (j := (0 : Int32)) Su30 ⟨by decide, by decide⟩
 refine w_stC X24 hx hZ e24 Aru30 hinu30 (hb hby at_41) (pc' := 42) rfl ?_
 intro T31 h31 X31 e31 W31
 have C32 : CHr Z EL s.vm h0 s.vm h31 := C27.trans (CHr.wr W31 (Safe.arv hZ.alike V29 (by decide)) C27.1)
 have V33 : Arv Z h31 b24 k24 .char (4 : Int32) [(.int (nar .char ch4)), (.int (0 : Int32)), (.int (0 : Int32)), (.int (0 : Int32))] (.int (0 : Int32)) := Arv.set Aru30 qu30 Su30 Nu30 Hu30 Gu30 (fits_nar_char _) W31 0 rfl (Nat.le_of_ble_eq_true rfl)
 have V34 : Arv Z h31 b24 k24 .char (4 : Int32) [(.int ch4), (.int (0 : Int32)), (.int (0 : Int32)), (.int (0 : Int32))] (.int (0 : Int32)) := by rw [hg20] at V33; exact V33
 have K35 : Keep h0 h31 [] := K28.wr W31 (Or.inr sz26)
 have N36 := Fr.snoc X31 N0 ge25
 refine w_dup X31 hx (hb hby at_42) rfl (pc' := 43) rfl ?_
 refine w_iconst X31 hx (hb hby at_43) (v := (1 : Int32)) rfl (pc' := 44) rfl ?_
 refine w_iload X31 hx (hb hby at_44) rfl (pc' := 46) rfl ?_
 obtain ⟨clu37, Aru37, qu37, Su37, Nu37, Hu37, Gu37⟩ := id V34
 have hinu37 := inb_of (j := (1 : Int32)) Su37 ⟨by decide, by decide⟩
 refine w_stC X31 hx hZ e31 Aru37 hinu37 (hb hby at_46) (pc' := 47) rfl ?_
 intro T38 h38 X38 e38 W38
 have C39 : CHr Z EL s.vm h0 s.vm h38 := C32.trans (CHr.wr W38 (Safe.arv hZ.alike V34 (by decide)) C32.1)
 have V40 : Arv Z h38 b24 k24 .char (4 : Int32) [(.int ch4), (.int (nar .char ch5)), (.int (0 : Int32)), (.int (0 : Int32))] (.int (0 : Int32)) := Arv.set Aru37 qu37 Su37 Nu37 Hu37 Gu37 (fits_nar_char _) W38 1 rfl (Nat.le_of_ble_eq_true rfl)
 have V41 : Arv Z h38 b24 k24 .char (4 : Int32) [(.int ch4), (.int ch5), (.int (0 : Int32)), (.int (0 : Int32))] (.int (0 : Int32)) := by rw [hg21] at V40; exact V40
 have K42 : Keep h0 h38 [] := K35.wr W38 (Or.inr sz26)
 have N43 := Fr.snoc X38 N36 ge25
 refine w_dup X38 hx (hb hby at_47) rfl (pc' := 48) rfl ?_
 refine w_iconst X38 hx (hb hby at_48) (v := (2 : Int32)) rfl (pc' := 49) rfl ?_
 refine w_iload X38 hx (hb hby at_49) rfl (pc' := 51) rfl ?_
 obtain ⟨clu44, Aru44, qu44, Su44, Nu44, Hu44, Gu44⟩ := id V41
 have hinu44 := inb_of (j := (2 : Int32)) Su44 ⟨by decide, by decide⟩
 refine w_stC X38 hx hZ e38 Aru44 hinu44 (hb hby at_51) (pc' := 52) rfl ?_
 intro T45 h45 X45 e45 W45
 have C46 : CHr Z EL s.vm h0 s.vm h45 := C39.trans (CHr.wr W45 (Safe.arv hZ.alike V41 (by decide)) C39.1)
 have V47 : Arv Z h45 b24 k24 .char (4 : Int32) [(.int ch4), (.int ch5), (.int (nar .char ch6)), (.int (0 : Int32))] (.int (0 : Int32)) := Arv.set Aru44 qu44 Su44 Nu44 Hu44 Gu44 (fits_nar_char _) W45 2 rfl (Nat.le_of_ble_eq_true rfl)
 have V48 : Arv Z h45 b24 k24 .char (4 : Int32) [(.int ch4), (.int ch5), (.int ch6), (.int (0 : Int32))] (.int (0 : Int32)) := by rw [hg22] at V47; exact V47
 have K49 : Keep h0 h45 [] := K42.wr W45 (Or.inr sz26)
 have N50 := Fr.snoc X45 N43 ge25
 refine w_dup X45 hx (hb hby at_52) rfl (pc' := 53) rfl ?_
 refine w_iconst X45 hx (hb hby at_53) (v := (3 : Int32)) rfl (pc' := 54) rfl ?_
 refine w_iload X45 hx (hb hby at_54) rfl (pc' := 56) rfl ?_
 obtain ⟨clu51, Aru51, qu51, Su51, Nu51, Hu51, Gu51⟩ := id V48
 have hinu51 := inb_of (j := (3 : Int32)) Su51 ⟨by decide, by decide⟩
 refine w_stC X45 hx hZ e45 Aru51 hinu51 (hb hby at_56) (pc' := 57) rfl ?_
 intro T52 h52 X52 e52 W52
 have C53 : CHr Z EL s.vm h0 s.vm h52 := C46.trans (CHr.wr W52 (Safe.arv hZ.alike V48 (by decide)) C46.1)
 have V54 : Arv Z h52 b24 k24 .char (4 : Int32) [(.int ch4), (.int ch5), (.int ch6), (.int (nar .char ch7))] (.int (0 : Int32)) := Arv.set Aru51 qu51 Su51 Nu51 Hu51 Gu51 (fits_nar_char _) W52 3 rfl (Nat.le_of_ble_eq_true rfl)
 have V55 : Arv Z h52 b24 k24 .char (4 : Int32) [(.int ch4), (.int ch5), (.int ch6), (.int ch7)] (.int (0 : Int32)) := by rw [hg23] at V54; exact V54
 have K56 : Keep h0 h52 [] := K49.wr W52 (Or.inr sz26)
 have N57 := Fr.snoc X52 N50 ge25
 refine w_astore X52 hx (hb hby at_57) rfl (L' := #[.val (.int p0), .val (.int p1), .val (.int p2), .val (.int p3), .val (.int ch4), .val (.int ch5), .val (.int ch6), .val (.int ch7), .val (.ref b24), .unset, .unset, .unset, .unset, .unset, .unset, .unset]) rfl (pc' := 59) rfl ?_
 refine w_iloadN X52 hx (hb hby at_59) rfl (pc' := 60) rfl ?_
 refine w_bipush X52 hx (hb hby at_60) (v := (7 : Int32)) rfl (pc' := 62) rfl ?_
 refine w_iand X52 hx (hb hby at_62) (pc' := 63) rfl ?_
 refine w_iconst X52 hx (hb hby at_63) (v := (5 : Int32)) rfl (pc' := 64) rfl ?_
 refine w_irem X52 hx (hb hby at_64) (by decide : ¬ ((5 : Int32) = (0 : Int32))) (pc' := 65) rfl ?_
 refine w_istore X52 hx (hb hby at_65) (L' := #[.val (.int p0), .val (.int p1), .val (.int p2), .val (.int p3), .val (.int ch4), .val (.int ch5), .val (.int ch6), .val (.int ch7), .val (.ref b24), .val (.int ((p0 &&& (7 : Int32)) % (5 : Int32))), .unset, .unset, .unset, .unset, .unset, .unset]) rfl (pc' := 67) rfl ?_
 have hg58 : ¬ ((p0 &&& (7 : Int32)) % (5 : Int32)) < 0 := (own_n5 p0).1
 have hg59 : ((p0 &&& (7 : Int32)) % (5 : Int32)) < 5 := (own_n5 p0).2
 generalize ((p0 &&& (7 : Int32)) % (5 : Int32)) = nn at hg58 hg59 ⊢
 refine w_iloadN X52 hx (hb hby at_67) rfl (pc' := 68) rfl ?_
 refine w_iconst X52 hx (hb hby at_68) (v := (3 : Int32)) rfl (pc' := 69) rfl ?_
 refine w_iushr X52 hx (hb hby at_69) (pc' := 70) rfl ?_
 refine w_bipush X52 hx (hb hby at_70) (v := (7 : Int32)) rfl (pc' := 72) rfl ?_
 refine w_iand X52 hx (hb hby at_72) (pc' := 73) rfl ?_
 refine w_istore X52 hx (hb hby at_73) (L' := #[.val (.int p0), .val (.int p1), .val (.int p2), .val (.int p3), .val (.int ch4), .val (.int ch5), .val (.int ch6), .val (.int ch7), .val (.ref b24), .val (.int nn), .val (.int (((p0.toUInt32 >>> ((3 : Int32) &&& 31).toUInt32).toInt32) &&& (7 : Int32))), .unset, .unset, .unset, .unset, .unset]) rfl (pc' := 75) rfl ?_
 have hg60 : ¬ (((p0.toUInt32 >>> ((3 : Int32) &&& 31).toUInt32).toInt32) &&& (7 : Int32)) < 0 := (own_and7 _)
 generalize (((p0.toUInt32 >>> ((3 : Int32) &&& 31).toUInt32).toInt32) &&& (7 : Int32)) = pp at hg60 ⊢
 refine w_iloadN X52 hx (hb hby at_75) rfl (pc' := 76) rfl ?_
 refine w_bipush X52 hx (hb hby at_76) (v := (6 : Int32)) rfl (pc' := 78) rfl ?_
 refine w_iushr X52 hx (hb hby at_78) (pc' := 79) rfl ?_
 refine w_iconst X52 hx (hb hby at_79) (v := (1 : Int32)) rfl (pc' := 80) rfl ?_
 refine w_iand X52 hx (hb hby at_80) (pc' := 81) rfl ?_
 suffices key62 : ∀ gc61 : Int32, Runs p e below (EndH s Z EL (Q_law Z p0 p1 p2 p3 G_COMPACT_STRINGS G_SIOOBE_FORMATTER h0 n0) room_1.cells room_1.slots) (T52.setTop (mkF m 103 #[.val (.int p0), .val (.int p1), .val (.int p2), .val (.int p3), .val (.int ch4), .val (.int ch5), .val (.int ch6), .val (.int ch7), .val (.ref b24), .val (.int nn), .val (.int pp), .val (.int gc61), .unset, .unset, .unset, .unset] [])) by
  by_cases hc63 : (((p0.toUInt32 >>> ((6 : Int32) &&& 31).toUInt32).toInt32) &&& (1 : Int32)) = (0 : Int32)
  · refine w_ifN X52 hx (hb hby at_81) (teq hc63).2 (pc' := 84) rfl ?_
    refine w_aload X52 hx (hb hby at_84) rfl rfl (pc' := 86) rfl ?_
    refine w_iload X52 hx (hb hby at_86) rfl (pc' := 88) rfl ?_
    refine w_iconst X52 hx (hb hby at_88) (v := (3 : Int32)) rfl (pc' := 89) rfl ?_
    refine w_iand X52 hx (hb hby at_89) (pc' := 90) rfl ?_
    obtain ⟨clu64, Aru64, qu64, Su64, Nu64, Hu64, Gu64⟩ := id V55
    have hinu64 := inb_of (j := (pp &&& (3 : Int32))) Su64 ⟨(own_and3 _).1, (own_and3 _).2⟩
    refine w_caload X52 hx hZ e52 Aru64 hinu64 (Hu64.at hinu64 (own_gI [ch4, ch5, ch6, ch7] (pp &&& (3 : Int32)))) (hb hby at_90) (pc' := 91) rfl ?_
    refine w_istore X52 hx (hb hby at_91) (L' := #[.val (.int p0), .val (.int p1), .val (.int p2), .val (.int p3), .val (.int ch4), .val (.int ch5), .val (.int ch6), .val (.int ch7), .val (.ref b24), .val (.int nn), .val (.int pp), .val (.int (gI [ch4, ch5, ch6, ch7] (pp &&& (3 : Int32)))), .unset, .unset, .unset, .unset]) rfl (pc' := 93) rfl ?_
    refine w_goto X52 hx (hb hby at_93) (pc' := 103) (by decide) (by decide) ?_
    exact key62 _ 
  · refine w_ifY X52 hx (hb hby at_81) (feq hc63).2 (pc' := 96) (by decide) (by decide) ?_
    refine w_iloadN X52 hx (hb hby at_96) rfl (pc' := 97) rfl ?_
    refine w_ldcI X52 hx hZ hown (wd_0 hw) (hb hby at_97) (pc' := 99) rfl ?_
    refine w_iand X52 hx (hb hby at_99) (pc' := 100) rfl ?_
    refine w_i2c X52 hx (hb hby at_100) (pc' := 101) rfl ?_
    refine w_istore X52 hx (hb hby at_101) (L' := #[.val (.int p0), .val (.int p1), .val (.int p2), .val (.int p3), .val (.int ch4), .val (.int ch5), .val (.int ch6), .val (.int ch7), .val (.ref b24), .val (.int nn), .val (.int pp), .val (.int ((p3 &&& (65535 : Int32)).toUInt32.toUInt16.toUInt32.toInt32)), .unset, .unset, .unset, .unset]) rfl (pc' := 103) rfl ?_
    exact key62 _ 
 intro gc61
 refine w_iload X52 hx (hb hby at_103) rfl (pc' := 105) rfl ?_
 refine w_iload X52 hx (hb hby at_105) rfl (pc' := 107) rfl ?_
 refine w_iload X52 hx (hb hby at_107) rfl (pc' := 109) rfl ?_
 refine w_iload X52 hx (hb hby at_109) rfl (pc' := 111) rfl ?_
 refine w_iload X52 hx (hb hby at_111) rfl (pc' := 113) rfl ?_
 have f65 : Old Z n0 h52 := (((((O0.ext E24).wr W31 ge25).wr W38 ge25).wr W45 ge25).wr W52 ge25)
 have le66 : h0.size ≤ h31.size := (Nat.le_trans E24.1 (Keep.of_wr W31).1)
 have le67 : h0.size ≤ h38.size := (Nat.le_trans le66 (Keep.of_wr W38).1)
 have le68 : h0.size ≤ h45.size := (Nat.le_trans le67 (Keep.of_wr W45).1)
 have le69 : h0.size ≤ h52.size := (Nat.le_trans le68 (Keep.of_wr W52).1)
 refine w_staticS X52 hx (y := yn_1) hown (mvT hZ (wd_2 hw)) (mvT hZ (wd_3 hw)) (mvT hZ (wd_4 hw)) (mvT hZ (wd_5 hw)) (by decide) (backOfY (W := 0) (rm_m1_3 l Z aZ hw [] nn ch4 ch5 ch6 ch7 G_COMPACT_STRINGS h52 n0 (Nat.le_trans Z0 le69) hg20 S_COMPACT_STRINGS f65 S__assertionsDisabled S_HI_BYTE_SHIFT S_LO_BYTE_SHIFT hP_5 hg21 hg22 hg23 hg59 hg58) hZ (wd_5 hw) (wd_4 hw) (by decide) (by decide) (own_EW hw) C53.1 sf0 all0) (by rw [hml]; rfl) [(.int nn), (.int ch4), (.int ch5), (.int ch6), (.int ch7)] (lenOf pd_9 rfl) rfl (Nat.le_of_eq rfl) (hb hby at_113) (fun _ _ => ⟨rfl, e52, (by decide : 1 + 6 ≤ _), (by decide : 4 + 20 ≤ _)⟩) (pc' := 116) rfl ?_
 rintro _ _ ⟨T70, L70, k70, n70⟩ XX70 hSS70 hg70 ⟨Lc70, hQ70, l70, y70, z70, A70⟩
 dsimp only [Pt.U, Pt.locs, Pt.cells, Pt.slots] at XX70 l70 y70 z70 hQ70 hSS70 hg70 A70 ⊢
 subst l70 y70 z70
 obtain ⟨X70, hS70, hZ70, hown70⟩ := rebS hS0 (Nat.le_trans (Nat.le_refl _) le69) XX70 hSS70 (e52 ▸ hg70) hZ hown
 rcases hQ70 with ⟨r_70, t_70, kb_70, rfl, N70q, K70, g70_0, g70_1, g70_2, g70_3, g70_4, g70_5, g70_6⟩ | ⟨r_70, t_70, kb_70, rfl, N70q, K70, g70_0, g70_1, g70_2, g70_3, g70_4, g70_5⟩
 · have N71 := Fr.app N57 N70q
   have C72 : CHr Z EL s.vm h0 T70.vm T70.heap := C53.trans A70
   have K73 : Keep h0 T70.heap [] := K56.trans K70 (all0 (P := fun x => x ∈ [] ∨ h0.size ≤ x))
   have ge74 : n0 ≤ r_70 := Nat.le_trans (Nat.le_trans Z0 le69) g70_0
   have sz75 : h0.size ≤ r_70 := Nat.le_trans le69 g70_0
   show Runs _ _ _ _ (T70.setTop (mkF m 116 #[.val (.int p0), .val (.int p1), .val (.int p2), .val (.int p3), .val (.int ch4), .val (.int ch5), .val (.int ch6), .val (.int ch7), .val (.ref b24), .val (.int nn), .val (.int pp), .val (.int gc61), .unset, .unset, .unset, .unset] [(.ref r_70)]))
   refine w_astore X70 hx (hb hby at_116) rfl (L' := #[.val (.int p0), .val (.int p1), .val (.int p2), .val (.int p3), .val (.int ch4), .val (.int ch5), .val (.int ch6), .val (.int ch7), .val (.ref b24), .val (.int nn), .val (.int pp), .val (.int gc61), .val (.ref r_70), .unset, .unset, .unset]) rfl (pc' := 118) rfl ?_
   refine w_new X70 hx hZ70 hown70 (wd_27 hw) (wd_28 hw) (wd_4 hw) rfl (hb hby at_118) (by decide) (by decide) (pc' := 121) rfl ?_
   intro T76 h76 b76 X76 e76 E76 g76 A76 D76
   have le78 : h0.size ≤ T70.heap.size := (Nat.le_trans le69 K70.1)
   have ge77 : n0 ≤ b76 := Nat.le_trans (Nat.le_trans Z0 le78) (Nat.le_of_eq g76.symm)
   have sz79 : h0.size ≤ b76 := Nat.le_trans le78 (Nat.le_of_eq g76.symm)
   have C80 : CHr Z EL s.vm h0 T70.vm h76 := C72.trans (CHr.ext E76 C72.1)
   have K81 : Keep h0 h76 [] := K73.ext E76
   have f82 : Fld Z h76 b76 kc2 "text" "Ljava/lang/String;" .null := D76 (Or.inr (wd_40 hw)) (ty := (.object kc0)) (by decide)
   have f83 : Fld Z h76 b76 kc2 "refusal" "Ljava/lang/String;" .null := D76 (Or.inr (wd_42 hw)) (ty := (.object kc0)) (by decide)
   have f84 : Fld Z h76 b76 kc2 "position" "I" (.int (0 : Int32)) := D76 (Or.inl (wd_45 hw)) (ty := .int) (by decide)
   refine w_dup X76 hx (hb hby at_121) rfl (pc' := 122) rfl ?_
   refine w_aload X76 hx (hb hby at_122) rfl rfl (pc' := 124) rfl ?_
   obtain ⟨a85, T85, h85, k85, b85, c85, X85, e85, E85, hS85, hk85, hZ85, hown85, gE85, gC85, gV85, gA85, lt85, ltb85, A85, -, ns85, st85⟩ := ldcCH X76 hx hZ70 hown70 (wd_29 hw) (own_wS hw) e76 hS70 (Nat.le_trans (Nat.le_refl _) E76.1) (own_EW hw) (by simp [EL, x]) C80.1 (vs := [(.int (120 : Int32))]) (z := (1 : Int32)) (by decide +kernel) (by decide) (by decide) (g := (mkF m 124 #[.val (.int p0), .val (.int p1), .val (.int p2), .val (.int p3), .val (.int ch4), .val (.int ch5), .val (.int ch6), .val (.int ch7), .val (.ref b24), .val (.int nn), .val (.int pp), .val (.int gc61), .val (.ref r_70), .unset, .unset, .unset] [(.ref r_70), (.ref b76), (.ref b76)])) rfl (hb hby at_124) (n := 4) (by decide +kernel) (by decide) (by decide) (by decide)
   refine Runs.by ?_ st85
   have C86 : CHr Z EL s.vm h0 T85.vm h85 := C80.trans A85
   have K87 : Keep h0 h85 [] := K81.ext E85
   show Runs _ _ _ _ (T85.setTop (mkF m 126 #[.val (.int p0), .val (.int p1), .val (.int p2), .val (.int p3), .val (.int ch4), .val (.int ch5), .val (.int ch6), .val (.int ch7), .val (.ref b24), .val (.int nn), .val (.int pp), .val (.int gc61), .val (.ref r_70), .unset, .unset, .unset] [(.ref a85), (.ref r_70), (.ref b76), (.ref b76)]))
   have f88 : Exa Z h85 b76 kc3 := (A76.ext E85)
   have f89 : Fld Z h85 b76 kc2 "text" "Ljava/lang/String;" .null := (f82.ext E85)
   have f90 : Fld Z h85 b76 kc2 "refusal" "Ljava/lang/String;" .null := (f83.ext E85)
   have f91 : Fld Z h85 b76 kc2 "position" "I" (.int (0 : Int32)) := (f84.ext E85)
   have le92 : h0.size ≤ h76.size := (Nat.le_trans le78 E76.1)
   have le93 : h0.size ≤ h85.size := (Nat.le_trans le92 E85.1)
   refine w_special X85 hx (y := yn_5) rfl hown85 (mvT hZ85 (wd_30 hw)) (mvT hZ85 (wd_31 hw)) (mvT hZ85 (wd_32 hw)) (by decide) (backOf (W := 1) (rm_m5_57 l Z aZ hw [] b76 r_70 a85 h85 n0 (Nat.le_trans Z0 le93) f88 f89 f90 f91 ge77) hZ85 (wd_32 hw) (wd_4 hw) (by decide) (by decide)) (by rw [hml]; rfl) [(.ref r_70), (.ref a85)] (lenOf pd_10 rfl) rfl (Nat.le_of_eq rfl) (hb hby at_126) (fun _ _ => ⟨rfl, e85, (by decide : 10 + 0 ≤ _), (by decide : 35 + 0 ≤ _)⟩) (pc' := 129) rfl ?_
   rintro _ _ ⟨T94, L94, k94, n94⟩ X94 ⟨Lc94, hQ94, l94, y94, z94⟩
   dsimp only [Pt.U, Pt.locs, Pt.cells, Pt.slots] at X94 l94 y94 z94 hQ94 ⊢
   subst l94 y94 z94
   obtain ⟨rfl, N94q, K94, g94_0, g94_1, g94_2, g94_3⟩ := hQ94
   have N95 := Fr.app N71 N94q
   have C96 : CHr Z EL s.vm h0 T85.vm T94.heap := C86.trans (CHr.keep K94 (sfS (Safe.exa hZ85.alike f88 (by decide) (by decide)) sf0) C86.1)
   have K97 : Keep h0 T94.heap [] := K87.trans K94 (allS (Or.inr sz79) (all0 (P := fun x => x ∈ [] ∨ h0.size ≤ x)))
   show Runs _ _ _ _ (T94.setTop (mkF m 129 #[.val (.int p0), .val (.int p1), .val (.int p2), .val (.int p3), .val (.int ch4), .val (.int ch5), .val (.int ch6), .val (.int ch7), .val (.ref b24), .val (.int nn), .val (.int pp), .val (.int gc61), .val (.ref r_70), .unset, .unset, .unset] [(.ref b76)]))
   refine w_astore X94 hx (hb hby at_129) rfl (L' := #[.val (.int p0), .val (.int p1), .val (.int p2), .val (.int p3), .val (.int ch4), .val (.int ch5), .val (.int ch6), .val (.int ch7), .val (.ref b24), .val (.int nn), .val (.int pp), .val (.int gc61), .val (.ref r_70), .val (.ref b76), .unset, .unset]) rfl (pc' := 131) rfl ?_
   refine w_aload X94 hx (hb hby at_131) rfl rfl (pc' := 133) rfl ?_
   refine w_iload X94 hx (hb hby at_133) rfl (pc' := 135) rfl ?_
   refine w_putF X94 hx "" hZ85 hown85 (Or.inl (wd_43 hw)) (Via.of (wd_44 hw)) rfl g94_3 g94_0 (Or.inl (wd_45 hw)) (wd_28 hw) (ty := .int) (by decide) rfl rfl (hb hby at_135) (pc' := 138) rfl ?_
   intro T98 h98 X98 e98 W98
   have C99 : CHr Z EL s.vm h0 T85.vm h98 := C96.trans (CHr.wr W98 (Safe.exa hZ85.alike g94_0 (by decide) (by decide)) C96.1)
   have f100 : Fld Z h98 b76 kc2 "position" "I" (.int pp) := g94_3.same W98
   have K101 : Keep h0 h98 [] := K97.wr W98 (Or.inr sz79)
   have N102 := Fr.snoc X98 N95 ge77
   refine w_iconst X98 hx (hb hby at_138) (v := (0 : Int32)) rfl (pc' := 139) rfl ?_
   refine w_istore X98 hx (hb hby at_139) (L' := #[.val (.int p0), .val (.int p1), .val (.int p2), .val (.int p3), .val (.int ch4), .val (.int ch5), .val (.int ch6), .val (.int ch7), .val (.ref b24), .val (.int nn), .val (.int pp), .val (.int gc61), .val (.ref r_70), .val (.ref b76), .val (.int (0 : Int32)), .unset]) rfl (pc' := 141) rfl ?_
   refine w_iload X98 hx (hb hby at_141) rfl (pc' := 143) rfl ?_
   refine w_iload X98 hx (hb hby at_143) rfl (pc' := 145) rfl ?_
   by_cases hc103 : pp < nn
   · refine w_icN X98 hx (hb hby at_145) (tlt hc103).2.1 (pc' := 148) rfl ?_
     refine w_aload X98 hx (hb hby at_148) rfl rfl (pc' := 150) rfl ?_
     refine w_iload X98 hx (hb hby at_150) rfl (pc' := 152) rfl ?_
     have le104 : h24.size ≤ h38.size := (Nat.le_trans (Keep.of_wr W31).1 (Keep.of_wr W38).1)
     have le105 : h24.size ≤ h45.size := (Nat.le_trans le104 (Keep.of_wr W45).1)
     have le106 : h24.size ≤ h52.size := (Nat.le_trans le105 (Keep.of_wr W52).1)
     have le107 : h24.size ≤ T70.heap.size := (Nat.le_trans le106 K70.1)
     have ne108 : b24 ≠ b76 := (Nat.ne_of_lt (Nat.lt_of_lt_of_le A24.lt (Nat.le_trans le107 (Nat.le_of_eq g76.symm))))
     have f109 : Arv Z h98 b24 k24 .char (4 : Int32) [(.int ch4), (.int ch5), (.int ch6), (.int ch7)] (.int (0 : Int32)) := (((((V55.keep K70 nin0).ext E76).ext E85).keep K94 (ninS ne108 nin0)).other W98 ne108)
     obtain ⟨clu110, Aru110, qu110, Su110, Nu110, Hu110, Gu110⟩ := id f109
     have hinu110 := inb_of (j := pp) Su110 ⟨hg60, (own_lt4 hg59 hc103)⟩
     refine w_caload X98 hx hZ85 e98 Aru110 hinu110 (Hu110.at hinu110 (own_gI [ch4, ch5, ch6, ch7] pp)) (hb hby at_152) (pc' := 153) rfl ?_
     refine w_iload X98 hx (hb hby at_153) rfl (pc' := 155) rfl ?_
     suffices key112 : Runs p e below (EndH s Z EL (Q_law Z p0 p1 p2 p3 G_COMPACT_STRINGS G_SIOOBE_FORMATTER h0 n0) room_1.cells room_1.slots) (T98.setTop (mkF m 163 #[.val (.int p0), .val (.int p1), .val (.int p2), .val (.int p3), .val (.int ch4), .val (.int ch5), .val (.int ch6), .val (.int ch7), .val (.ref b24), .val (.int nn), .val (.int pp), .val (.int gc61), .val (.ref r_70), .val (.ref b76), .val (.int (0 : Int32)), .unset] [(.int (if (gI [ch4, ch5, ch6, ch7] pp) = gc61 then (1 : Int32) else (0 : Int32)))])) by
      by_cases hc111 : (gI [ch4, ch5, ch6, ch7] pp) = gc61
      · rw [if_pos hc111] at key112
        refine w_icN X98 hx (hb hby at_155) (teq hc111).2 (pc' := 158) rfl ?_
        refine w_iconst X98 hx (hb hby at_158) (v := (1 : Int32)) rfl (pc' := 159) rfl ?_
        refine w_goto X98 hx (hb hby at_159) (pc' := 163) (by decide) (by decide) ?_
        exact key112
      · rw [if_neg hc111] at key112
        refine w_icY X98 hx (hb hby at_155) (feq hc111).2 (pc' := 162) (by decide) (by decide) ?_
        refine w_iconst X98 hx (hb hby at_162) (v := (0 : Int32)) rfl (pc' := 163) rfl ?_
        exact key112
     refine w_istore X98 hx (hb hby at_163) (L' := #[.val (.int p0), .val (.int p1), .val (.int p2), .val (.int p3), .val (.int ch4), .val (.int ch5), .val (.int ch6), .val (.int ch7), .val (.ref b24), .val (.int nn), .val (.int pp), .val (.int gc61), .val (.ref r_70), .val (.ref b76), .val (.int (if (gI [ch4, ch5, ch6, ch7] pp) = gc61 then (1 : Int32) else (0 : Int32))), .unset]) rfl (pc' := 165) rfl ?_
     refine w_aload X98 hx (hb hby at_165) rfl rfl (pc' := 167) rfl ?_
     refine w_iload X98 hx (hb hby at_167) rfl (pc' := 169) rfl ?_
     have f113 : Fld Z h98 b76 kc2 "text" "Ljava/lang/String;" (.ref r_70) := (g94_1.other W98 (Or.inr (slot_ne (Or.inr (wd_40 hw)) (Or.inl (wd_45 hw)) (by decide) (t := (.object kc0)) (t' := .int) (by decide) (by decide))))
     have f114 : Exa Z h98 r_70 kc0 := ((((g70_2.ext E76).ext E85).keep K94).wr W98)
     have ne115 : r_70 ≠ b76 := (Nat.ne_of_lt (Nat.lt_of_lt_of_le g70_2.lt (Nat.le_trans (Nat.le_refl _) (Nat.le_of_eq g76.symm))))
     have f116 : Fld Z h98 r_70 kc0 "value" "[B" (.ref t_70) := ((((g70_4.ext E76).ext E85).keep K94 (ninS ne115 nin0)).other W98 (Or.inl ne115))
     have ne117 : t_70 ≠ b76 := (Nat.ne_of_lt (Nat.lt_of_lt_of_le g70_5.lt (Nat.le_trans (Nat.le_refl _) (Nat.le_of_eq g76.symm))))
     have f118 : Arv Z h98 t_70 kb_70 .byte nn (mI (lowL (cl4 nn ch4 ch5 ch6 ch7))) (.int (0 : Int32)) := ((((g70_5.ext E76).ext E85).keep K94 (ninS ne117 nin0)).other W98 ne117)
     have f119 : Fld Z h98 r_70 kc0 "coder" "B" (.int (0 : Int32)) := ((((g70_3.ext E76).ext E85).keep K94 (ninS ne115 nin0)).other W98 (Or.inl ne115))
     have f120 : Old Z n0 h98 := (((((f65.keep K70 all0).ext E76).ext E85).keep K94 (allS ge77 all0)).wr W98 ge77)
     have le121 : h0.size ≤ T94.heap.size := (Nat.le_trans le93 K94.1)
     have le122 : h0.size ≤ h98.size := (Nat.le_trans le121 (Keep.of_wr W98).1)
     have f124 : Exa Z h98 b76 kc3 := (g94_0.wr W98)
     obtain ⟨cq123, kq123, q123a, q123b, q123c⟩ := isOf hZ85 e98 f124
     refine w_virtualUp X98 hx (y := (⟨kc3, "lookingAt", "(C)Z"⟩ : MethodName)) (z := yn_7) (owner := kc2) hown85 (mvT hZ85 (wd_46 hw)) (mvT hZ85 (wd_47 hw)) (mvT hZ85 (wd_48 hw)) (by decide) (mvT hZ85 (wd_50 hw)) (mvT hZ85 (wd_49 hw)) (backOf (W := 0) (rm_m7_59 l Z aZ hw [] b76 gc61 pp r_70 t_70 kb_70 nn (lowL (cl4 nn ch4 ch5 ch6 ch7)) G_COMPACT_STRINGS G_SIOOBE_FORMATTER h98 n0 (Nat.le_trans Z0 le122) f100 f113 f114 f116 f118 f119 S_COMPACT_STRINGS f120 hP_5 hc103 hg60 r_G_SIOOBE_FORMATTER S_SIOOBE_FORMATTER) hZ85 (wd_51 hw) (wd_36 hw) (by decide) (by decide)) q123a q123c (by rw [hml]; rfl) [(.int gc61)] (lenOf pd_17 rfl) rfl (Nat.le_of_eq rfl) (hb hby at_169) (fun _ _ => ⟨rfl, e98, (by decide : 10 + 0 ≤ _), (by decide : 35 + 0 ≤ _)⟩) (pc' := 172) rfl ?_
     rintro _ _ ⟨T123, L123, k123, n123⟩ X123 ⟨Lc123, hQ123, l123, y123, z123⟩
     dsimp only [Pt.U, Pt.locs, Pt.cells, Pt.slots] at X123 l123 y123 z123 hQ123 ⊢
     subst l123 y123 z123
     obtain ⟨rfl, N123q, e123⟩ := hQ123
     have N125 := Fr.app N102 N123q
     show Runs _ _ _ _ (T123.setTop (mkF m 172 #[.val (.int p0), .val (.int p1), .val (.int p2), .val (.int p3), .val (.int ch4), .val (.int ch5), .val (.int ch6), .val (.int ch7), .val (.ref b24), .val (.int nn), .val (.int pp), .val (.int gc61), .val (.ref r_70), .val (.ref b76), .val (.int (if (gI [ch4, ch5, ch6, ch7] pp) = gc61 then (1 : Int32) else (0 : Int32))), .unset] [(.int (if (((gI (lowL (cl4 nn ch4 ch5 ch6 ch7)) pp) &&& (255 : Int32)).toUInt32.toUInt16.toUInt32.toInt32) = gc61 then (1 : Int32) else (0 : Int32)))]))
     refine w_istore X123 hx (hb hby at_172) (L' := #[.val (.int p0), .val (.int p1), .val (.int p2), .val (.int p3), .val (.int ch4), .val (.int ch5), .val (.int ch6), .val (.int ch7), .val (.ref b24), .val (.int nn), .val (.int pp), .val (.int gc61), .val (.ref r_70), .val (.ref b76), .val (.int (if (gI [ch4, ch5, ch6, ch7] pp) = gc61 then (1 : Int32) else (0 : Int32))), .val (.int (if (((gI (lowL (cl4 nn ch4 ch5 ch6 ch7)) pp) &&& (255 : Int32)).toUInt32.toUInt16.toUInt32.toInt32) = gc61 then (1 : Int32) else (0 : Int32)))]) rfl (pc' := 174) rfl ?_
     refine w_iload X123 hx (hb hby at_174) rfl (pc' := 176) rfl ?_
     refine w_iload X123 hx (hb hby at_176) rfl (pc' := 178) rfl ?_
     refine w_icN X123 hx (hb hby at_178) (teq (show (if (((gI (lowL (cl4 nn ch4 ch5 ch6 ch7)) pp) &&& (255 : Int32)).toUInt32.toUInt16.toUInt32.toInt32) = gc61 then (1 : Int32) else (0 : Int32)) = (if (gI [ch4, ch5, ch6, ch7] pp) = gc61 then (1 : Int32) else (0 : Int32)) from by rw [own_latG hg59 hg58 hg60 hc103 hg20 hg21 hg22 hg23 g70_6])).2 (pc' := 181) rfl ?_
     refine w_aload X123 hx (hb hby at_181) rfl rfl (pc' := 183) rfl ?_
     refine w_getF X123 hx "" hZ85 hown85 (Or.inl (wd_43 hw)) (Via.of (wd_44 hw)) e123 f100 (hb hby at_183) (pc' := 186) rfl ?_
     intro T126 X126 e126
     refine w_iload X126 hx (hb hby at_186) rfl (pc' := 188) rfl ?_
     refine w_icN X126 hx (hb hby at_188) (teq (rfl : pp = pp)).2 (pc' := 191) rfl ?_
     refine w_aload X126 hx (hb hby at_191) rfl rfl (pc' := 193) rfl ?_
     refine w_getF X126 hx "" hZ85 hown85 (Or.inl (wd_64 hw)) (Via.of (wd_65 hw)) e126 f113 (hb hby at_193) (pc' := 196) rfl ?_
     intro T127 X127 e127
     refine w_aload X127 hx (hb hby at_196) rfl rfl (pc' := 198) rfl ?_
     refine w_acmp X127 hx (hb hby at_198) (same := true) rfl rfl (decide_eq_true rfl) (pc' := 201) (by decide) (by decide) ?_
     refine w_iconst X127 hx (hb hby at_201) (v := (1 : Int32)) rfl (pc' := 202) rfl ?_
     refine w_goto X127 hx (hb hby at_202) (pc' := 206) (by decide) (by decide) ?_
     have le128 : h85.size ≤ h98.size := (Nat.le_trans K94.1 (Keep.of_wr W98).1)
     exact w_doneH X127 hlk (v := some (.int (1 : Int32))) e127 hh hZ85 (own_EW hw) hS85 (Nat.le_trans hk85 le128) C99 (fun h => by rw [hret] at h; cases h) (fun fs hr => retN X127 hx (t := .boolean) hret (by simp) (hb hby at_206) hr) (by decide) (by decide) (fun hsy => ⟨rfl, N125⟩)
   · refine w_icY X98 hx (hb hby at_145) (flt hc103).2.1 (pc' := 165) (by decide) (by decide) ?_
     refine w_aload X98 hx (hb hby at_165) rfl rfl (pc' := 167) rfl ?_
     refine w_iload X98 hx (hb hby at_167) rfl (pc' := 169) rfl ?_
     have f137 : Fld Z h98 b76 kc2 "text" "Ljava/lang/String;" (.ref r_70) := (g94_1.other W98 (Or.inr (slot_ne (Or.inr (wd_40 hw)) (Or.inl (wd_45 hw)) (by decide) (t := (.object kc0)) (t' := .int) (by decide) (by decide))))
     have f138 : Exa Z h98 r_70 kc0 := ((((g70_2.ext E76).ext E85).keep K94).wr W98)
     have ne139 : r_70 ≠ b76 := (Nat.ne_of_lt (Nat.lt_of_lt_of_le g70_2.lt (Nat.le_trans (Nat.le_refl _) (Nat.le_of_eq g76.symm))))
     have f140 : Fld Z h98 r_70 kc0 "value" "[B" (.ref t_70) := ((((g70_4.ext E76).ext E85).keep K94 (ninS ne139 nin0)).other W98 (Or.inl ne139))
     have ne141 : t_70 ≠ b76 := (Nat.ne_of_lt (Nat.lt_of_lt_of_le g70_5.lt (Nat.le_trans (Nat.le_refl _) (Nat.le_of_eq g76.symm))))
     have f142 : Arv Z h98 t_70 kb_70 .byte nn (mI (lowL (cl4 nn ch4 ch5 ch6 ch7))) (.int (0 : Int32)) := ((((g70_5.ext E76).ext E85).keep K94 (ninS ne141 nin0)).other W98 ne141)
     have f143 : Fld Z h98 r_70 kc0 "coder" "B" (.int (0 : Int32)) := ((((g70_3.ext E76).ext E85).keep K94 (ninS ne139 nin0)).other W98 (Or.inl ne139))
     have f144 : Old Z n0 h98 := (((((f65.keep K70 all0).ext E76).ext E85).keep K94 (allS ge77 all0)).wr W98 ge77)
     have le145 : h0.size ≤ T94.heap.size := (Nat.le_trans le93 K94.1)
     have le146 : h0.size ≤ h98.size := (Nat.le_trans le145 (Keep.of_wr W98).1)
     have f148 : Exa Z h98 b76 kc3 := (g94_0.wr W98)
     obtain ⟨cq147, kq147, q147a, q147b, q147c⟩ := isOf hZ85 e98 f148
     refine w_virtualUp X98 hx (y := (⟨kc3, "lookingAt", "(C)Z"⟩ : MethodName)) (z := yn_7) (owner := kc2) hown85 (mvT hZ85 (wd_46 hw)) (mvT hZ85 (wd_47 hw)) (mvT hZ85 (wd_48 hw)) (by decide) (mvT hZ85 (wd_50 hw)) (mvT hZ85 (wd_49 hw)) (backOf (W := 0) (rm_m7_67 l Z aZ hw [] b76 gc61 pp r_70 t_70 kb_70 nn (lowL (cl4 nn ch4 ch5 ch6 ch7)) G_COMPACT_STRINGS h98 n0 (Nat.le_trans Z0 le146) f100 f137 f138 f140 f142 f143 S_COMPACT_STRINGS f144 hP_5 hc103) hZ85 (wd_51 hw) (wd_36 hw) (by decide) (by decide)) q147a q147c (by rw [hml]; rfl) [(.int gc61)] (lenOf pd_17 rfl) rfl (Nat.le_of_eq rfl) (hb hby at_169) (fun _ _ => ⟨rfl, e98, (by decide : 10 + 0 ≤ _), (by decide : 35 + 0 ≤ _)⟩) (pc' := 172) rfl ?_
     rintro _ _ ⟨T147, L147, k147, n147⟩ X147 ⟨Lc147, hQ147, l147, y147, z147⟩
     dsimp only [Pt.U, Pt.locs, Pt.cells, Pt.slots] at X147 l147 y147 z147 hQ147 ⊢
     subst l147 y147 z147
     obtain ⟨rfl, N147q, e147⟩ := hQ147
     have N149 := Fr.app N102 N147q
     show Runs _ _ _ _ (T147.setTop (mkF m 172 #[.val (.int p0), .val (.int p1), .val (.int p2), .val (.int p3), .val (.int ch4), .val (.int ch5), .val (.int ch6), .val (.int ch7), .val (.ref b24), .val (.int nn), .val (.int pp), .val (.int gc61), .val (.ref r_70), .val (.ref b76), .val (.int (0 : Int32)), .unset] [(.int (0 : Int32))]))
     refine w_istore X147 hx (hb hby at_172) (L' := #[.val (.int p0), .val (.int p1), .val (.int p2), .val (.int p3), .val (.int ch4), .val (.int ch5), .val (.int ch6), .val (.int ch7), .val (.ref b24), .val (.int nn), .val (.int pp), .val (.int gc61), .val (.ref r_70), .val (.ref b76), .val (.int (0 : Int32)), .val (.int (0 : Int32))]) rfl (pc' := 174) rfl ?_
     refine w_iload X147 hx (hb hby at_174) rfl (pc' := 176) rfl ?_
     refine w_iload X147 hx (hb hby at_176) rfl (pc' := 178) rfl ?_
     refine w_icN X147 hx (hb hby at_178) (teq (by decide : (0 : Int32) = (0 : Int32))).2 (pc' := 181) rfl ?_
     refine w_aload X147 hx (hb hby at_181) rfl rfl (pc' := 183) rfl ?_
     refine w_getF X147 hx "" hZ85 hown85 (Or.inl (wd_43 hw)) (Via.of (wd_44 hw)) e147 f100 (hb hby at_183) (pc' := 186) rfl ?_
     intro T150 X150 e150
     refine w_iload X150 hx (hb hby at_186) rfl (pc' := 188) rfl ?_
     refine w_icN X150 hx (hb hby at_188) (teq (rfl : pp = pp)).2 (pc' := 191) rfl ?_
     refine w_aload X150 hx (hb hby at_191) rfl rfl (pc' := 193) rfl ?_
     refine w_getF X150 hx "" hZ85 hown85 (Or.inl (wd_64 hw)) (Via.of (wd_65 hw)) e150 f137 (hb hby at_193) (pc' := 196) rfl ?_
     intro T151 X151 e151
     refine w_aload X151 hx (hb hby at_196) rfl rfl (pc' := 198) rfl ?_
     refine w_acmp X151 hx (hb hby at_198) (same := true) rfl rfl (decide_eq_true rfl) (pc' := 201) (by decide) (by decide) ?_
     refine w_iconst X151 hx (hb hby at_201) (v := (1 : Int32)) rfl (pc' := 202) rfl ?_
     refine w_goto X151 hx (hb hby at_202) (pc' := 206) (by decide) (by decide) ?_
     have le152 : h85.size ≤ h98.size := (Nat.le_trans K94.1 (Keep.of_wr W98).1)
     exact w_doneH X151 hlk (v := some (.int (1 : Int32))) e151 hh hZ85 (own_EW hw) hS85 (Nat.le_trans hk85 le152) C99 (fun h => by rw [hret] at h; cases h) (fun fs hr => retN X151 hx (t := .boolean) hret (by simp) (hb hby at_206) hr) (by decide) (by decide) (fun hsy => ⟨rfl, N149⟩)
 · have N153 := Fr.app N57 N70q
   have C154 : CHr Z EL s.vm h0 T70.vm T70.heap := C53.trans A70
   have K155 : Keep h0 T70.heap [] := K56.trans K70 (all0 (P := fun x => x ∈ [] ∨ h0.size ≤ x))
   have ge156 : n0 ≤ r_70 := Nat.le_trans (Nat.le_trans Z0 le69) g70_0
   have sz157 : h0.size ≤ r_70 := Nat.le_trans le69 g70_0
   show Runs _ _ _ _ (T70.setTop (mkF m 116 #[.val (.int p0), .val (.int p1), .val (.int p2), .val (.int p3), .val (.int ch4), .val (.int ch5), .val (.int ch6), .val (.int ch7), .val (.ref b24), .val (.int nn), .val (.int pp), .val (.int gc61), .unset, .unset, .unset, .unset] [(.ref r_70)]))
   refine w_astore X70 hx (hb hby at_116) rfl (L' := #[.val (.int p0), .val (.int p1), .val (.int p2), .val (.int p3), .val (.int ch4), .val (.int ch5), .val (.int ch6), .val (.int ch7), .val (.ref b24), .val (.int nn), .val (.int pp), .val (.int gc61), .val (.ref r_70), .unset, .unset, .unset]) rfl (pc' := 118) rfl ?_
   refine w_new X70 hx hZ70 hown70 (wd_27 hw) (wd_28 hw) (wd_4 hw) rfl (hb hby at_118) (by decide) (by decide) (pc' := 121) rfl ?_
   intro T158 h158 b158 X158 e158 E158 g158 A158 D158
   have le160 : h0.size ≤ T70.heap.size := (Nat.le_trans le69 K70.1)
   have ge159 : n0 ≤ b158 := Nat.le_trans (Nat.le_trans Z0 le160) (Nat.le_of_eq g158.symm)
   have sz161 : h0.size ≤ b158 := Nat.le_trans le160 (Nat.le_of_eq g158.symm)
   have C162 : CHr Z EL s.vm h0 T70.vm h158 := C154.trans (CHr.ext E158 C154.1)
   have K163 : Keep h0 h158 [] := K155.ext E158
   have f164 : Fld Z h158 b158 kc2 "text" "Ljava/lang/String;" .null := D158 (Or.inr (wd_40 hw)) (ty := (.object kc0)) (by decide)
   have f165 : Fld Z h158 b158 kc2 "refusal" "Ljava/lang/String;" .null := D158 (Or.inr (wd_42 hw)) (ty := (.object kc0)) (by decide)
   have f166 : Fld Z h158 b158 kc2 "position" "I" (.int (0 : Int32)) := D158 (Or.inl (wd_45 hw)) (ty := .int) (by decide)
   refine w_dup X158 hx (hb hby at_121) rfl (pc' := 122) rfl ?_
   refine w_aload X158 hx (hb hby at_122) rfl rfl (pc' := 124) rfl ?_
   obtain ⟨a167, T167, h167, k167, b167, c167, X167, e167, E167, hS167, hk167, hZ167, hown167, gE167, gC167, gV167, gA167, lt167, ltb167, A167, -, ns167, st167⟩ := ldcCH X158 hx hZ70 hown70 (wd_29 hw) (own_wS hw) e158 hS70 (Nat.le_trans (Nat.le_refl _) E158.1) (own_EW hw) (by simp [EL, x]) C162.1 (vs := [(.int (120 : Int32))]) (z := (1 : Int32)) (by decide +kernel) (by decide) (by decide) (g := (mkF m 124 #[.val (.int p0), .val (.int p1), .val (.int p2), .val (.int p3), .val (.int ch4), .val (.int ch5), .val (.int ch6), .val (.int ch7), .val (.ref b24), .val (.int nn), .val (.int pp), .val (.int gc61), .val (.ref r_70), .unset, .unset, .unset] [(.ref r_70), (.ref b158), (.ref b158)])) rfl (hb hby at_124) (n := 4) (by decide +kernel) (by decide) (by decide) (by decide)
   refine Runs.by ?_ st167
   have C168 : CHr Z EL s.vm h0 T167.vm h167 := C162.trans A167
   have K169 : Keep h0 h167 [] := K163.ext E167
   show Runs _ _ _ _ (T167.setTop (mkF m 126 #[.val (.int p0), .val (.int p1), .val (.int p2), .val (.int p3), .val (.int ch4), .val (.int ch5), .val (.int ch6), .val (.int ch7), .val (.ref b24), .val (.int nn), .val (.int pp), .val (.int gc61), .val (.ref r_70), .unset, .unset, .unset] [(.ref a167), (.ref r_70), (.ref b158), (.ref b158)]))
   have f170 : Exa Z h167 b158 kc3 := (A158.ext E167)
   have f171 : Fld Z h167 b158 kc2 "text" "Ljava/lang/String;" .null := (f164.ext E167)
   have f172 : Fld Z h167 b158 kc2 "refusal" "Ljava/lang/String;" .null := (f165.ext E167)
   have f173 : Fld Z h167 b158 kc2 "position" "I" (.int (0 : Int32)) := (f166.ext E167)
   have le174 : h0.size ≤ h158.size := (Nat.le_trans le160 E158.1)
   have le175 : h0.size ≤ h167.size := (Nat.le_trans le174 E167.1)
   refine w_special X167 hx (y := yn_5) rfl hown167 (mvT hZ167 (wd_30 hw)) (mvT hZ167 (wd_31 hw)) (mvT hZ167 (wd_32 hw)) (by decide) (backOf (W := 1) (rm_m5_57 l Z aZ hw [] b158 r_70 a167 h167 n0 (Nat.le_trans Z0 le175) f170 f171 f172 f173 ge159) hZ167 (wd_32 hw) (wd_4 hw) (by decide) (by decide)) (by rw [hml]; rfl) [(.ref r_70), (.ref a167)] (lenOf pd_10 rfl) rfl (Nat.le_of_eq rfl) (hb hby at_126) (fun _ _ => ⟨rfl, e167, (by decide : 10 + 0 ≤ _), (by decide : 35 + 0 ≤ _)⟩) (pc' := 129) rfl ?_
   rintro _ _ ⟨T176, L176, k176, n176⟩ X176 ⟨Lc176, hQ176, l176, y176, z176⟩
   dsimp only [Pt.U, Pt.locs, Pt.cells, Pt.slots] at X176 l176 y176 z176 hQ176 ⊢
   subst l176 y176 z176
   obtain ⟨rfl, N176q, K176, g176_0, g176_1, g176_2, g176_3⟩ := hQ176
   have N177 := Fr.app N153 N176q
   have C178 : CHr Z EL s.vm h0 T167.vm T176.heap := C168.trans (CHr.keep K176 (sfS (Safe.exa hZ167.alike f170 (by decide) (by decide)) sf0) C168.1)
   have K179 : Keep h0 T176.heap [] := K169.trans K176 (allS (Or.inr sz161) (all0 (P := fun x => x ∈ [] ∨ h0.size ≤ x)))
   show Runs _ _ _ _ (T176.setTop (mkF m 129 #[.val (.int p0), .val (.int p1), .val (.int p2), .val (.int p3), .val (.int ch4), .val (.int ch5), .val (.int ch6), .val (.int ch7), .val (.ref b24), .val (.int nn), .val (.int pp), .val (.int gc61), .val (.ref r_70), .unset, .unset, .unset] [(.ref b158)]))
   refine w_astore X176 hx (hb hby at_129) rfl (L' := #[.val (.int p0), .val (.int p1), .val (.int p2), .val (.int p3), .val (.int ch4), .val (.int ch5), .val (.int ch6), .val (.int ch7), .val (.ref b24), .val (.int nn), .val (.int pp), .val (.int gc61), .val (.ref r_70), .val (.ref b158), .unset, .unset]) rfl (pc' := 131) rfl ?_
   refine w_aload X176 hx (hb hby at_131) rfl rfl (pc' := 133) rfl ?_
   refine w_iload X176 hx (hb hby at_133) rfl (pc' := 135) rfl ?_
   refine w_putF X176 hx "" hZ167 hown167 (Or.inl (wd_43 hw)) (Via.of (wd_44 hw)) rfl g176_3 g176_0 (Or.inl (wd_45 hw)) (wd_28 hw) (ty := .int) (by decide) rfl rfl (hb hby at_135) (pc' := 138) rfl ?_
   intro T180 h180 X180 e180 W180
   have C181 : CHr Z EL s.vm h0 T167.vm h180 := C178.trans (CHr.wr W180 (Safe.exa hZ167.alike g176_0 (by decide) (by decide)) C178.1)
   have f182 : Fld Z h180 b158 kc2 "position" "I" (.int pp) := g176_3.same W180
   have K183 : Keep h0 h180 [] := K179.wr W180 (Or.inr sz161)
   have N184 := Fr.snoc X180 N177 ge159
   refine w_iconst X180 hx (hb hby at_138) (v := (0 : Int32)) rfl (pc' := 139) rfl ?_
   refine w_istore X180 hx (hb hby at_139) (L' := #[.val (.int p0), .val (.int p1), .val (.int p2), .val (.int p3), .val (.int ch4), .val (.int ch5), .val (.int ch6), .val (.int ch7), .val (.ref b24), .val (.int nn), .val (.int pp), .val (.int gc61), .val (.ref r_70), .val (.ref b158), .val (.int (0 : Int32)), .unset]) rfl (pc' := 141) rfl ?_
   refine w_iload X180 hx (hb hby at_141) rfl (pc' := 143) rfl ?_
   refine w_iload X180 hx (hb hby at_143) rfl (pc' := 145) rfl ?_
   by_cases hc185 : pp < nn
   · refine w_icN X180 hx (hb hby at_145) (tlt hc185).2.1 (pc' := 148) rfl ?_
     refine w_aload X180 hx (hb hby at_148) rfl rfl (pc' := 150) rfl ?_
     refine w_iload X180 hx (hb hby at_150) rfl (pc' := 152) rfl ?_
     have le186 : h24.size ≤ h38.size := (Nat.le_trans (Keep.of_wr W31).1 (Keep.of_wr W38).1)
     have le187 : h24.size ≤ h45.size := (Nat.le_trans le186 (Keep.of_wr W45).1)
     have le188 : h24.size ≤ h52.size := (Nat.le_trans le187 (Keep.of_wr W52).1)
     have le189 : h24.size ≤ T70.heap.size := (Nat.le_trans le188 K70.1)
     have ne190 : b24 ≠ b158 := (Nat.ne_of_lt (Nat.lt_of_lt_of_le A24.lt (Nat.le_trans le189 (Nat.le_of_eq g158.symm))))
     have f191 : Arv Z h180 b24 k24 .char (4 : Int32) [(.int ch4), (.int ch5), (.int ch6), (.int ch7)] (.int (0 : Int32)) := (((((V55.keep K70 nin0).ext E158).ext E167).keep K176 (ninS ne190 nin0)).other W180 ne190)
     obtain ⟨clu192, Aru192, qu192, Su192, Nu192, Hu192, Gu192⟩ := id f191
     have hinu192 := inb_of (j := pp) Su192 ⟨hg60, (own_lt4 hg59 hc185)⟩
     refine w_caload X180 hx hZ167 e180 Aru192 hinu192 (Hu192.at hinu192 (own_gI [ch4, ch5, ch6, ch7] pp)) (hb hby at_152) (pc' := 153) rfl ?_
     refine w_iload X180 hx (hb hby at_153) rfl (pc' := 155) rfl ?_
     suffices key194 : Runs p e below (EndH s Z EL (Q_law Z p0 p1 p2 p3 G_COMPACT_STRINGS G_SIOOBE_FORMATTER h0 n0) room_1.cells room_1.slots) (T180.setTop (mkF m 163 #[.val (.int p0), .val (.int p1), .val (.int p2), .val (.int p3), .val (.int ch4), .val (.int ch5), .val (.int ch6), .val (.int ch7), .val (.ref b24), .val (.int nn), .val (.int pp), .val (.int gc61), .val (.ref r_70), .val (.ref b158), .val (.int (0 : Int32)), .unset] [(.int (if (gI [ch4, ch5, ch6, ch7] pp) = gc61 then (1 : Int32) else (0 : Int32)))])) by
      by_cases hc193 : (gI [ch4, ch5, ch6, ch7] pp) = gc61
      · rw [if_pos hc193] at key194
        refine w_icN X180 hx (hb hby at_155) (teq hc193).2 (pc' := 158) rfl ?_
        refine w_iconst X180 hx (hb hby at_158) (v := (1 : Int32)) rfl (pc' := 159) rfl ?_
        refine w_goto X180 hx (hb hby at_159) (pc' := 163) (by decide) (by decide) ?_
        exact key194
      · rw [if_neg hc193] at key194
        refine w_icY X180 hx (hb hby at_155) (feq hc193).2 (pc' := 162) (by decide) (by decide) ?_
        refine w_iconst X180 hx (hb hby at_162) (v := (0 : Int32)) rfl (pc' := 163) rfl ?_
        exact key194
     refine w_istore X180 hx (hb hby at_163) (L' := #[.val (.int p0), .val (.int p1), .val (.int p2), .val (.int p3), .val (.int ch4), .val (.int ch5), .val (.int ch6), .val (.int ch7), .val (.ref b24), .val (.int nn), .val (.int pp), .val (.int gc61), .val (.ref r_70), .val (.ref b158), .val (.int (if (gI [ch4, ch5, ch6, ch7] pp) = gc61 then (1 : Int32) else (0 : Int32))), .unset]) rfl (pc' := 165) rfl ?_
     refine w_aload X180 hx (hb hby at_165) rfl rfl (pc' := 167) rfl ?_
     refine w_iload X180 hx (hb hby at_167) rfl (pc' := 169) rfl ?_
     have f207 : Fld Z h180 b158 kc2 "text" "Ljava/lang/String;" (.ref r_70) := (g176_1.other W180 (Or.inr (slot_ne (Or.inr (wd_40 hw)) (Or.inl (wd_45 hw)) (by decide) (t := (.object kc0)) (t' := .int) (by decide) (by decide))))
     have f208 : Exa Z h180 r_70 kc0 := ((((g70_2.ext E158).ext E167).keep K176).wr W180)
     have ne209 : r_70 ≠ b158 := (Nat.ne_of_lt (Nat.lt_of_lt_of_le g70_2.lt (Nat.le_trans (Nat.le_refl _) (Nat.le_of_eq g158.symm))))
     have f210 : Fld Z h180 r_70 kc0 "value" "[B" (.ref t_70) := ((((g70_4.ext E158).ext E167).keep K176 (ninS ne209 nin0)).other W180 (Or.inl ne209))
     have ne211 : t_70 ≠ b158 := (Nat.ne_of_lt (Nat.lt_of_lt_of_le g70_5.lt (Nat.le_trans (Nat.le_refl _) (Nat.le_of_eq g158.symm))))
     have f212 : Arv Z h180 t_70 kb_70 .byte (nn <<< ((1 : Int32) &&& 31)) (mI (utfL (cl4 nn ch4 ch5 ch6 ch7))) (.int (0 : Int32)) := ((((g70_5.ext E158).ext E167).keep K176 (ninS ne211 nin0)).other W180 ne211)
     have f213 : Fld Z h180 r_70 kc0 "coder" "B" (.int (1 : Int32)) := ((((g70_3.ext E158).ext E167).keep K176 (ninS ne209 nin0)).other W180 (Or.inl ne209))
     have f214 : Old Z n0 h180 := (((((f65.keep K70 all0).ext E158).ext E167).keep K176 (allS ge159 all0)).wr W180 ge159)
     have le215 : h0.size ≤ T176.heap.size := (Nat.le_trans le175 K176.1)
     have le216 : h0.size ≤ h180.size := (Nat.le_trans le215 (Keep.of_wr W180).1)
     have f218 : Exa Z h180 b158 kc3 := (g176_0.wr W180)
     obtain ⟨cq217, kq217, q217a, q217b, q217c⟩ := isOf hZ167 e180 f218
     refine w_virtualUp X180 hx (y := (⟨kc3, "lookingAt", "(C)Z"⟩ : MethodName)) (z := yn_7) (owner := kc2) hown167 (mvT hZ167 (wd_46 hw)) (mvT hZ167 (wd_47 hw)) (mvT hZ167 (wd_48 hw)) (by decide) (mvT hZ167 (wd_50 hw)) (mvT hZ167 (wd_49 hw)) (backOf (W := 0) (rm_m7_68 l Z aZ hw [] b158 gc61 pp r_70 t_70 kb_70 (nn <<< ((1 : Int32) &&& 31)) (utfL (cl4 nn ch4 ch5 ch6 ch7)) G_COMPACT_STRINGS G_SIOOBE_FORMATTER h180 n0 (Nat.le_trans Z0 le216) f182 f207 f208 f210 f212 f213 S_COMPACT_STRINGS f214 hP_5 (show pp < ((nn <<< ((1 : Int32) &&& 31)) >>> ((1 : Int32) &&& 31)) from by rw [own_shlr hg59 hg58]; exact hc185) hg60 (own_lt4 hg59 hc185) (own_shl_in hg59 hg58 hg60 hc185).1.2 (own_shl_in hg59 hg58 hg60 hc185).2.2 r_G_SIOOBE_FORMATTER S_SIOOBE_FORMATTER S__assertionsDisabled S_HI_BYTE_SHIFT S_LO_BYTE_SHIFT) hZ167 (wd_51 hw) (wd_36 hw) (by decide) (by decide)) q217a q217c (by rw [hml]; rfl) [(.int gc61)] (lenOf pd_17 rfl) rfl (Nat.le_of_eq rfl) (hb hby at_169) (fun _ _ => ⟨rfl, e180, (by decide : 10 + 0 ≤ _), (by decide : 35 + 0 ≤ _)⟩) (pc' := 172) rfl ?_
     rintro _ _ ⟨T217, L217, k217, n217⟩ X217 ⟨Lc217, hQ217, l217, y217, z217⟩
     dsimp only [Pt.U, Pt.locs, Pt.cells, Pt.slots] at X217 l217 y217 z217 hQ217 ⊢
     subst l217 y217 z217
     obtain ⟨rfl, N217q, e217⟩ := hQ217
     have N219 := Fr.app N184 N217q
     show Runs _ _ _ _ (T217.setTop (mkF m 172 #[.val (.int p0), .val (.int p1), .val (.int p2), .val (.int p3), .val (.int ch4), .val (.int ch5), .val (.int ch6), .val (.int ch7), .val (.ref b24), .val (.int nn), .val (.int pp), .val (.int gc61), .val (.ref r_70), .val (.ref b158), .val (.int (if (gI [ch4, ch5, ch6, ch7] pp) = gc61 then (1 : Int32) else (0 : Int32))), .unset] [(.int (if (((((gI (utfL (cl4 nn ch4 ch5 ch6 ch7)) (pp <<< ((1 : Int32) &&& 31))) &&& (255 : Int32)) <<< ((0 : Int32) &&& 31)) ||| (((gI (utfL (cl4 nn ch4 ch5 ch6 ch7)) ((pp <<< ((1 : Int32) &&& 31)) + (1 : Int32))) &&& (255 : Int32)) <<< ((8 : Int32) &&& 31))).toUInt32.toUInt16.toUInt32.toInt32) = gc61 then (1 : Int32) else (0 : Int32)))]))
     refine w_istore X217 hx (hb hby at_172) (L' := #[.val (.int p0), .val (.int p1), .val (.int p2), .val (.int p3), .val (.int ch4), .val (.int ch5), .val (.int ch6), .val (.int ch7), .val (.ref b24), .val (.int nn), .val (.int pp), .val (.int gc61), .val (.ref r_70), .val (.ref b158), .val (.int (if (gI [ch4, ch5, ch6, ch7] pp) = gc61 then (1 : Int32) else (0 : Int32))), .val (.int (if (((((gI (utfL (cl4 nn ch4 ch5 ch6 ch7)) (pp <<< ((1 : Int32) &&& 31))) &&& (255 : Int32)) <<< ((0 : Int32) &&& 31)) ||| (((gI (utfL (cl4 nn ch4 ch5 ch6 ch7)) ((pp <<< ((1 : Int32) &&& 31)) + (1 : Int32))) &&& (255 : Int32)) <<< ((8 : Int32) &&& 31))).toUInt32.toUInt16.toUInt32.toInt32) = gc61 then (1 : Int32) else (0 : Int32)))]) rfl (pc' := 174) rfl ?_
     refine w_iload X217 hx (hb hby at_174) rfl (pc' := 176) rfl ?_
     refine w_iload X217 hx (hb hby at_176) rfl (pc' := 178) rfl ?_
     refine w_icN X217 hx (hb hby at_178) (teq (show (if (((((gI (utfL (cl4 nn ch4 ch5 ch6 ch7)) (pp <<< ((1 : Int32) &&& 31))) &&& (255 : Int32)) <<< ((0 : Int32) &&& 31)) ||| (((gI (utfL (cl4 nn ch4 ch5 ch6 ch7)) ((pp <<< ((1 : Int32) &&& 31)) + (1 : Int32))) &&& (255 : Int32)) <<< ((8 : Int32) &&& 31))).toUInt32.toUInt16.toUInt32.toInt32) = gc61 then (1 : Int32) else (0 : Int32)) = (if (gI [ch4, ch5, ch6, ch7] pp) = gc61 then (1 : Int32) else (0 : Int32)) from by rw [own_utfG hg59 hg58 hg60 hc185 hg20 hg21 hg22 hg23])).2 (pc' := 181) rfl ?_
     refine w_aload X217 hx (hb hby at_181) rfl rfl (pc' := 183) rfl ?_
     refine w_getF X217 hx "" hZ167 hown167 (Or.inl (wd_43 hw)) (Via.of (wd_44 hw)) e217 f182 (hb hby at_183) (pc' := 186) rfl ?_
     intro T220 X220 e220
     refine w_iload X220 hx (hb hby at_186) rfl (pc' := 188) rfl ?_
     refine w_icN X220 hx (hb hby at_188) (teq (rfl : pp = pp)).2 (pc' := 191) rfl ?_
     refine w_aload X220 hx (hb hby at_191) rfl rfl (pc' := 193) rfl ?_
     refine w_getF X220 hx "" hZ167 hown167 (Or.inl (wd_64 hw)) (Via.of (wd_65 hw)) e220 f207 (hb hby at_193) (pc' := 196) rfl ?_
     intro T221 X221 e221
     refine w_aload X221 hx (hb hby at_196) rfl rfl (pc' := 198) rfl ?_
     refine w_acmp X221 hx (hb hby at_198) (same := true) rfl rfl (decide_eq_true rfl) (pc' := 201) (by decide) (by decide) ?_
     refine w_iconst X221 hx (hb hby at_201) (v := (1 : Int32)) rfl (pc' := 202) rfl ?_
     refine w_goto X221 hx (hb hby at_202) (pc' := 206) (by decide) (by decide) ?_
     have le222 : h167.size ≤ h180.size := (Nat.le_trans K176.1 (Keep.of_wr W180).1)
     exact w_doneH X221 hlk (v := some (.int (1 : Int32))) e221 hh hZ167 (own_EW hw) hS167 (Nat.le_trans hk167 le222) C181 (fun h => by rw [hret] at h; cases h) (fun fs hr => retN X221 hx (t := .boolean) hret (by simp) (hb hby at_206) hr) (by decide) (by decide) (fun hsy => ⟨rfl, N219⟩)
   · refine w_icY X180 hx (hb hby at_145) (flt hc185).2.1 (pc' := 165) (by decide) (by decide) ?_
     refine w_aload X180 hx (hb hby at_165) rfl rfl (pc' := 167) rfl ?_
     refine w_iload X180 hx (hb hby at_167) rfl (pc' := 169) rfl ?_
     have f243 : Fld Z h180 b158 kc2 "text" "Ljava/lang/String;" (.ref r_70) := (g176_1.other W180 (Or.inr (slot_ne (Or.inr (wd_40 hw)) (Or.inl (wd_45 hw)) (by decide) (t := (.object kc0)) (t' := .int) (by decide) (by decide))))
     have f244 : Exa Z h180 r_70 kc0 := ((((g70_2.ext E158).ext E167).keep K176).wr W180)
     have ne245 : r_70 ≠ b158 := (Nat.ne_of_lt (Nat.lt_of_lt_of_le g70_2.lt (Nat.le_trans (Nat.le_refl _) (Nat.le_of_eq g158.symm))))
     have f246 : Fld Z h180 r_70 kc0 "value" "[B" (.ref t_70) := ((((g70_4.ext E158).ext E167).keep K176 (ninS ne245 nin0)).other W180 (Or.inl ne245))
     have ne247 : t_70 ≠ b158 := (Nat.ne_of_lt (Nat.lt_of_lt_of_le g70_5.lt (Nat.le_trans (Nat.le_refl _) (Nat.le_of_eq g158.symm))))
     have f248 : Arv Z h180 t_70 kb_70 .byte (nn <<< ((1 : Int32) &&& 31)) (mI (utfL (cl4 nn ch4 ch5 ch6 ch7))) (.int (0 : Int32)) := ((((g70_5.ext E158).ext E167).keep K176 (ninS ne247 nin0)).other W180 ne247)
     have f249 : Fld Z h180 r_70 kc0 "coder" "B" (.int (1 : Int32)) := ((((g70_3.ext E158).ext E167).keep K176 (ninS ne245 nin0)).other W180 (Or.inl ne245))
     have f250 : Old Z n0 h180 := (((((f65.keep K70 all0).ext E158).ext E167).keep K176 (allS ge159 all0)).wr W180 ge159)
     have le251 : h0.size ≤ T176.heap.size := (Nat.le_trans le175 K176.1)
     have le252 : h0.size ≤ h180.size := (Nat.le_trans le251 (Keep.of_wr W180).1)
     have f254 : Exa Z h180 b158 kc3 := (g176_0.wr W180)
     obtain ⟨cq253, kq253, q253a, q253b, q253c⟩ := isOf hZ167 e180 f254
     refine w_virtualUp X180 hx (y := (⟨kc3, "lookingAt", "(C)Z"⟩ : MethodName)) (z := yn_7) (owner := kc2) hown167 (mvT hZ167 (wd_46 hw)) (mvT hZ167 (wd_47 hw)) (mvT hZ167 (wd_48 hw)) (by decide) (mvT hZ167 (wd_50 hw)) (mvT hZ167 (wd_49 hw)) (backOf (W := 0) (rm_m7_77 l Z aZ hw [] b158 gc61 pp r_70 t_70 kb_70 (nn <<< ((1 : Int32) &&& 31)) (utfL (cl4 nn ch4 ch5 ch6 ch7)) G_COMPACT_STRINGS h180 n0 (Nat.le_trans Z0 le252) f182 f243 f244 f246 f248 f249 S_COMPACT_STRINGS f250 hP_5 (show ¬ (pp < ((nn <<< ((1 : Int32) &&& 31)) >>> ((1 : Int32) &&& 31))) from by rw [own_shlr hg59 hg58]; exact hc185)) hZ167 (wd_51 hw) (wd_36 hw) (by decide) (by decide)) q253a q253c (by rw [hml]; rfl) [(.int gc61)] (lenOf pd_17 rfl) rfl (Nat.le_of_eq rfl) (hb hby at_169) (fun _ _ => ⟨rfl, e180, (by decide : 10 + 0 ≤ _), (by decide : 35 + 0 ≤ _)⟩) (pc' := 172) rfl ?_
     rintro _ _ ⟨T253, L253, k253, n253⟩ X253 ⟨Lc253, hQ253, l253, y253, z253⟩
     dsimp only [Pt.U, Pt.locs, Pt.cells, Pt.slots] at X253 l253 y253 z253 hQ253 ⊢
     subst l253 y253 z253
     obtain ⟨rfl, N253q, e253⟩ := hQ253
     have N255 := Fr.app N184 N253q
     show Runs _ _ _ _ (T253.setTop (mkF m 172 #[.val (.int p0), .val (.int p1), .val (.int p2), .val (.int p3), .val (.int ch4), .val (.int ch5), .val (.int ch6), .val (.int ch7), .val (.ref b24), .val (.int nn), .val (.int pp), .val (.int gc61), .val (.ref r_70), .val (.ref b158), .val (.int (0 : Int32)), .unset] [(.int (0 : Int32))]))
     refine w_istore X253 hx (hb hby at_172) (L' := #[.val (.int p0), .val (.int p1), .val (.int p2), .val (.int p3), .val (.int ch4), .val (.int ch5), .val (.int ch6), .val (.int ch7), .val (.ref b24), .val (.int nn), .val (.int pp), .val (.int gc61), .val (.ref r_70), .val (.ref b158), .val (.int (0 : Int32)), .val (.int (0 : Int32))]) rfl (pc' := 174) rfl ?_
     refine w_iload X253 hx (hb hby at_174) rfl (pc' := 176) rfl ?_
     refine w_iload X253 hx (hb hby at_176) rfl (pc' := 178) rfl ?_
     refine w_icN X253 hx (hb hby at_178) (teq (by decide : (0 : Int32) = (0 : Int32))).2 (pc' := 181) rfl ?_
     refine w_aload X253 hx (hb hby at_181) rfl rfl (pc' := 183) rfl ?_
     refine w_getF X253 hx "" hZ167 hown167 (Or.inl (wd_43 hw)) (Via.of (wd_44 hw)) e253 f182 (hb hby at_183) (pc' := 186) rfl ?_
     intro T256 X256 e256
     refine w_iload X256 hx (hb hby at_186) rfl (pc' := 188) rfl ?_
     refine w_icN X256 hx (hb hby at_188) (teq (rfl : pp = pp)).2 (pc' := 191) rfl ?_
     refine w_aload X256 hx (hb hby at_191) rfl rfl (pc' := 193) rfl ?_
     refine w_getF X256 hx "" hZ167 hown167 (Or.inl (wd_64 hw)) (Via.of (wd_65 hw)) e256 f243 (hb hby at_193) (pc' := 196) rfl ?_
     intro T257 X257 e257
     refine w_aload X257 hx (hb hby at_196) rfl rfl (pc' := 198) rfl ?_
     refine w_acmp X257 hx (hb hby at_198) (same := true) rfl rfl (decide_eq_true rfl) (pc' := 201) (by decide) (by decide) ?_
     refine w_iconst X257 hx (hb hby at_201) (v := (1 : Int32)) rfl (pc' := 202) rfl ?_
     refine w_goto X257 hx (hb hby at_202) (pc' := 206) (by decide) (by decide) ?_
     have le258 : h167.size ≤ h180.size := (Nat.le_trans K176.1 (Keep.of_wr W180).1)
     exact w_doneH X257 hlk (v := some (.int (1 : Int32))) e257 hh hZ167 (own_EW hw) hS167 (Nat.le_trans hk167 le258) C181 (fun h => by rw [hret] at h; cases h) (fun fs hr => retN X257 hx (t := .boolean) hret (by simp) (hb hby at_206) hr) (by decide) (by decide) (fun hsy => ⟨rfl, N255⟩)
set_option maxRecDepth 65536 in
set_option maxHeartbeats 40000000 in
theorem comes_1 {Post : Tables → Env → Array Value → State → Outcome → State → Prop} (hpost : ∀ tb e args s v u, (limb_1_1.after args s (.returned v) u = true ∧ limb_1_2.after args s (.returned v) u = true ∧ True) → ReturnedEndW s (.returned v) u (Jvm.fieldLocs frame_1_writes args s ++ Jvm.arrayLocs frame_1_arrays args s ++ Jvm.staticLocs frame_1_statics s) 24 2176 → Post tb e args s (.returned v) u) :
    ArmFor flags0 classFile x code maxLocals ret World_1 tables_1 room_1 Calls_1 rest_1 Pre_1 Post := by
  intro l hfl _ _ p e ha hc hk s m args below hf hA hF happ hP
  obtain ⟨hcalls, hrest, hpre⟩ := hP
  obtain ⟨-, -, -, hnamed, -, -, -, hat⟩ := (Spec.applies_iff hf).mp happ
  obtain ⟨hg, hn⟩ := and_e (Cond.before_iff.mp (show (Jvm.Cond.and given_1 narrow_1).before args s = true from hpre))
  obtain ⟨gv1, gv2⟩ := and_e hg
  obtain ⟨gv3, gv4⟩ := and_e gv2
  obtain ⟨gv5, gv6⟩ := and_e gv4
  obtain ⟨gv7, gv8⟩ := and_e gv6
  obtain ⟨w0, w1, w2, w3, rfl⟩ : ∃ w0 w1 w2 w3 : Value, args = #[w0, w1, w2, w3] := by
    have hs : args.size = 4 := by simpa [Cond.value, given_1] using gv1
    obtain ⟨L⟩ := args
    match L, hs with
    | [w0, w1, w2, w3], _ => exact ⟨w0, w1, w2, w3, rfl⟩
  have hw := fun d (hd : d ∈ tables_1) => atoms_spec (ws := Jvm.Cond.code x code maxLocals ret :: tables_1) hat d (List.mem_cons_of_mem _ hd)
  have hfit : Fit s := fun {y c} hc i hi => by
    obtain ⟨ha, rfl⟩ := Array.getElem?_eq_some_iff.mp hc
    have q := List.all_eq_true.mp ((Array.all_eq_true_iff_forall_mem.mp hF) _ (Array.getElem_mem ha)) i (List.mem_range.mpr hi)
    simpa [Array.getElem?_eq_getElem hi] using q
  obtain ⟨hsets, hown0⟩ := atoms_of _ (rest_1_c_eq ▸ (show rest_1_c.before _ s = true from hrest))
  have hr0 := Cond.before_iff.mp hown0
  obtain ⟨i0, ei0⟩ := is_v gv3
  obtain rfl : w0 = (.int i0) := Option.some.inj ei0
  obtain ⟨i1, ei1⟩ := is_v gv5
  obtain rfl : w1 = (.int i1) := Option.some.inj ei1
  obtain ⟨i2, ei2⟩ := is_v gv7
  obtain rfl : w2 = (.int i2) := Option.some.inj ei2
  obtain ⟨i3, ei3⟩ := is_v gv8
  obtain rfl : w3 = (.int i3) := Option.some.inj ei3
  obtain ⟨G_COMPACT_STRINGS, ev_G_COMPACT_STRINGS⟩ := is_v (Cond.before_iff.mp (hsets _ (List.mem_of_getElem? (i := 1) rfl)))
  have S_COMPACT_STRINGS := Sta.start ev_G_COMPACT_STRINGS (Or.inl (hsets _ (List.mem_of_getElem? (i := 0) rfl)))
  have ev__assertionsDisabled := eqv_i (Term.int_eval (1)) (Cond.before_iff.mp (hsets _ (List.mem_of_getElem? (i := 12) rfl)))
  have S__assertionsDisabled := Sta.start ev__assertionsDisabled (Or.inl (hsets _ (List.mem_of_getElem? (i := 11) rfl)))
  have ev_HI_BYTE_SHIFT := eqv_i (Term.int_eval (0)) (Cond.before_iff.mp (hsets _ (List.mem_of_getElem? (i := 15) rfl)))
  have S_HI_BYTE_SHIFT := Sta.start ev_HI_BYTE_SHIFT (Or.inl (hsets _ (List.mem_of_getElem? (i := 14) rfl)))
  have ev_LO_BYTE_SHIFT := eqv_i (Term.int_eval (8)) (Cond.before_iff.mp (hsets _ (List.mem_of_getElem? (i := 18) rfl)))
  have S_LO_BYTE_SHIFT := Sta.start ev_LO_BYTE_SHIFT (Or.inl (hsets _ (List.mem_of_getElem? (i := 17) rfl)))
  obtain ⟨G_SIOOBE_FORMATTER, ev_G_SIOOBE_FORMATTER, r_G_SIOOBE_FORMATTER⟩ := isR_v (Cond.before_iff.mp (hsets _ (List.mem_of_getElem? (i := 8) rfl)))
  have S_SIOOBE_FORMATTER := Sta.start ev_G_SIOOBE_FORMATTER (Or.inl (hsets _ (List.mem_of_getElem? (i := 7) rfl)))
  have hP_5 : ¬ (G_COMPACT_STRINGS = (0 : Int32)) := fun q => by
    have h9 := not_v (Cond.before_iff.mp (hsets _ (List.mem_of_getElem? (i := 2) rfl)))
    rw [eq_i ev_G_COMPACT_STRINGS (Term.int_eval 0) (by rw [q])] at h9
    cases h9
  have hCH : CHv s EL s.vm s.heap := CHv.start (own_EW hw) (fun p hp => hcalls.1 p hp) (hsets _ (List.mem_of_getElem? (i := 2) rfl)) (wd_20 hw) (wd_7 hw)
  obtain ⟨n, o, h1, h2, h3, _, L, rfl, ⟨rfl, N⟩, -, hq⟩ := rm_law l s _ hw tables_1 i0 i1 i2 i3 G_COMPACT_STRINGS G_SIOOBE_FORMATTER s.heap s.heap.size (Nat.le_refl _) S_COMPACT_STRINGS (Old.start s) S__assertionsDisabled S_HI_BYTE_SHIFT S_LO_BYTE_SHIFT hP_5 r_G_SIOOBE_FORMATTER S_SIOOBE_FORMATTER p e ha hc hk s m _ below hf ((Spec.applies_iff_loose hf).mp happ).1 ⟨rfl, State.Warmed39.refl s, rfl, hCH, fun x hx => nomatch hx⟩ trivial
  refine ⟨n, _, h1, h2, h3, hpost _ _ _ _ _ _ ⟨Cond.after_iff.mpr rfl, Cond.after_iff.mpr (eq_i res_at (Term.int_eval (1)) rfl), trivial⟩ ⟨hq.1, hq.2.1, hq.2.2.1, (hq.2.2.2.sift fun y hy => Or.inr (N y hy)).mono (by decide) (by decide)⟩⟩
theorem main_1_1 : Claimed_1_1 := comes_1 fun _ _ _ _ _ _ h hF => ⟨h.1, hF⟩
theorem main_1_2 : Claimed_1_2 := comes_1 fun _ _ _ _ _ _ h hF => ⟨h.2.1, hF⟩
end Jvm.Pilot.@@N@@
namespace Jvm.Pilot.@@N@@
open Jvm Jvm.ClassFile Sem Op Lib Jvm.Free Jvm.Stand Jvm.Pilot.@@N@@.Jvm.D
/-! MADE BY PROGRAM (witnessworld.py) out of the Statement's table words and the real class files: 20 classes; the members and pool entries that the words name. The judged class is class 2, her method 2. -/
namespace start1
open Jvm.ClassFile
def u (s : String) : CpInfo := .utf8 (stringToUtf16 s)
/-- a pool by its gaps: so many unusable entries, then the entry; so many at the end -/
def gap : Nat → List CpInfo → List CpInfo
  | 0, r => r
  | n + 1, r => .unusable :: gap n r
def poolList (es : List (Nat × CpInfo)) (last : Nat) : List CpInfo := es.foldr (fun e r => gap e.1 (e.2 :: r)) (gap last [])
def pool (es : List (Nat × CpInfo)) (last : Nat) : Array CpInfo := ⟨poolList es last⟩
def fileOf (pool : Array CpInfo) (this : Nat) (attrs : Array Attribute := #[]) (ms : Array MethodInfo := #[]) (fl : Nat := 33) (sup : Nat := 0) (ifs : Array Nat := #[]) (fds : Array FieldInfo := #[]) : ClassFile where
  minorVersion := 0
  majorVersion := 65
  constantPool := pool
  accessFlags := fl
  thisClass := this
  superClass := sup
  interfaces := ifs
  fields := fds
  methods := ms
  attributes := attrs
def plain (name : String) (sup : Option ClassId) : Class where
  name := name
  kind := .ordinary
  loader := none
  accessFlags := 33
  super := sup
  interfaces := #[]
  cf := none
  fields := #[]
  methods := #[]
  instanceTypes := #[]
  staticTypes := #[]
  resolved := #[]
  callSites := []
  init := .initialized
  statics := none
  mirror := none

def pool0 : Array CpInfo := pool [(5, u "<init>"), (0, u "()V"), (1, .class_ 10), (1, u "java/lang/Object")] 113

def k0c0 : Code := { maxStack := 0, maxLocals := 1, code := object_method_1_code, exceptionTable := #[], attributes := #[] }
def k0m0 : Method := { name := "<init>", desc := "()V", sig := { parameters := [], returnType := none }, accessFlags := 1, code := some k0c0 }
/-- java/lang/Object -/
def k0 : Class := { plain "java/lang/Object" none with
  accessFlags := 33
  interfaces := #[]
  cf := some (fileOf pool0 8 #[] #[{ accessFlags := 1, nameIndex := 5, descriptorIndex := 6, attributes := #[] }] 33 0 #[] #[])
  fields := #[]
  methods := #[k0m0]
  instanceTypes := #[]
  staticTypes := #[]
  resolved := Array.replicate 124 none
  statics := none }

def pool1 : Array CpInfo := pool [(1, .methodref 2 3), (0, .class_ 4), (0, .nameAndType 5 6), (0, u "java/lang/Object"), (0, u "<init>"), (0, u "()V"), (0, .fieldref 8 9), (0, .class_ 10), (0, .nameAndType 11 12), (0, u "com/example/runnymede/runnymede/TextReader"), (0, u "text"), (0, u "Ljava/lang/String;"), (0, .fieldref 8 14), (0, .nameAndType 15 12), (0, u "refusal"), (0, .fieldref 8 17), (0, .nameAndType 18 19), (0, u "position"), (0, u "I"), (0, .methodref 21 22), (0, .class_ 23), (0, .nameAndType 24 25), (0, u "java/lang/String"), (0, u "length"), (0, u "()I"), (0, .methodref 21 27), (0, .nameAndType 28 29), (0, u "charAt"), (0, u "(I)C"), (2, u "lookingAt"), (0, u "(C)Z"), (19, u "(Ljava/lang/String;Ljava/lang/String;)V")] 24

def k1c0 : Code := { maxStack := 2, maxLocals := 3, code := prog_52_method_1_code, exceptionTable := #[], attributes := #[] }
def k1m0 : Method := { name := "<init>", desc := "(Ljava/lang/String;Ljava/lang/String;)V", sig := { parameters := [(.object "java/lang/String"), (.object "java/lang/String")], returnType := none }, accessFlags := 0, code := some k1c0 }
def k1c1 : Code := { maxStack := 2, maxLocals := 2, code := prog_52_method_2_code, exceptionTable := #[], attributes := #[] }
def k1m1 : Method := { name := "lookingAt", desc := "(C)Z", sig := { parameters := [.char], returnType := some .boolean }, accessFlags := 16, code := some k1c1 }
/-- com/example/runnymede/runnymede/TextReader -/
def k1 : Class := { plain "com/example/runnymede/runnymede/TextReader" (some 0) with
  accessFlags := 1056
  interfaces := #[]
  cf := some (fileOf pool1 8 #[] #[{ accessFlags := 0, nameIndex := 5, descriptorIndex := 53, attributes := #[] }, { accessFlags := 16, nameIndex := 32, descriptorIndex := 33, attributes := #[] }] 1056 2 #[] #[{ accessFlags := 16, nameIndex := 11, descriptorIndex := 12, attributes := #[] }, { accessFlags := 0, nameIndex := 18, descriptorIndex := 19, attributes := #[] }, { accessFlags := 18, nameIndex := 15, descriptorIndex := 12, attributes := #[] }])
  fields := #[{ name := "text", type := (.object "java/lang/String"), accessFlags := 16, slot := 0, constantValue := 0 }, { name := "position", type := .int, accessFlags := 0, slot := 1, constantValue := 0 }, { name := "refusal", type := (.object "java/lang/String"), accessFlags := 18, slot := 2, constantValue := 0 }]
  methods := #[k1m0, k1m1]
  instanceTypes := #[(.object "java/lang/String"), .int, (.object "java/lang/String")]
  staticTypes := #[]
  resolved := Array.replicate 78 none
  statics := none }

def pool2 : Array CpInfo := pool [(1, .methodref 2 3), (0, .class_ 4), (0, .nameAndType 5 6), (0, u "com/example/runnymede/runnymede/TextReader"), (0, u "<init>"), (0, u "(Ljava/lang/String;Ljava/lang/String;)V"), (0, .class_ 8), (0, u "java/lang/String"), (0, .methodref 7 10), (0, .nameAndType 5 11), (0, u "([C)V"), (0, .integer 65535), (0, .methodref 14 15), (0, .class_ 16), (0, .nameAndType 17 18), (0, u "com/example/runnymede/runnymede/TextReaderLookingAtPinLaw"), (0, u "make"), (0, u "(ICCCC)Ljava/lang/String;"), (0, .string 20), (0, u "x"), (0, .methodref 14 3), (0, .fieldref 14 23), (0, .nameAndType 24 25), (0, u "position"), (0, u "I"), (0, .methodref 14 27), (0, .nameAndType 28 29), (0, u "lookingAt"), (0, u "(C)Z"), (0, .fieldref 14 31), (0, .nameAndType 32 33), (0, u "text"), (0, u "Ljava/lang/String;"), (3, u "law"), (0, u "(IIII)Z")] 4

def k2c0 : Code := { maxStack := 3, maxLocals := 3, code := method_1_code, exceptionTable := #[], attributes := #[] }
def k2m0 : Method := { name := "<init>", desc := "(Ljava/lang/String;Ljava/lang/String;)V", sig := { parameters := [(.object "java/lang/String"), (.object "java/lang/String")], returnType := none }, accessFlags := 2, code := some k2c0 }
def k2c1 : Code := { maxStack := 6, maxLocals := 5, code := method_2_code, exceptionTable := #[], attributes := #[] }
def k2m1 : Method := { name := "make", desc := "(ICCCC)Ljava/lang/String;", sig := { parameters := [.int, .char, .char, .char, .char], returnType := some (.object "java/lang/String") }, accessFlags := 10, code := some k2c1 }
def k2c2 : Code := { maxStack := 5, maxLocals := 16, code := code, exceptionTable := #[], attributes := #[] }
def k2m2 : Method := { name := "law", desc := "(IIII)Z", sig := { parameters := [.int, .int, .int, .int], returnType := some .boolean }, accessFlags := 9, code := some k2c2 }
/-- com/example/runnymede/runnymede/TextReaderLookingAtPinLaw -/
def k2 : Class := { plain "com/example/runnymede/runnymede/TextReaderLookingAtPinLaw" (some 1) with
  accessFlags := 49
  interfaces := #[]
  cf := some (fileOf pool2 14 #[] #[{ accessFlags := 2, nameIndex := 5, descriptorIndex := 6, attributes := #[] }, { accessFlags := 10, nameIndex := 17, descriptorIndex := 18, attributes := #[] }, { accessFlags := 9, nameIndex := 37, descriptorIndex := 38, attributes := #[] }] 49 2 #[] #[])
  fields := #[]
  methods := #[k2m0, k2m1, k2m2]
  instanceTypes := #[(.object "java/lang/String"), .int, (.object "java/lang/String")]
  staticTypes := #[]
  resolved := Array.replicate 43 none
  statics := none }

def pool3 : Array CpInfo := pool [(1, .class_ 2), (0, u "java/io/Serializable"), (0, .class_ 4), (0, u "java/lang/Object")] 2

/-- java/io/Serializable -/
def k3 : Class := { plain "java/io/Serializable" (some 0) with
  accessFlags := 1537
  interfaces := #[]
  cf := some (fileOf pool3 1 #[] #[] 1537 3 #[] #[])
  fields := #[]
  methods := #[]
  instanceTypes := #[]
  staticTypes := #[]
  resolved := Array.replicate 7 none
  statics := none }

def pool4 : Array CpInfo := pool [(1, .class_ 2), (0, u "java/lang/Comparable"), (0, .class_ 4), (0, u "java/lang/Object")] 7

/-- java/lang/Comparable -/
def k4 : Class := { plain "java/lang/Comparable" (some 0) with
  accessFlags := 1537
  interfaces := #[]
  cf := some (fileOf pool4 1 #[] #[] 1537 3 #[] #[])
  fields := #[]
  methods := #[]
  instanceTypes := #[]
  staticTypes := #[]
  resolved := Array.replicate 12 none
  statics := none }

def pool5 : Array CpInfo := pool [(2, .class_ 4), (1, u "java/lang/CharSequence"), (42, .class_ 48), (0, u "java/lang/CharSequence$1CodePointIterator"), (10, .class_ 60), (0, u "java/lang/CharSequence$1CharIterator"), (5, .class_ 67), (0, u "java/lang/Object")] 63

/-- java/lang/CharSequence -/
def k5 : Class := { plain "java/lang/CharSequence" (some 0) with
  accessFlags := 1537
  interfaces := #[]
  cf := some (fileOf pool5 2 #[.nestMembers #[47, 59]] #[] 1537 66 #[] #[])
  fields := #[]
  methods := #[]
  instanceTypes := #[]
  staticTypes := #[]
  resolved := Array.replicate 131 none
  statics := none }

def pool6 : Array CpInfo := pool [(1, .class_ 2), (0, u "java/lang/constant/Constable"), (0, .class_ 4), (0, u "java/lang/Object")] 6

/-- java/lang/constant/Constable -/
def k6 : Class := { plain "java/lang/constant/Constable" (some 0) with
  accessFlags := 1537
  interfaces := #[]
  cf := some (fileOf pool6 1 #[] #[] 1537 3 #[] #[])
  fields := #[]
  methods := #[]
  instanceTypes := #[]
  staticTypes := #[]
  resolved := Array.replicate 11 none
  statics := none }

def pool7 : Array CpInfo := pool [(1, .class_ 2), (0, u "java/lang/constant/ConstantDesc"), (0, .class_ 4), (0, u "java/lang/Object")] 32

/-- java/lang/constant/ConstantDesc -/
def k7 : Class := { plain "java/lang/constant/ConstantDesc" (some 0) with
  accessFlags := 1537
  interfaces := #[]
  cf := some (fileOf pool7 1 #[] #[] 1537 3 #[] #[])
  fields := #[]
  methods := #[]
  instanceTypes := #[]
  staticTypes := #[]
  resolved := Array.replicate 37 none
  statics := none }

def pool8 : Array CpInfo := pool [(1, .methodref 2 3), (0, .class_ 4), (0, .nameAndType 5 6), (0, u "java/lang/Object"), (0, u "<init>"), (0, u "()V"), (0, .string 8), (0, u ""), (0, .fieldref 10 11), (0, .class_ 12), (0, .nameAndType 13 14), (0, u "java/lang/String"), (0, u "value"), (0, u "[B"), (0, .fieldref 10 16), (0, .nameAndType 17 18), (0, u "coder"), (0, u "B"), (2, u "hash"), (0, u "I"), (2, u "hashIsZero"), (0, u "Z"), (0, .methodref 10 28), (0, .nameAndType 5 29), (0, u "([CIILjava/lang/Void;)V"), (8, .fieldref 10 39), (0, .nameAndType 40 26), (0, u "COMPACT_STRINGS"), (1, .class_ 44), (1, u "java/lang/StringUTF16"), (0, u "compress"), (1, .methodref 42 48), (0, .nameAndType 49 50), (0, u "coderFromArrayLen"), (0, u "([BI)B"), (56, .class_ 109), (1, u "java/lang/StringLatin1"), (32, u "()Z"), (34, .methodref 42 178), (0, .nameAndType 45 179), (0, u "([CII)[B"), (154, u "()I"), (0, .methodref 10 336), (0, .nameAndType 17 337), (0, u "()B"), (25, u "([BI)C"), (27, u "(II)V"), (35, u "(I)C"), (64, .methodref 10 493), (0, .nameAndType 494 142), (0, u "isLatin1"), (0, .methodref 107 496), (0, .nameAndType 497 363), (0, u "charAt"), (0, .methodref 42 496), (2, u "checkIndex"), (5, u "length"), (67, .class_ 576), (0, u "java/lang/CharSequence"), (22, u "CASE_INSENSITIVE_ORDER"), (0, u "Ljava/util/Comparator;"), (409, u "([C)V"), (42, .fieldref 1054 1055), (0, .class_ 1056), (0, .nameAndType 1057 1058), (0, u "jdk/internal/util/Preconditions"), (0, u "SIOOBE_FORMATTER"), (0, u "Ljava/util/function/BiFunction;"), (0, .methodref 1054 1060), (0, .nameAndType 501 1061), (0, u "(IILjava/util/function/BiFunction;)I"), (39, u "serialPersistentFields"), (0, u "[Ljava/io/ObjectStreamField;"), (0, .class_ 1104), (0, u "java/lang/String$CaseInsensitiveComparator"), (1, .class_ 1107), (0, u "java/io/Serializable"), (0, .class_ 1109), (0, u "java/lang/Comparable"), (0, .class_ 1111), (0, u "java/lang/constant/Constable"), (0, .class_ 1113), (0, u "java/lang/constant/ConstantDesc"), (2, u "serialVersionUID"), (0, u "J"), (3, u "REPL"), (0, u "C"), (2, u "LATIN1"), (1, u "UTF16")] 323

def k8m0 : Method := { name := "<init>", desc := "()V", sig := { parameters := [], returnType := none }, accessFlags := 1, code := none }
def k8c1 : Code := { maxStack := 5, maxLocals := 2, code := jdk_42_method_3_code, exceptionTable := #[], attributes := #[] }
def k8m1 : Method := { name := "<init>", desc := "([C)V", sig := { parameters := [(.array .char)], returnType := none }, accessFlags := 1, code := some k8c1 }
def k8c2 : Code := { maxStack := 2, maxLocals := 1, code := jdk_42_method_54_code, exceptionTable := #[], attributes := #[] }
def k8m2 : Method := { name := "length", desc := "()I", sig := { parameters := [], returnType := some .int }, accessFlags := 1, code := some k8c2 }
def k8c3 : Code := { maxStack := 2, maxLocals := 2, code := jdk_42_method_56_code, exceptionTable := #[], attributes := #[] }
def k8m3 : Method := { name := "charAt", desc := "(I)C", sig := { parameters := [.int], returnType := some .char }, accessFlags := 1, code := some k8c3 }
def k8c4 : Code := { maxStack := 4, maxLocals := 6, code := jdk_42_method_149_code, exceptionTable := #[], attributes := #[] }
def k8m4 : Method := { name := "<init>", desc := "([CIILjava/lang/Void;)V", sig := { parameters := [(.array .char), .int, .int, (.object "java/lang/Void")], returnType := none }, accessFlags := 2, code := some k8c4 }
def k8c5 : Code := { maxStack := 1, maxLocals := 1, code := jdk_42_method_152_code, exceptionTable := #[], attributes := #[] }
def k8m5 : Method := { name := "coder", desc := "()B", sig := { parameters := [], returnType := some .byte }, accessFlags := 0, code := some k8c5 }
def k8c6 : Code := { maxStack := 1, maxLocals := 1, code := jdk_42_method_154_code, exceptionTable := #[], attributes := #[] }
def k8m6 : Method := { name := "isLatin1", desc := "()Z", sig := { parameters := [], returnType := some .boolean }, accessFlags := 0, code := some k8c6 }
def k8c7 : Code := { maxStack := 3, maxLocals := 2, code := jdk_42_method_155_code, exceptionTable := #[], attributes := #[] }
def k8m7 : Method := { name := "checkIndex", desc := "(II)V", sig := { parameters := [.int, .int], returnType := none }, accessFlags := 8, code := some k8c7 }
/-- java/lang/String -/
def k8 : Class := { plain "java/lang/String" (some 0) with
  accessFlags := 49
  interfaces := #[3, 4, 5, 6, 7]
  cf := some (fileOf pool8 10 #[.nestMembers #[1103]] #[{ accessFlags := 1, nameIndex := 5, descriptorIndex := 6, attributes := #[] }, { accessFlags := 1, nameIndex := 5, descriptorIndex := 1010, attributes := #[] }, { accessFlags := 1, nameIndex := 507, descriptorIndex := 334, attributes := #[] }, { accessFlags := 1, nameIndex := 497, descriptorIndex := 427, attributes := #[] }, { accessFlags := 2, nameIndex := 5, descriptorIndex := 29, attributes := #[] }, { accessFlags := 0, nameIndex := 17, descriptorIndex := 337, attributes := #[] }, { accessFlags := 0, nameIndex := 494, descriptorIndex := 142, attributes := #[] }, { accessFlags := 8, nameIndex := 501, descriptorIndex := 391, attributes := #[] }] 49 2 #[1106, 1108, 575, 1110, 1112] #[{ accessFlags := 18, nameIndex := 13, descriptorIndex := 14, attributes := #[] }, { accessFlags := 18, nameIndex := 17, descriptorIndex := 18, attributes := #[] }, { accessFlags := 2, nameIndex := 21, descriptorIndex := 22, attributes := #[] }, { accessFlags := 2, nameIndex := 25, descriptorIndex := 26, attributes := #[] }, { accessFlags := 26, nameIndex := 1116, descriptorIndex := 1117, attributes := #[] }, { accessFlags := 24, nameIndex := 40, descriptorIndex := 26, attributes := #[] }, { accessFlags := 26, nameIndex := 1101, descriptorIndex := 1102, attributes := #[] }, { accessFlags := 26, nameIndex := 1121, descriptorIndex := 1122, attributes := #[] }, { accessFlags := 25, nameIndex := 599, descriptorIndex := 600, attributes := #[] }, { accessFlags := 24, nameIndex := 1125, descriptorIndex := 18, attributes := #[] }, { accessFlags := 24, nameIndex := 1127, descriptorIndex := 18, attributes := #[] }])
  fields := #[{ name := "value", type := (.array .byte), accessFlags := 18, slot := 0, constantValue := 0 }, { name := "coder", type := .byte, accessFlags := 18, slot := 1, constantValue := 0 }, { name := "hash", type := .int, accessFlags := 2, slot := 2, constantValue := 0 }, { name := "hashIsZero", type := .boolean, accessFlags := 2, slot := 3, constantValue := 0 }, { name := "serialVersionUID", type := .long, accessFlags := 26, slot := 0, constantValue := 0 }, { name := "COMPACT_STRINGS", type := .boolean, accessFlags := 24, slot := 1, constantValue := 0 }, { name := "serialPersistentFields", type := (.array (.object "java/io/ObjectStreamField")), accessFlags := 26, slot := 2, constantValue := 0 }, { name := "REPL", type := .char, accessFlags := 26, slot := 3, constantValue := 0 }, { name := "CASE_INSENSITIVE_ORDER", type := (.object "java/util/Comparator"), accessFlags := 25, slot := 4, constantValue := 0 }, { name := "LATIN1", type := .byte, accessFlags := 24, slot := 5, constantValue := 0 }, { name := "UTF16", type := .byte, accessFlags := 24, slot := 6, constantValue := 0 }]
  methods := #[k8m0, k8m1, k8m2, k8m3, k8m4, k8m5, k8m6, k8m7]
  instanceTypes := #[(.array .byte), .byte, .int, .boolean]
  staticTypes := #[.long, .boolean, (.array (.object "java/io/ObjectStreamField")), .char, (.object "java/util/Comparator"), .byte, .byte]
  resolved := Array.replicate 1451 none
  statics := some 0 }

def pool9 : Array CpInfo := pool [(3, .class_ 4), (0, u "java/lang/String"), (1, .class_ 8), (1, u "java/lang/Object"), (0, u "<init>"), (0, u "()V"), (0, .methodref 12 13), (0, .class_ 14), (0, .nameAndType 15 16), (0, u "java/lang/StringUTF16"), (0, u "newBytesLength"), (0, u "(I)I"), (3, .integer 1073741823), (23, .fieldref 12 45), (0, .nameAndType 46 47), (0, u "$assertionsDisabled"), (0, u "Z"), (0, .methodref 12 49), (0, .nameAndType 50 51), (0, u "length"), (0, u "([B)I"), (7, .fieldref 12 60), (0, .nameAndType 61 62), (0, u "HI_BYTE_SHIFT"), (0, u "I"), (0, .fieldref 12 64), (0, .nameAndType 65 62), (0, u "LO_BYTE_SHIFT"), (1, .methodref 12 68), (0, .nameAndType 69 70), (0, u "checkIndex"), (0, u "(I[B)V"), (0, .methodref 12 72), (0, .nameAndType 73 74), (0, u "getChar"), (0, u "([BI)C"), (32, .methodref 12 108), (0, .nameAndType 109 110), (0, u "newBytesFor"), (0, u "(I)[B"), (0, .methodref 12 112), (0, .nameAndType 113 114), (0, u "putChar"), (0, u "([BII)V"), (0, .methodref 12 116), (0, .nameAndType 117 118), (0, u "compress"), (0, u "([CI[BII)I"), (0, .methodref 12 120), (0, .nameAndType 121 122), (0, u "toBytes"), (0, u "([CII)[B"), (138, u "coderFromArrayLen"), (0, u "([BI)B"), (106, .class_ 371), (1, u "java/lang/StringUTF16$LinesSpliterator"), (20, u "charAt"), (21, .methodref 3 415), (0, .nameAndType 69 416), (0, u "(II)V"), (13, u "MAX_LENGTH"), (196, .class_ 628), (0, u "java/lang/StringUTF16$CodePointsSpliterator"), (0, .class_ 630), (0, u "java/lang/StringUTF16$CharsSpliterator")] 4

def k9m0 : Method := { name := "<init>", desc := "()V", sig := { parameters := [], returnType := none }, accessFlags := 0, code := none }
def k9c1 : Code := { maxStack := 1, maxLocals := 1, code := jdk_52_method_2_code, exceptionTable := #[], attributes := #[] }
def k9m1 : Method := { name := "newBytesFor", desc := "(I)[B", sig := { parameters := [.int], returnType := some (.array .byte) }, accessFlags := 9, code := some k9c1 }
def k9c2 : Code := { maxStack := 4, maxLocals := 1, code := jdk_52_method_3_code, exceptionTable := #[], attributes := #[] }
def k9m2 : Method := { name := "newBytesLength", desc := "(I)I", sig := { parameters := [.int], returnType := some .int }, accessFlags := 9, code := some k9c2 }
def k9c3 : Code := { maxStack := 4, maxLocals := 3, code := jdk_52_method_4_code, exceptionTable := #[], attributes := #[] }
def k9m3 : Method := { name := "putChar", desc := "([BII)V", sig := { parameters := [(.array .byte), .int, .int], returnType := none }, accessFlags := 8, code := some k9c3 }
def k9c4 : Code := { maxStack := 3, maxLocals := 2, code := jdk_52_method_5_code, exceptionTable := #[], attributes := #[] }
def k9m4 : Method := { name := "getChar", desc := "([BI)C", sig := { parameters := [(.array .byte), .int], returnType := some .char }, accessFlags := 8, code := some k9c4 }
def k9c5 : Code := { maxStack := 2, maxLocals := 1, code := jdk_52_method_6_code, exceptionTable := #[], attributes := #[] }
def k9m5 : Method := { name := "length", desc := "([B)I", sig := { parameters := [(.array .byte)], returnType := some .int }, accessFlags := 9, code := some k9c5 }
def k9c6 : Code := { maxStack := 4, maxLocals := 5, code := jdk_52_method_14_code, exceptionTable := #[], attributes := #[] }
def k9m6 : Method := { name := "toBytes", desc := "([CII)[B", sig := { parameters := [(.array .char), .int, .int], returnType := some (.array .byte) }, accessFlags := 9, code := some k9c6 }
def k9c7 : Code := { maxStack := 2, maxLocals := 2, code := jdk_52_method_15_code, exceptionTable := #[], attributes := #[] }
def k9m7 : Method := { name := "coderFromArrayLen", desc := "([BI)B", sig := { parameters := [(.array .byte), .int], returnType := some .byte }, accessFlags := 8, code := some k9c7 }
def k9c8 : Code := { maxStack := 5, maxLocals := 6, code := jdk_52_method_16_code, exceptionTable := #[], attributes := #[] }
def k9m8 : Method := { name := "compress", desc := "([CII)[B", sig := { parameters := [(.array .char), .int, .int], returnType := some (.array .byte) }, accessFlags := 9, code := some k9c8 }
def k9c9 : Code := { maxStack := 3, maxLocals := 7, code := jdk_52_method_21_code, exceptionTable := #[], attributes := #[] }
def k9m9 : Method := { name := "compress", desc := "([CI[BII)I", sig := { parameters := [(.array .char), .int, (.array .byte), .int, .int], returnType := some .int }, accessFlags := 9, code := some k9c9 }
def k9c10 : Code := { maxStack := 2, maxLocals := 2, code := jdk_52_method_83_code, exceptionTable := #[], attributes := #[] }
def k9m10 : Method := { name := "charAt", desc := "([BI)C", sig := { parameters := [(.array .byte), .int], returnType := some .char }, accessFlags := 9, code := some k9c10 }
def k9c11 : Code := { maxStack := 2, maxLocals := 2, code := jdk_52_method_91_code, exceptionTable := #[], attributes := #[] }
def k9m11 : Method := { name := "checkIndex", desc := "(I[B)V", sig := { parameters := [.int, (.array .byte)], returnType := none }, accessFlags := 9, code := some k9c11 }
/-- java/lang/StringUTF16 -/
def k9 : Class := { plain "java/lang/StringUTF16" (some 0) with
  accessFlags := 48
  interfaces := #[]
  cf := some (fileOf pool9 12 #[.nestMembers #[627, 629, 369]] #[{ accessFlags := 0, nameIndex := 9, descriptorIndex := 10, attributes := #[] }, { accessFlags := 9, nameIndex := 109, descriptorIndex := 110, attributes := #[] }, { accessFlags := 9, nameIndex := 15, descriptorIndex := 16, attributes := #[] }, { accessFlags := 8, nameIndex := 113, descriptorIndex := 114, attributes := #[] }, { accessFlags := 8, nameIndex := 73, descriptorIndex := 74, attributes := #[] }, { accessFlags := 9, nameIndex := 50, descriptorIndex := 51, attributes := #[] }, { accessFlags := 9, nameIndex := 121, descriptorIndex := 122, attributes := #[] }, { accessFlags := 8, nameIndex := 261, descriptorIndex := 262, attributes := #[] }, { accessFlags := 9, nameIndex := 117, descriptorIndex := 122, attributes := #[] }, { accessFlags := 9, nameIndex := 117, descriptorIndex := 118, attributes := #[] }, { accessFlags := 9, nameIndex := 392, descriptorIndex := 74, attributes := #[] }, { accessFlags := 9, nameIndex := 69, descriptorIndex := 70, attributes := #[] }] 48 6 #[] #[{ accessFlags := 26, nameIndex := 61, descriptorIndex := 62, attributes := #[] }, { accessFlags := 26, nameIndex := 65, descriptorIndex := 62, attributes := #[] }, { accessFlags := 24, nameIndex := 430, descriptorIndex := 62, attributes := #[] }, { accessFlags := 4120, nameIndex := 46, descriptorIndex := 47, attributes := #[] }])
  fields := #[{ name := "HI_BYTE_SHIFT", type := .int, accessFlags := 26, slot := 0, constantValue := 0 }, { name := "LO_BYTE_SHIFT", type := .int, accessFlags := 26, slot := 1, constantValue := 0 }, { name := "MAX_LENGTH", type := .int, accessFlags := 24, slot := 2, constantValue := 0 }, { name := "$assertionsDisabled", type := .boolean, accessFlags := 4120, slot := 3, constantValue := 0 }]
  methods := #[k9m0, k9m1, k9m2, k9m3, k9m4, k9m5, k9m6, k9m7, k9m8, k9m9, k9m10, k9m11]
  instanceTypes := #[]
  staticTypes := #[.int, .int, .int, .boolean]
  resolved := Array.replicate 635 none
  statics := some 1 }

def pool10 : Array CpInfo := pool [(1, .class_ 2), (0, u "java/lang/String"), (1, .class_ 6), (1, u "java/lang/Object"), (0, u "<init>"), (0, u "()V"), (0, .methodref 1 10), (0, .nameAndType 11 12), (0, u "checkIndex"), (0, u "(II)V"), (1, .class_ 16), (1, u "java/lang/StringLatin1"), (36, u "([BI)C"), (67, u "$assertionsDisabled"), (0, u "Z"), (98, .class_ 223), (1, u "java/lang/StringLatin1$LinesSpliterator"), (28, u "charAt"), (137, .class_ 391), (0, u "java/lang/StringLatin1$CharsSpliterator")] 3

def k10m0 : Method := { name := "<init>", desc := "()V", sig := { parameters := [], returnType := none }, accessFlags := 0, code := none }
def k10c1 : Code := { maxStack := 2, maxLocals := 2, code := jdk_43_method_2_code, exceptionTable := #[], attributes := #[] }
def k10m1 : Method := { name := "charAt", desc := "([BI)C", sig := { parameters := [(.array .byte), .int], returnType := some .char }, accessFlags := 9, code := some k10c1 }
/-- java/lang/StringLatin1 -/
def k10 : Class := { plain "java/lang/StringLatin1" (some 0) with
  accessFlags := 48
  interfaces := #[]
  cf := some (fileOf pool10 14 #[.nestMembers #[390, 221]] #[{ accessFlags := 0, nameIndex := 7, descriptorIndex := 8, attributes := #[] }, { accessFlags := 9, nameIndex := 252, descriptorIndex := 53, attributes := #[] }] 48 4 #[] #[{ accessFlags := 4120, nameIndex := 121, descriptorIndex := 122, attributes := #[] }])
  fields := #[{ name := "$assertionsDisabled", type := .boolean, accessFlags := 4120, slot := 0, constantValue := 0 }]
  methods := #[k10m0, k10m1]
  instanceTypes := #[]
  staticTypes := #[.boolean]
  resolved := Array.replicate 395 none
  statics := none }

def pool11 : Array CpInfo := pool [(2, .class_ 4), (1, u "java/lang/Object"), (0, u "<init>"), (0, u "()V"), (17, .class_ 26), (1, u "jdk/internal/util/Preconditions"), (6, u "checkIndex"), (21, .class_ 56), (0, u "jdk/internal/util/Preconditions$4"), (57, .class_ 115), (0, u "jdk/internal/util/Preconditions$1"), (7, u "SIOOBE_FORMATTER"), (0, u "Ljava/util/function/BiFunction;"), (0, .class_ 126), (0, u "jdk/internal/util/Preconditions$2"), (3, u "AIOOBE_FORMATTER"), (0, .class_ 132), (0, u "jdk/internal/util/Preconditions$3"), (3, u "IOOBE_FORMATTER"), (41, u "(IILjava/util/function/BiFunction;)I")] 15

def k11m0 : Method := { name := "<init>", desc := "()V", sig := { parameters := [], returnType := none }, accessFlags := 1, code := none }
def k11c1 : Code := { maxStack := 3, maxLocals := 3, code := jdk_41_method_11_code, exceptionTable := #[], attributes := #[] }
def k11m1 : Method := { name := "checkIndex", desc := "(IILjava/util/function/BiFunction;)I", sig := { parameters := [.int, .int, (.object "java/util/function/BiFunction")], returnType := some .int }, accessFlags := 9, code := some k11c1 }
/-- jdk/internal/util/Preconditions -/
def k11 : Class := { plain "jdk/internal/util/Preconditions" (some 0) with
  accessFlags := 33
  interfaces := #[]
  cf := some (fileOf pool11 24 #[.nestMembers #[55, 131, 125, 114]] #[{ accessFlags := 1, nameIndex := 5, descriptorIndex := 6, attributes := #[] }, { accessFlags := 9, nameIndex := 33, descriptorIndex := 178, attributes := #[] }] 33 2 #[] #[{ accessFlags := 25, nameIndex := 123, descriptorIndex := 124, attributes := #[] }, { accessFlags := 25, nameIndex := 130, descriptorIndex := 124, attributes := #[] }, { accessFlags := 25, nameIndex := 136, descriptorIndex := 124, attributes := #[] }])
  fields := #[{ name := "SIOOBE_FORMATTER", type := (.object "java/util/function/BiFunction"), accessFlags := 25, slot := 0, constantValue := 0 }, { name := "AIOOBE_FORMATTER", type := (.object "java/util/function/BiFunction"), accessFlags := 25, slot := 1, constantValue := 0 }, { name := "IOOBE_FORMATTER", type := (.object "java/util/function/BiFunction"), accessFlags := 25, slot := 2, constantValue := 0 }]
  methods := #[k11m0, k11m1]
  instanceTypes := #[]
  staticTypes := #[(.object "java/util/function/BiFunction"), (.object "java/util/function/BiFunction"), (.object "java/util/function/BiFunction")]
  resolved := Array.replicate 194 none
  statics := some 2 }

def pool12 : Array CpInfo := pool [(9, u "<init>"), (6, .class_ 18), (1, u "java/lang/Object"), (0, u "()V"), (1, .class_ 23), (1, u "jdk/internal/util/ArraysSupport"), (0, u "LOG2_ARRAY_LONG_INDEX_SCALE"), (0, u "I"), (2, u "U"), (0, u "Ljdk/internal/misc/Unsafe;"), (8, u "BIG_ENDIAN"), (0, u "Z"), (8, u "LOG2_BYTE_BIT_SIZE"), (4, u "LOG2_ARRAY_INT_INDEX_SCALE"), (54, u "JLA"), (0, u "Ljdk/internal/access/JavaLangAccess;"), (11, u "LOG2_ARRAY_BOOLEAN_INDEX_SCALE"), (9, u "LOG2_ARRAY_BYTE_INDEX_SCALE"), (5, u "LOG2_ARRAY_CHAR_INDEX_SCALE"), (5, u "LOG2_ARRAY_SHORT_INDEX_SCALE"), (18, u "LOG2_ARRAY_FLOAT_INDEX_SCALE"), (24, u "LOG2_ARRAY_DOUBLE_INDEX_SCALE"), (89, u "T_BOOLEAN"), (2, u "T_CHAR"), (1, u "T_FLOAT"), (1, u "T_DOUBLE"), (1, u "T_BYTE"), (1, u "T_SHORT"), (1, u "T_INT"), (1, u "T_LONG"), (1, u "SOFT_MAX_ARRAY_LENGTH")] 83

def k12m0 : Method := { name := "<init>", desc := "()V", sig := { parameters := [], returnType := none }, accessFlags := 2, code := none }
/-- jdk/internal/util/ArraysSupport -/
def k12 : Class := { plain "jdk/internal/util/ArraysSupport" (some 0) with
  accessFlags := 33
  interfaces := #[]
  cf := some (fileOf pool12 21 #[] #[{ accessFlags := 2, nameIndex := 9, descriptorIndex := 19, attributes := #[] }] 33 16 #[] #[{ accessFlags := 24, nameIndex := 28, descriptorIndex := 29, attributes := #[] }, { accessFlags := 26, nameIndex := 38, descriptorIndex := 39, attributes := #[] }, { accessFlags := 25, nameIndex := 121, descriptorIndex := 25, attributes := #[] }, { accessFlags := 25, nameIndex := 131, descriptorIndex := 25, attributes := #[] }, { accessFlags := 25, nameIndex := 137, descriptorIndex := 25, attributes := #[] }, { accessFlags := 25, nameIndex := 143, descriptorIndex := 25, attributes := #[] }, { accessFlags := 25, nameIndex := 53, descriptorIndex := 25, attributes := #[] }, { accessFlags := 25, nameIndex := 24, descriptorIndex := 25, attributes := #[] }, { accessFlags := 25, nameIndex := 162, descriptorIndex := 25, attributes := #[] }, { accessFlags := 25, nameIndex := 187, descriptorIndex := 25, attributes := #[] }, { accessFlags := 26, nameIndex := 48, descriptorIndex := 25, attributes := #[] }, { accessFlags := 25, nameIndex := 277, descriptorIndex := 25, attributes := #[] }, { accessFlags := 25, nameIndex := 280, descriptorIndex := 25, attributes := #[] }, { accessFlags := 25, nameIndex := 282, descriptorIndex := 25, attributes := #[] }, { accessFlags := 25, nameIndex := 284, descriptorIndex := 25, attributes := #[] }, { accessFlags := 25, nameIndex := 286, descriptorIndex := 25, attributes := #[] }, { accessFlags := 25, nameIndex := 288, descriptorIndex := 25, attributes := #[] }, { accessFlags := 25, nameIndex := 290, descriptorIndex := 25, attributes := #[] }, { accessFlags := 25, nameIndex := 292, descriptorIndex := 25, attributes := #[] }, { accessFlags := 26, nameIndex := 108, descriptorIndex := 109, attributes := #[] }, { accessFlags := 25, nameIndex := 294, descriptorIndex := 25, attributes := #[] }])
  fields := #[{ name := "U", type := (.object "jdk/internal/misc/Unsafe"), accessFlags := 24, slot := 0, constantValue := 0 }, { name := "BIG_ENDIAN", type := .boolean, accessFlags := 26, slot := 1, constantValue := 0 }, { name := "LOG2_ARRAY_BOOLEAN_INDEX_SCALE", type := .int, accessFlags := 25, slot := 2, constantValue := 0 }, { name := "LOG2_ARRAY_BYTE_INDEX_SCALE", type := .int, accessFlags := 25, slot := 3, constantValue := 0 }, { name := "LOG2_ARRAY_CHAR_INDEX_SCALE", type := .int, accessFlags := 25, slot := 4, constantValue := 0 }, { name := "LOG2_ARRAY_SHORT_INDEX_SCALE", type := .int, accessFlags := 25, slot := 5, constantValue := 0 }, { name := "LOG2_ARRAY_INT_INDEX_SCALE", type := .int, accessFlags := 25, slot := 6, constantValue := 0 }, { name := "LOG2_ARRAY_LONG_INDEX_SCALE", type := .int, accessFlags := 25, slot := 7, constantValue := 0 }, { name := "LOG2_ARRAY_FLOAT_INDEX_SCALE", type := .int, accessFlags := 25, slot := 8, constantValue := 0 }, { name := "LOG2_ARRAY_DOUBLE_INDEX_SCALE", type := .int, accessFlags := 25, slot := 9, constantValue := 0 }, { name := "LOG2_BYTE_BIT_SIZE", type := .int, accessFlags := 26, slot := 10, constantValue := 0 }, { name := "T_BOOLEAN", type := .int, accessFlags := 25, slot := 11, constantValue := 0 }, { name := "T_CHAR", type := .int, accessFlags := 25, slot := 12, constantValue := 0 }, { name := "T_FLOAT", type := .int, accessFlags := 25, slot := 13, constantValue := 0 }, { name := "T_DOUBLE", type := .int, accessFlags := 25, slot := 14, constantValue := 0 }, { name := "T_BYTE", type := .int, accessFlags := 25, slot := 15, constantValue := 0 }, { name := "T_SHORT", type := .int, accessFlags := 25, slot := 16, constantValue := 0 }, { name := "T_INT", type := .int, accessFlags := 25, slot := 17, constantValue := 0 }, { name := "T_LONG", type := .int, accessFlags := 25, slot := 18, constantValue := 0 }, { name := "JLA", type := (.object "jdk/internal/access/JavaLangAccess"), accessFlags := 26, slot := 19, constantValue := 0 }, { name := "SOFT_MAX_ARRAY_LENGTH", type := .int, accessFlags := 25, slot := 20, constantValue := 0 }]
  methods := #[k12m0]
  instanceTypes := #[]
  staticTypes := #[(.object "jdk/internal/misc/Unsafe"), .boolean, .int, .int, .int, .int, .int, .int, .int, .int, .int, .int, .int, .int, .int, .int, .int, .int, .int, (.object "jdk/internal/access/JavaLangAccess"), .int]
  resolved := Array.replicate 378 none
  statics := none }

def pool13 : Array CpInfo := pool [(1, u "java/lang/Cloneable"), (0, .class_ 1), (0, u "java/lang/Object"), (0, .class_ 3)] 3

/-- java/lang/Cloneable -/
def k13 : Class := { plain "java/lang/Cloneable" (some 0) with
  accessFlags := 1537
  interfaces := #[]
  cf := some (fileOf pool13 2 #[] #[] 1537 4 #[] #[])
  fields := #[]
  methods := #[]
  instanceTypes := #[]
  staticTypes := #[]
  resolved := Array.replicate 8 none
  statics := none }

/-- the primitive byte -/
def k14 : Class := { plain "byte" none with kind := .primitive 'B', accessFlags := 0x411 }
/-- [B -/
def k15 : Class := { plain "[B" (some 0) with kind := .array 14 .byte, interfaces := #[13, 3], accessFlags := 1041 }

/-- the primitive char -/
def k16 : Class := { plain "char" none with kind := .primitive 'C', accessFlags := 0x411 }
/-- [C -/
def k17 : Class := { plain "[C" (some 0) with kind := .array 16 .char, interfaces := #[13, 3], accessFlags := 1041 }

/-- the primitive int -/
def k18 : Class := { plain "int" none with kind := .primitive 'I', accessFlags := 0x411 }
/-- [I -/
def k19 : Class := { plain "[I" (some 0) with kind := .array 18 .int, interfaces := #[13, 3], accessFlags := 1041 }

def heap : Heap := #[{ cls := 8, slots := #[.long 0, .int 1, .null, .int 0, .null, .int 0, .int 0], vm := .statics 8 },
  { cls := 9, slots := #[.int 0, .int 8, .int 0, .int 1], vm := .statics 9 },
  { cls := 11, slots := #[.null, .null, .null], vm := .statics 11 }]
def classes : Array Class := #[k0, k1, k2, k3, k4, k5, k6, k7, k8, k9, k10, k11, k12, k13, k14, k15, k16, k17, k18, k19]
def interned : List (Array UInt16 × Addr) := []
def slotsUsed : Nat := 14
def theMethod : MethodId := ⟨2, 2⟩
def args0 : Array Value := #[.int 5, .int 5, .int 5, .int 5]
def aboutOver (below : List Frame) : State where
  vm := { classes := classes, interned := interned.toArray }
  heap := heap
  slotsUsed := slotsUsed
  threads := #[{ frames := .invoking theMethod args0 :: below }]
def below0 : List Frame := [.native { method := ⟨0, 0⟩, args := #[] }]
def about1 : State := aboutOver below0
def p0 : Program := .bare "" "" ""
def e0 : Env := launch0.env 0 0 0
theorem w_frames : about1.frames = Frame.invoking theMethod args0 :: below0 := rfl
set_option maxRecDepth 65536 in
theorem w_args : argsFit about1.vm theMethod args0 = true := by decide +kernel
set_option maxRecDepth 65536 in
theorem w_heap : heapFits about1 = true := by decide +kernel
set_option maxRecDepth 65536 in
theorem w_runnable : about1.curStatus? = some .runnable := by decide +kernel
set_option maxRecDepth 65536 in
theorem w_alone : about1.alone = true := by decide +kernel
set_option maxRecDepth 65536 in
theorem w_named : about1.methodNamed? x = some theMethod := by decide +kernel
set_option maxRecDepth 65536 in
theorem w_hears : about1.hears theMethod below0 = true := by decide +kernel
set_option maxRecDepth 65536 in
theorem w_ripe : about1.ripe theMethod args0 below0 = true := by decide +kernel
theorem w_running : about1.status = .running := rfl
set_option maxRecDepth 65536 in
theorem w_room : about1.hasRoom e0.platform room_1 = true :=
  launch0.hasRoom_least _ room_1 (by decide +kernel) (by decide +kernel) (by decide +kernel) (by decide +kernel) (by decide +kernel) (by decide +kernel)
theorem allAtoms_all (ts : List Jvm.Cond) (a : Array Jvm.Value) (st : Jvm.State) : (allAtoms ts).before a st = ts.all (fun c => c.before a st) := by
  induction ts with
  | nil => rfl
  | cons c t ih =>
    show (Jvm.Cond.and c (allAtoms t)).before a st = _
    rw [Jvm.Cond.before_and, ih, List.all_cons]
def words1 : List Jvm.Cond := Jvm.Cond.code x code maxLocals ret :: tables_1
/-- a 'code' word, met by the world's own term for the bytes: nothing is compared byte by byte -/
theorem code_word {y : MethodName} {bytes : ByteArray} {mx : Nat} {rt : Option FieldType} {a : Array Value} {s : State} {m : MethodId} {meth : Method} {c : Code} (h1 : s.methodNamed? y = some m) (h2 : s.vm.method? m = some meth) (h3 : meth.code = some c) (h4 : c.code = bytes)
    (h5 : (c.maxLocals == mx && c.exceptionTable.isEmpty && decide (c.maxStack ≤ mostOperands) && decide (meth.sig.returnType = rt) && !meth.locks && decide (parseMethodDescriptor y.desc = some meth.sig)) = true) : (Jvm.Cond.code y bytes mx rt).before a s = true := by
  simp only [Bool.and_eq_true, beq_iff_eq, Bool.not_eq_true', decide_eq_true_eq] at h5
  obtain ⟨⟨⟨⟨⟨g1, g2⟩, g3⟩, g4⟩, g5⟩, g6⟩ := h5
  simp [Cond.before, Cond.holds, Cond.value, h1, h2, h3, h4, g1, g2, g3, g4, g5, g6]
def isCode : Jvm.Cond → Bool
  | .code _ _ _ _ => true
  | _ => false
theorem all_split {L : List Jvm.Cond} {P : Jvm.Cond → Bool} (h1 : L.all (fun c => isCode c || P c) = true) (h2 : ∀ c ∈ L.filter isCode, P c = true) : L.all P = true := by
  refine List.all_eq_true.mpr fun c hc => ?_
  have h := List.all_eq_true.mp h1 c hc
  rcases Bool.eq_false_or_eq_true (isCode c) with hi | hi
  · exact h2 c (List.mem_filter.mpr ⟨hc, hi⟩)
  · simpa [hi] using h
set_option maxRecDepth 65536 in
theorem w_c0 : (Jvm.Cond.code x code maxLocals ret).before args0 about1 = true := code_word (m := ⟨2, 2⟩) (meth := k2m2) (c := k2c2) (by decide +kernel) rfl rfl rfl (by decide +kernel)
set_option maxRecDepth 65536 in
theorem w_c1 : (Jvm.Cond.code ({ cls := "com/example/runnymede/runnymede/TextReaderLookingAtPinLaw", name := "make", desc := "(ICCCC)Ljava/lang/String;" } : Jvm.MethodName) method_2_code (5 : Nat) (Option.some (Jvm.ClassFile.FieldType.object "java/lang/String"))).before args0 about1 = true := code_word (m := ⟨2, 1⟩) (meth := k2m1) (c := k2c1) (by decide +kernel) rfl rfl rfl (by decide +kernel)
set_option maxRecDepth 65536 in
theorem w_c2 : (Jvm.Cond.code ({ cls := "java/lang/String", name := "<init>", desc := "([C)V" } : Jvm.MethodName) jdk_42_method_3_code (2 : Nat) (Option.none : Option Jvm.ClassFile.FieldType)).before args0 about1 = true := code_word (m := ⟨8, 1⟩) (meth := k8m1) (c := k8c1) (by decide +kernel) rfl rfl rfl (by decide +kernel)
set_option maxRecDepth 65536 in
theorem w_c3 : (Jvm.Cond.code ({ cls := "java/lang/String", name := "<init>", desc := "([CIILjava/lang/Void;)V" } : Jvm.MethodName) jdk_42_method_149_code (6 : Nat) (Option.none : Option Jvm.ClassFile.FieldType)).before args0 about1 = true := code_word (m := ⟨8, 4⟩) (meth := k8m4) (c := k8c4) (by decide +kernel) rfl rfl rfl (by decide +kernel)
set_option maxRecDepth 65536 in
theorem w_c4 : (Jvm.Cond.code ({ cls := "java/lang/Object", name := "<init>", desc := "()V" } : Jvm.MethodName) object_method_1_code (1 : Nat) (Option.none : Option Jvm.ClassFile.FieldType)).before args0 about1 = true := code_word (m := ⟨0, 0⟩) (meth := k0m0) (c := k0c0) (by decide +kernel) rfl rfl rfl (by decide +kernel)
set_option maxRecDepth 65536 in
theorem w_c5 : (Jvm.Cond.code ({ cls := "com/example/runnymede/runnymede/TextReaderLookingAtPinLaw", name := "<init>", desc := "(Ljava/lang/String;Ljava/lang/String;)V" } : Jvm.MethodName) method_1_code (3 : Nat) (Option.none : Option Jvm.ClassFile.FieldType)).before args0 about1 = true := code_word (m := ⟨2, 0⟩) (meth := k2m0) (c := k2c0) (by decide +kernel) rfl rfl rfl (by decide +kernel)
set_option maxRecDepth 65536 in
theorem w_c6 : (Jvm.Cond.code ({ cls := "com/example/runnymede/runnymede/TextReader", name := "<init>", desc := "(Ljava/lang/String;Ljava/lang/String;)V" } : Jvm.MethodName) prog_52_method_1_code (3 : Nat) (Option.none : Option Jvm.ClassFile.FieldType)).before args0 about1 = true := code_word (m := ⟨1, 0⟩) (meth := k1m0) (c := k1c0) (by decide +kernel) rfl rfl rfl (by decide +kernel)
set_option maxRecDepth 65536 in
theorem w_c7 : (Jvm.Cond.code ({ cls := "com/example/runnymede/runnymede/TextReader", name := "lookingAt", desc := "(C)Z" } : Jvm.MethodName) prog_52_method_2_code (2 : Nat) (Option.some Jvm.ClassFile.FieldType.boolean)).before args0 about1 = true := code_word (m := ⟨1, 1⟩) (meth := k1m1) (c := k1c1) (by decide +kernel) rfl rfl rfl (by decide +kernel)
set_option maxRecDepth 65536 in
theorem w_c8 : (Jvm.Cond.code ({ cls := "java/lang/String", name := "length", desc := "()I" } : Jvm.MethodName) jdk_42_method_54_code (1 : Nat) (Option.some Jvm.ClassFile.FieldType.int)).before args0 about1 = true := code_word (m := ⟨8, 2⟩) (meth := k8m2) (c := k8c2) (by decide +kernel) rfl rfl rfl (by decide +kernel)
set_option maxRecDepth 65536 in
theorem w_c9 : (Jvm.Cond.code ({ cls := "java/lang/String", name := "coder", desc := "()B" } : Jvm.MethodName) jdk_42_method_152_code (1 : Nat) (Option.some Jvm.ClassFile.FieldType.byte)).before args0 about1 = true := code_word (m := ⟨8, 5⟩) (meth := k8m5) (c := k8c5) (by decide +kernel) rfl rfl rfl (by decide +kernel)
set_option maxRecDepth 65536 in
theorem w_c10 : (Jvm.Cond.code ({ cls := "java/lang/StringUTF16", name := "compress", desc := "([CII)[B" } : Jvm.MethodName) jdk_52_method_16_code (6 : Nat) (Option.some (Jvm.ClassFile.FieldType.array Jvm.ClassFile.FieldType.byte))).before args0 about1 = true := code_word (m := ⟨9, 8⟩) (meth := k9m8) (c := k9c8) (by decide +kernel) rfl rfl rfl (by decide +kernel)
set_option maxRecDepth 65536 in
theorem w_c11 : (Jvm.Cond.code ({ cls := "java/lang/StringUTF16", name := "compress", desc := "([CI[BII)I" } : Jvm.MethodName) jdk_52_method_21_code (7 : Nat) (Option.some Jvm.ClassFile.FieldType.int)).before args0 about1 = true := code_word (m := ⟨9, 9⟩) (meth := k9m9) (c := k9c9) (by decide +kernel) rfl rfl rfl (by decide +kernel)
set_option maxRecDepth 65536 in
theorem w_c12 : (Jvm.Cond.code ({ cls := "java/lang/StringUTF16", name := "coderFromArrayLen", desc := "([BI)B" } : Jvm.MethodName) jdk_52_method_15_code (2 : Nat) (Option.some Jvm.ClassFile.FieldType.byte)).before args0 about1 = true := code_word (m := ⟨9, 7⟩) (meth := k9m7) (c := k9c7) (by decide +kernel) rfl rfl rfl (by decide +kernel)
set_option maxRecDepth 65536 in
theorem w_c13 : (Jvm.Cond.code ({ cls := "java/lang/String", name := "charAt", desc := "(I)C" } : Jvm.MethodName) jdk_42_method_56_code (2 : Nat) (Option.some Jvm.ClassFile.FieldType.char)).before args0 about1 = true := code_word (m := ⟨8, 3⟩) (meth := k8m3) (c := k8c3) (by decide +kernel) rfl rfl rfl (by decide +kernel)
set_option maxRecDepth 65536 in
theorem w_c14 : (Jvm.Cond.code ({ cls := "java/lang/String", name := "isLatin1", desc := "()Z" } : Jvm.MethodName) jdk_42_method_154_code (1 : Nat) (Option.some Jvm.ClassFile.FieldType.boolean)).before args0 about1 = true := code_word (m := ⟨8, 6⟩) (meth := k8m6) (c := k8c6) (by decide +kernel) rfl rfl rfl (by decide +kernel)
set_option maxRecDepth 65536 in
theorem w_c15 : (Jvm.Cond.code ({ cls := "java/lang/StringLatin1", name := "charAt", desc := "([BI)C" } : Jvm.MethodName) jdk_43_method_2_code (2 : Nat) (Option.some Jvm.ClassFile.FieldType.char)).before args0 about1 = true := code_word (m := ⟨10, 1⟩) (meth := k10m1) (c := k10c1) (by decide +kernel) rfl rfl rfl (by decide +kernel)
set_option maxRecDepth 65536 in
theorem w_c16 : (Jvm.Cond.code ({ cls := "java/lang/String", name := "checkIndex", desc := "(II)V" } : Jvm.MethodName) jdk_42_method_155_code (2 : Nat) (Option.none : Option Jvm.ClassFile.FieldType)).before args0 about1 = true := code_word (m := ⟨8, 7⟩) (meth := k8m7) (c := k8c7) (by decide +kernel) rfl rfl rfl (by decide +kernel)
set_option maxRecDepth 65536 in
theorem w_c17 : (Jvm.Cond.code ({ cls := "jdk/internal/util/Preconditions", name := "checkIndex", desc := "(IILjava/util/function/BiFunction;)I" } : Jvm.MethodName) jdk_41_method_11_code (3 : Nat) (Option.some Jvm.ClassFile.FieldType.int)).before args0 about1 = true := code_word (m := ⟨11, 1⟩) (meth := k11m1) (c := k11c1) (by decide +kernel) rfl rfl rfl (by decide +kernel)
set_option maxRecDepth 65536 in
theorem w_c18 : (Jvm.Cond.code ({ cls := "java/lang/StringUTF16", name := "toBytes", desc := "([CII)[B" } : Jvm.MethodName) jdk_52_method_14_code (5 : Nat) (Option.some (Jvm.ClassFile.FieldType.array Jvm.ClassFile.FieldType.byte))).before args0 about1 = true := code_word (m := ⟨9, 6⟩) (meth := k9m6) (c := k9c6) (by decide +kernel) rfl rfl rfl (by decide +kernel)
set_option maxRecDepth 65536 in
theorem w_c19 : (Jvm.Cond.code ({ cls := "java/lang/StringUTF16", name := "newBytesFor", desc := "(I)[B" } : Jvm.MethodName) jdk_52_method_2_code (1 : Nat) (Option.some (Jvm.ClassFile.FieldType.array Jvm.ClassFile.FieldType.byte))).before args0 about1 = true := code_word (m := ⟨9, 1⟩) (meth := k9m1) (c := k9c1) (by decide +kernel) rfl rfl rfl (by decide +kernel)
set_option maxRecDepth 65536 in
theorem w_c20 : (Jvm.Cond.code ({ cls := "java/lang/StringUTF16", name := "newBytesLength", desc := "(I)I" } : Jvm.MethodName) jdk_52_method_3_code (1 : Nat) (Option.some Jvm.ClassFile.FieldType.int)).before args0 about1 = true := code_word (m := ⟨9, 2⟩) (meth := k9m2) (c := k9c2) (by decide +kernel) rfl rfl rfl (by decide +kernel)
set_option maxRecDepth 65536 in
theorem w_c21 : (Jvm.Cond.code ({ cls := "java/lang/StringUTF16", name := "putChar", desc := "([BII)V" } : Jvm.MethodName) jdk_52_method_4_code (3 : Nat) (Option.none : Option Jvm.ClassFile.FieldType)).before args0 about1 = true := code_word (m := ⟨9, 3⟩) (meth := k9m3) (c := k9c3) (by decide +kernel) rfl rfl rfl (by decide +kernel)
set_option maxRecDepth 65536 in
theorem w_c22 : (Jvm.Cond.code ({ cls := "java/lang/StringUTF16", name := "getChar", desc := "([BI)C" } : Jvm.MethodName) jdk_52_method_5_code (2 : Nat) (Option.some Jvm.ClassFile.FieldType.char)).before args0 about1 = true := code_word (m := ⟨9, 4⟩) (meth := k9m4) (c := k9c4) (by decide +kernel) rfl rfl rfl (by decide +kernel)
set_option maxRecDepth 65536 in
theorem w_c23 : (Jvm.Cond.code ({ cls := "java/lang/StringUTF16", name := "charAt", desc := "([BI)C" } : Jvm.MethodName) jdk_52_method_83_code (2 : Nat) (Option.some Jvm.ClassFile.FieldType.char)).before args0 about1 = true := code_word (m := ⟨9, 10⟩) (meth := k9m10) (c := k9c10) (by decide +kernel) rfl rfl rfl (by decide +kernel)
set_option maxRecDepth 65536 in
theorem w_c24 : (Jvm.Cond.code ({ cls := "java/lang/StringUTF16", name := "checkIndex", desc := "(I[B)V" } : Jvm.MethodName) jdk_52_method_91_code (2 : Nat) (Option.none : Option Jvm.ClassFile.FieldType)).before args0 about1 = true := code_word (m := ⟨9, 11⟩) (meth := k9m11) (c := k9c11) (by decide +kernel) rfl rfl rfl (by decide +kernel)
set_option maxRecDepth 65536 in
theorem w_c25 : (Jvm.Cond.code ({ cls := "java/lang/StringUTF16", name := "length", desc := "([B)I" } : Jvm.MethodName) jdk_52_method_6_code (1 : Nat) (Option.some Jvm.ClassFile.FieldType.int)).before args0 about1 = true := code_word (m := ⟨9, 5⟩) (meth := k9m5) (c := k9c5) (by decide +kernel) rfl rfl rfl (by decide +kernel)
def codes1 : List Jvm.Cond := [Jvm.Cond.code x code maxLocals ret, Jvm.Cond.code ({ cls := "com/example/runnymede/runnymede/TextReaderLookingAtPinLaw", name := "make", desc := "(ICCCC)Ljava/lang/String;" } : Jvm.MethodName) method_2_code (5 : Nat) (Option.some (Jvm.ClassFile.FieldType.object "java/lang/String")), Jvm.Cond.code ({ cls := "java/lang/String", name := "<init>", desc := "([C)V" } : Jvm.MethodName) jdk_42_method_3_code (2 : Nat) (Option.none : Option Jvm.ClassFile.FieldType), Jvm.Cond.code ({ cls := "java/lang/String", name := "<init>", desc := "([CIILjava/lang/Void;)V" } : Jvm.MethodName) jdk_42_method_149_code (6 : Nat) (Option.none : Option Jvm.ClassFile.FieldType), Jvm.Cond.code ({ cls := "java/lang/Object", name := "<init>", desc := "()V" } : Jvm.MethodName) object_method_1_code (1 : Nat) (Option.none : Option Jvm.ClassFile.FieldType), Jvm.Cond.code ({ cls := "com/example/runnymede/runnymede/TextReaderLookingAtPinLaw", name := "<init>", desc := "(Ljava/lang/String;Ljava/lang/String;)V" } : Jvm.MethodName) method_1_code (3 : Nat) (Option.none : Option Jvm.ClassFile.FieldType), Jvm.Cond.code ({ cls := "com/example/runnymede/runnymede/TextReader", name := "<init>", desc := "(Ljava/lang/String;Ljava/lang/String;)V" } : Jvm.MethodName) prog_52_method_1_code (3 : Nat) (Option.none : Option Jvm.ClassFile.FieldType), Jvm.Cond.code ({ cls := "com/example/runnymede/runnymede/TextReader", name := "lookingAt", desc := "(C)Z" } : Jvm.MethodName) prog_52_method_2_code (2 : Nat) (Option.some Jvm.ClassFile.FieldType.boolean), Jvm.Cond.code ({ cls := "java/lang/String", name := "length", desc := "()I" } : Jvm.MethodName) jdk_42_method_54_code (1 : Nat) (Option.some Jvm.ClassFile.FieldType.int), Jvm.Cond.code ({ cls := "java/lang/String", name := "coder", desc := "()B" } : Jvm.MethodName) jdk_42_method_152_code (1 : Nat) (Option.some Jvm.ClassFile.FieldType.byte), Jvm.Cond.code ({ cls := "java/lang/StringUTF16", name := "compress", desc := "([CII)[B" } : Jvm.MethodName) jdk_52_method_16_code (6 : Nat) (Option.some (Jvm.ClassFile.FieldType.array Jvm.ClassFile.FieldType.byte)), Jvm.Cond.code ({ cls := "java/lang/StringUTF16", name := "compress", desc := "([CI[BII)I" } : Jvm.MethodName) jdk_52_method_21_code (7 : Nat) (Option.some Jvm.ClassFile.FieldType.int), Jvm.Cond.code ({ cls := "java/lang/StringUTF16", name := "coderFromArrayLen", desc := "([BI)B" } : Jvm.MethodName) jdk_52_method_15_code (2 : Nat) (Option.some Jvm.ClassFile.FieldType.byte), Jvm.Cond.code ({ cls := "java/lang/String", name := "charAt", desc := "(I)C" } : Jvm.MethodName) jdk_42_method_56_code (2 : Nat) (Option.some Jvm.ClassFile.FieldType.char), Jvm.Cond.code ({ cls := "java/lang/String", name := "isLatin1", desc := "()Z" } : Jvm.MethodName) jdk_42_method_154_code (1 : Nat) (Option.some Jvm.ClassFile.FieldType.boolean), Jvm.Cond.code ({ cls := "java/lang/StringLatin1", name := "charAt", desc := "([BI)C" } : Jvm.MethodName) jdk_43_method_2_code (2 : Nat) (Option.some Jvm.ClassFile.FieldType.char), Jvm.Cond.code ({ cls := "java/lang/String", name := "checkIndex", desc := "(II)V" } : Jvm.MethodName) jdk_42_method_155_code (2 : Nat) (Option.none : Option Jvm.ClassFile.FieldType), Jvm.Cond.code ({ cls := "jdk/internal/util/Preconditions", name := "checkIndex", desc := "(IILjava/util/function/BiFunction;)I" } : Jvm.MethodName) jdk_41_method_11_code (3 : Nat) (Option.some Jvm.ClassFile.FieldType.int), Jvm.Cond.code ({ cls := "java/lang/StringUTF16", name := "toBytes", desc := "([CII)[B" } : Jvm.MethodName) jdk_52_method_14_code (5 : Nat) (Option.some (Jvm.ClassFile.FieldType.array Jvm.ClassFile.FieldType.byte)), Jvm.Cond.code ({ cls := "java/lang/StringUTF16", name := "newBytesFor", desc := "(I)[B" } : Jvm.MethodName) jdk_52_method_2_code (1 : Nat) (Option.some (Jvm.ClassFile.FieldType.array Jvm.ClassFile.FieldType.byte)), Jvm.Cond.code ({ cls := "java/lang/StringUTF16", name := "newBytesLength", desc := "(I)I" } : Jvm.MethodName) jdk_52_method_3_code (1 : Nat) (Option.some Jvm.ClassFile.FieldType.int), Jvm.Cond.code ({ cls := "java/lang/StringUTF16", name := "putChar", desc := "([BII)V" } : Jvm.MethodName) jdk_52_method_4_code (3 : Nat) (Option.none : Option Jvm.ClassFile.FieldType), Jvm.Cond.code ({ cls := "java/lang/StringUTF16", name := "getChar", desc := "([BI)C" } : Jvm.MethodName) jdk_52_method_5_code (2 : Nat) (Option.some Jvm.ClassFile.FieldType.char), Jvm.Cond.code ({ cls := "java/lang/StringUTF16", name := "charAt", desc := "([BI)C" } : Jvm.MethodName) jdk_52_method_83_code (2 : Nat) (Option.some Jvm.ClassFile.FieldType.char), Jvm.Cond.code ({ cls := "java/lang/StringUTF16", name := "checkIndex", desc := "(I[B)V" } : Jvm.MethodName) jdk_52_method_91_code (2 : Nat) (Option.none : Option Jvm.ClassFile.FieldType), Jvm.Cond.code ({ cls := "java/lang/StringUTF16", name := "length", desc := "([B)I" } : Jvm.MethodName) jdk_52_method_6_code (1 : Nat) (Option.some Jvm.ClassFile.FieldType.int)]
set_option maxRecDepth 65536 in
theorem codes_eq : words1.filter isCode = codes1 := rfl
theorem w_codes : ∀ c ∈ words1.filter isCode, c.before args0 about1 = true := by
  rw [codes_eq]
  intro c hc
  simp only [codes1, List.mem_cons, List.not_mem_nil, or_false] at hc
  rcases hc with rfl | rfl | rfl | rfl | rfl | rfl | rfl | rfl | rfl | rfl | rfl | rfl | rfl | rfl | rfl | rfl | rfl | rfl | rfl | rfl | rfl | rfl | rfl | rfl | rfl | rfl
  · exact w_c0
  · exact w_c1
  · exact w_c2
  · exact w_c3
  · exact w_c4
  · exact w_c5
  · exact w_c6
  · exact w_c7
  · exact w_c8
  · exact w_c9
  · exact w_c10
  · exact w_c11
  · exact w_c12
  · exact w_c13
  · exact w_c14
  · exact w_c15
  · exact w_c16
  · exact w_c17
  · exact w_c18
  · exact w_c19
  · exact w_c20
  · exact w_c21
  · exact w_c22
  · exact w_c23
  · exact w_c24
  · exact w_c25
set_option maxRecDepth 65536 in
theorem w_t1 : (words1.take 24).all (fun c => isCode c || c.before args0 about1) = true := by decide +kernel
set_option maxRecDepth 65536 in
theorem w_t2 : ((words1.drop 24).take 24).all (fun c => isCode c || c.before args0 about1) = true := by decide +kernel
set_option maxRecDepth 65536 in
theorem w_t3 : (((words1.drop 24).drop 24).take 24).all (fun c => isCode c || c.before args0 about1) = true := by decide +kernel
set_option maxRecDepth 65536 in
theorem w_t4 : ((((words1.drop 24).drop 24).drop 24).take 24).all (fun c => isCode c || c.before args0 about1) = true := by decide +kernel
set_option maxRecDepth 65536 in
theorem w_t5 : (((((words1.drop 24).drop 24).drop 24).drop 24).take 24).all (fun c => isCode c || c.before args0 about1) = true := by decide +kernel
set_option maxRecDepth 65536 in
theorem w_t6 : (((((words1.drop 24).drop 24).drop 24).drop 24).drop 24).all (fun c => isCode c || c.before args0 about1) = true := by decide +kernel
theorem w_tables : (allAtoms (Jvm.Cond.code x code maxLocals ret :: tables_1)).before args0 about1 = true := by
  rw [allAtoms_all]
  show words1.all (fun c => c.before args0 about1) = true
  refine all_split ?_ w_codes
  rw [← List.take_append_drop 24 words1, List.all_append, w_t1, ← List.take_append_drop 24 (words1.drop 24), List.all_append, w_t2, ← List.take_append_drop 24 ((words1.drop 24).drop 24), List.all_append, w_t3, ← List.take_append_drop 24 (((words1.drop 24).drop 24).drop 24), List.all_append, w_t4, ← List.take_append_drop 24 ((((words1.drop 24).drop 24).drop 24).drop 24), List.all_append, w_t5, w_t6]
  rfl
set_option maxRecDepth 65536 in
theorem w_rest : rest_1_c.before args0 about1 = true := by decide +kernel
set_option maxRecDepth 65536 in
theorem w_case : (Jvm.Cond.and given_1 narrow_1).before args0 about1 = true := by decide +kernel
set_option maxRecDepth 65536 in
theorem w_consts : constsHeld consts_1 about1 := Jvm.Lit.constsHeldB_iff.mp (by decide +kernel)
theorem w_applies : (headSpec (Jvm.Cond.code x code maxLocals ret :: tables_1) room_1).applies x e0.platform about1 = true :=
  (Spec.applies_iff w_frames).mpr ⟨w_running, w_runnable, w_alone, w_named, w_hears, w_ripe, w_room, w_tables⟩
theorem atStart : AtStart classFile x code maxLocals ret World_1 tables_1 room_1 Calls_1 rest_1 Pre_1 launch0 p0 e0 about1 theMethod args0 below0 :=
  ⟨lists_1, trivial, launch0.admits_env _ _ _, launch0.least_env, fairChoices_fair.cas, fairChoices_fair.clock, w_frames, w_args, w_heap, w_applies, ⟨w_consts, trivial⟩, w_rest, w_case⟩
end start1
theorem witness_1 : WitnessClaimed_1 := ⟨start1.p0, start1.e0, start1.about1, start1.theMethod, start1.args0, start1.below0, start1.atStart⟩
end Jvm.Pilot.@@N@@
