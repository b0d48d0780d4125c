import JvmDerived
import JvmDerived.Pilot.@@N@@Statement
import JvmDerived.Pilot.@@N@@Code
set_option linter.unusedVariables false
set_option linter.unusedSimpArgs false
namespace Jvm.RoadKit
open Sem ClassFile Op Lib Jvm.Stand Jvm.Free Jvm.LawKit
section Own
variable {p : Program} {l : Launch} {e : Env} {R : Room} {s : State} {m : MethodId} {args : Array Value} {below : List Frame} {meth : Method} {c : Code} {T : State} {locs : List Loc} {cells slots : Nat}
theorem retI (X : Stand p l e R s m args below meth c T locs cells slots) (hx : p.tables.exec = Jvm.exec) {pc : Nat} {Ls : Array Slot} {z : Int32} {rest : List Value} (hret : meth.sig.returnType = some .int) (hd : decode c.code pc = .ok (.ireturn, 1)) {fs : List Frame}
    (hl : ∀ (f : JFrame) (acts : List Action), f.method = m → f.locked = none → f.entered = [] → (doReturn e (T.setTop f) acts (some (.int z))).1 = T.setFrames fs) : Steps p.tables e below (T.setTop (mkF m pc Ls (.int z :: rest))) (T.setFrames fs) :=
  retOut X hx hret rfl (Or.inl ⟨rfl, Or.inl rfl, _, rfl⟩) hd hl
variable {Q : Option Value → Heap → List Loc → Prop} {kc ks : Nat} {S S' : State}
section H
variable {Z : State} {EL : List (String × Nat)} {QH : Option Value → Heap → List Loc → (Addr → Prop) → Prop} {a0 : Array Value} {h : Heap} {vm0 : Vm}
/-- a callee that may intern, at a site: what is Safe there goes in, what is Safe at its end comes out -/
theorem backOfY {y : MethodName} {bytes : ByteArray} {maxL : Nat} {ret : Option FieldType} {rm : Room} {len W : Nat} {as' : Array Value} {sf : List Addr}
    (hM : MetFree l y (head1 [Cond.code y bytes maxL ret] rm) (fun a U => a = as' ∧ Z.Warmed39 U.vm ∧ U.heap = h ∧ CHv Z EL U.vm h ∧ ∀ x ∈ sf, Safe Z EL U.vm h x) (fun _ _ _ _ _ => True) (fun _ U o U' => ∃ v L, o = .returned v ∧ QH v U'.heap L (Safe Z EL U'.vm U'.heap) ∧ CHr Z EL U.vm U.heap U'.vm U'.heap ∧ ReturnedEndW U o U' L rm.cells rm.slots))
    (hZ : Z.Warmed39 vm0) (wc : (Cond.code y bytes maxL ret).before a0 Z = true) (wz : (Cond.initialized y.cls).before a0 Z = true) (hf : rm.frames + 1 ≤ R.frames) (hl : W + (maxL + 11) + rm.locals ≤ R.locals) (hEL : EW Z a0 EL) (H : CHv Z EL vm0 h) (hs : ∀ x ∈ sf, Safe Z EL vm0 h x) (hlt : ∀ x ∈ sf, x < h.size) :
    BackS l R p e below (s.setVm vm0) args y len W (fun A a => a = as' ∧ A.U.heap = h ∧ A.cells + rm.cells ≤ R.cells ∧ A.slots + rm.slots ≤ R.slots)
      (fun A _ v B => ∃ L, QH v B.U.heap L (Safe Z EL B.U.vm B.U.heap) ∧ B.locs = A.locs ++ L ∧ B.cells = A.cells + rm.cells ∧ B.slots = A.slots + rm.slots ∧ CHr Z EL vm0 h B.U.vm B.U.heap) := by
  refine BackS.of_freeW (bytes := bytes) (maxL := maxL) (ret := ret) (E := fun _ first o t L k n => k = rm.cells ∧ n = rm.slots ∧ (∃ v, o = .returned v ∧ QH v t.heap L (Safe Z EL t.vm t.heap)) ∧ CHr Z EL first.vm first.heap t.vm t.heap) hM hf hl ?_ ?_ (fun _ _ _ _ _ _ _ _ _ => trivial) ?_ ?_
  · intro m meth c A a Y hp
    have hU : Z.Warmed39 A.U.vm := wtrans (s := s.setVm vm0) hZ Y.warmed
    exact ⟨by show (Cond.and _ .tt).before a A.U = true; rw [Cond.before_and, mv hU wc]; rfl, mv hU wc, mv hU wz, hp.2.2.1, hp.2.2.2⟩
  · intro m meth c A a g mk Y hp
    have q := CHv.at Y hZ hEL H
    exact ⟨hp.1, wtrans (s := s.setVm vm0) hZ Y.warmed, hp.2.1, q.1, fun x hx => q.safe (hlt x hx) (hs x hx)⟩
  · rintro _ _ _ _ ⟨v, L, h1, h2, h3, h4⟩
    exact ⟨L, _, _, h4, rfl, rfl, ⟨v, h1, h2⟩, h3⟩
  · rintro m meth c A a g mk v t L k n Y hp - - ⟨e1, e2, ⟨v', e3, e4⟩, e5⟩
    cases e3; subst e1 e2
    refine ⟨L, e4, rfl, rfl, rfl, (CHv.at Y hZ hEL H).trans ?_⟩
    rw [← hp.2.1]; exact e5
end H
theorem own_len {Z : State} {args : Array Value} {t : Term} {a : Addr} {c : Cell} {ty : FieldType} {z : Int32} (ev : t.eval args Z none [] Z = some (.ref a)) (A : Arr Z Z.heap a c ty) (h : (Cond.eq (.length t) (.int z)).value args Z none Z [] = some true) : c.slots.size < 2 ^ 31 ∧ c.slots.size.toInt32 = z := by
  have ha := A.fin (U := Z) (Vm.Alike.refl _)
  by_cases q : c.slots.size < 2 ^ 31
  · exact ⟨q, gotT (Cond.eq_ints (len_f ev ha q) (Term.int_eval z)) h⟩
  · simp [Cond.value, Term.eval, ev, ha, q] at h
theorem own_narref {t : FieldType} {w : Value} (h : w.isRef = true) : narrow t w = w := by
  rcases XT.refc h with rfl | ⟨r, rfl⟩ <;> cases t <;> rfl
theorem own_fitsref {t : FieldType} {w : Value} (ht : t.isReference = true) (h : w.isRef = true) : fits t w = true := by
  rcases XT.refc h with rfl | ⟨r, rfl⟩ <;> cases t <;> first | rfl | (cases ht)
theorem nar_c (x : Int32) : nar .char x.toUInt32.toUInt16.toUInt32.toInt32 = x.toUInt32.toUInt16.toUInt32.toInt32 := by
  have := XT.narrow_c x
  simpa [narrow, nar] using this
theorem nar_b (x : Int32) : nar .byte x.toInt8.toInt32 = x.toInt8.toInt32 := by
  have := XT.narrow_b x
  simpa [narrow, nar] using this
theorem nar_ite {P : Prop} [Decidable P] : nar .boolean (if P then (1 : Int32) else 0) = (if P then (1 : Int32) else 0) := by split <;> decide
theorem nar_ite' {P : Prop} [Decidable P] : nar .boolean (if P then (0 : Int32) else 1) = (if P then (0 : Int32) else 1) := by split <;> decide
theorem narrow_nar {t : FieldType} {z : Int32} (ht : t = .boolean ∨ t = .byte ∨ t = .char ∨ t = .short) (h : nar t z = z) : narrow t (.int z) = .int z := by
  have hn : narrow t (.int z) = .int (nar t z) := by rcases ht with rfl | rfl | rfl | rfl <;> rfl
  rw [hn, h]
end Own
/-- the run that stands in S ends as E says -/
def Runs (p : Program) (e : Env) (below : List Frame) (E : State → Outcome → Prop) (S : State) : Prop :=
  ∃ s₂ o, Steps p.tables e below S s₂ ∧ s₂.status = .running ∧ Ended s₂ below o ∧ E s₂ o
theorem Runs.by {p : Program} {e : Env} {below : List Frame} {E : State → Outcome → Prop} {S S' : State} (k : Runs p e below E S') (st : ∀ t, Steps p.tables e below S' t → Steps p.tables e below S t) : Runs p e below E S := by
  obtain ⟨s₂, o, h1, h2⟩ := k
  exact ⟨s₂, o, st _ h1, h2⟩
theorem Runs.tr {p : Program} {e : Env} {below : List Frame} {E : State → Outcome → Prop} {S S' : State} (k : Runs p e below E S') (st : Steps p.tables e below S S') : Runs p e below E S := by
  obtain ⟨s₂, o, h1, h2⟩ := k
  exact ⟨s₂, o, st.trans h1, h2⟩
def EndN (s : State) (Q : Option Value → Heap → List Loc → Prop) (kc ks : Nat) : State → Outcome → Prop := fun s₂ o => ∃ v L, o = .returned v ∧ Q v s₂.heap L ∧ FrameEnd s o s₂ L kc ks
def EndH (s Z : State) (EL : List (String × Nat)) (Q : Option Value → Heap → List Loc → (Addr → Prop) → Prop) (kc ks : Nat) : State → Outcome → Prop := fun s₂ o => ∃ v L, o = .returned v ∧ Q v s₂.heap L (Safe Z EL s₂.vm s₂.heap) ∧ CHr Z EL s.vm s.heap s₂.vm s₂.heap ∧ ReturnedEndW s o s₂ L kc ks
section W
variable {p : Program} {l : Launch} {e : Env} {Rm : Room} {s : State} {m : MethodId} {args : Array Value} {below : List Frame} {meth : Method} {c : Code} {T : State} {locs : List Loc} {cells slots : Nat} {E : State → Outcome → Prop} {pc pc' : Nat} {Ls : Array Slot} {st : List Value}
theorem w_done (X : Stand p l e Rm s m args below meth c T locs cells slots) (hlk : meth.locks = false) {Q : Option Value → Heap → List Loc → Prop} {kc ks : Nat} {h : Heap} {v : Option Value} {g : JFrame} (eT : T.heap = h) (hv : meth.sig.returnType = none → v = none)
    (hr : ∀ fs, (∀ (f : JFrame) (acts : List Action), f.method = m → f.locked = none → f.entered = [] → (doReturn e (T.setTop f) acts v).1 = T.setFrames fs) → Steps p.tables e below (T.setTop g) (T.setFrames fs)) (hc : cells ≤ kc) (hn : slots ≤ ks) (hQ : Q v h locs) : Runs p e below (EndN s Q kc ks) (T.setTop g) := by
  obtain ⟨fs, h1, hrun, hended, hW, hsame⟩ := X.leave hv hlk
  subst eT
  exact ⟨_, _, hr fs h1, hrun, hended, v, locs, rfl, hQ, ⟨_, rfl⟩, hW, hsame.mono hc hn⟩
theorem w_doneH {vm₁ : Vm} (X : Stand p l e Rm (s.setVm vm₁) m args below meth c T locs cells slots) (hlk : meth.locks = false) {Z : State} {a0 : Array Value} {EL : List (String × Nat)} {Q : Option Value → Heap → List Loc → (Addr → Prop) → Prop} {kc ks k0 : Nat} {h h0 : Heap} {v : Option Value} {g : JFrame} (eT : T.heap = h) (hh : s.heap = h0) (hZ : Z.Warmed39 vm₁) (hEL : EW Z a0 EL) (hS : s.Since vm₁ k0) (hk : k0 ≤ h.size) (C : CHr Z EL s.vm h0 vm₁ h) (hv : meth.sig.returnType = none → v = none)
    (hr : ∀ fs, (∀ (f : JFrame) (acts : List Action), f.method = m → f.locked = none → f.entered = [] → (doReturn e (T.setTop f) acts v).1 = T.setFrames fs) → Steps p.tables e below (T.setTop g) (T.setFrames fs)) (hc : cells ≤ kc) (hn : slots ≤ ks) (hQ : (∀ x, x < h.size → Safe Z EL vm₁ h x → Safe Z EL T.vm h x) → Q v h locs (Safe Z EL T.vm h)) : Runs p e below (EndH s Z EL Q kc ks) (T.setTop g) := by
  subst eT hh
  obtain ⟨fs, h1, hrun, hended, q1, q2, q3, q4⟩ := X.leaveW hS hk hv hlk
  have A := CHv.at X hZ hEL C.1
  exact ⟨_, _, hr fs h1, hrun, hended, v, locs, rfl, hQ (fun x hx S => A.safe hx S), C.trans A, q1, q2, q3, q4.mono hc hn⟩
theorem w_aload (X : Stand p l e Rm s m args below meth c T locs cells slots) (hx : p.tables.exec = Jvm.exec) {k : Nat} {v : Value} (hd : decode c.code pc = .ok (.aload k, 2)) (hl : Ls[k]? = some (.val v)) (hv : v.isRef = true) (hp : pc + 2 = pc') (K : Runs p e below E (T.setTop (mkF m pc' Ls (v :: st)))) : Runs p e below E (T.setTop (mkF m pc Ls st)) := by
  subst hp; exact K.by fun _ k => XS.aload X.here hx rfl hd hl hv k
theorem w_aloadN (X : Stand p l e Rm s m args below meth c T locs cells slots) (hx : p.tables.exec = Jvm.exec) {k : Fin 4} {v : Value} (hd : decode c.code pc = .ok (.aload_n k, 1)) (hl : Ls[k.val]? = some (.val v)) (hv : v.isRef = true) (hp : pc + 1 = pc') (K : Runs p e below E (T.setTop (mkF m pc' Ls (v :: st)))) : Runs p e below E (T.setTop (mkF m pc Ls st)) := by
  subst hp; exact K.by fun _ k => XS.aloadN X.here hx rfl hd hl hv k
theorem w_iload (X : Stand p l e Rm s m args below meth c T locs cells slots) (hx : p.tables.exec = Jvm.exec) {k : Nat} {v : Int32} (hd : decode c.code pc = .ok (.iload k, 2)) (hl : Ls[k]? = some (.val (.int v))) (hp : pc + 2 = pc') (K : Runs p e below E (T.setTop (mkF m pc' Ls (.int v :: st)))) : Runs p e below E (T.setTop (mkF m pc Ls st)) := by
  subst hp; exact K.by fun _ k => XS.iload X.here hx rfl hd hl k
theorem w_iloadN (X : Stand p l e Rm s m args below meth c T locs cells slots) (hx : p.tables.exec = Jvm.exec) {k : Fin 4} {v : Int32} (hd : decode c.code pc = .ok (.iload_n k, 1)) (hl : Ls[k.val]? = some (.val (.int v))) (hp : pc + 1 = pc') (K : Runs p e below E (T.setTop (mkF m pc' Ls (.int v :: st)))) : Runs p e below E (T.setTop (mkF m pc Ls st)) := by
  subst hp; exact K.by fun _ k => XS.iloadN X.here hx rfl hd hl k
theorem w_istore (X : Stand p l e Rm s m args below meth c T locs cells slots) (hx : p.tables.exec = Jvm.exec) {k : Nat} {x : Int32} {L' : Array Slot} (hd : decode c.code pc = .ok (.istore k, 2)) (hl : storeLocals Ls k (.int x) = some L') (hp : pc + 2 = pc') (K : Runs p e below E (T.setTop (mkF m pc' L' st))) : Runs p e below E (T.setTop (mkF m pc Ls (.int x :: st))) := by
  subst hp; exact K.by fun _ k => XS.istore X.here hx rfl hd rfl hl k
theorem w_istoreN (X : Stand p l e Rm s m args below meth c T locs cells slots) (hx : p.tables.exec = Jvm.exec) {k : Fin 4} {x : Int32} {L' : Array Slot} (hd : decode c.code pc = .ok (.istore_n k, 1)) (hl : storeLocals Ls k.val (.int x) = some L') (hp : pc + 1 = pc') (K : Runs p e below E (T.setTop (mkF m pc' L' st))) : Runs p e below E (T.setTop (mkF m pc Ls (.int x :: st))) := by
  subst hp; exact K.by fun _ k => XS.istoreN X.here hx rfl hd rfl hl k
theorem w_astore (X : Stand p l e Rm s m args below meth c T locs cells slots) (hx : p.tables.exec = Jvm.exec) {k : Nat} {x : Value} {L' : Array Slot} (hd : decode c.code pc = .ok (.astore k, 2)) (hv : x.isRef = true) (hl : storeLocals Ls k x = some L') (hp : pc + 2 = pc') (K : Runs p e below E (T.setTop (mkF m pc' L' st))) : Runs p e below E (T.setTop (mkF m pc Ls (x :: st))) := by
  subst hp; exact K.by fun _ k => XS.astore X.here hx rfl hd rfl hv hl k
theorem w_astoreN (X : Stand p l e Rm s m args below meth c T locs cells slots) (hx : p.tables.exec = Jvm.exec) {k : Fin 4} {x : Value} {L' : Array Slot} (hd : decode c.code pc = .ok (.astore_n k, 1)) (hv : x.isRef = true) (hl : storeLocals Ls k.val x = some L') (hp : pc + 1 = pc') (K : Runs p e below E (T.setTop (mkF m pc' L' st))) : Runs p e below E (T.setTop (mkF m pc Ls (x :: st))) := by
  subst hp; exact K.by fun _ k => XS.astoreN X.here hx rfl hd rfl hv hl k
theorem w_iconst (X : Stand p l e Rm s m args below meth c T locs cells slots) (hx : p.tables.exec = Jvm.exec) {i : Int} {v : Int32} (hd : decode c.code pc = .ok (.iconst i, 1)) (hv : Int32.ofInt i = v) (hp : pc + 1 = pc') (K : Runs p e below E (T.setTop (mkF m pc' Ls (.int v :: st)))) : Runs p e below E (T.setTop (mkF m pc Ls st)) := by
  subst hp; exact K.by fun _ k => XT.iconstV X.here hx rfl v hd hv k
theorem w_bipush (X : Stand p l e Rm s m args below meth c T locs cells slots) (hx : p.tables.exec = Jvm.exec) {i : Int} {v : Int32} (hd : decode c.code pc = .ok (.bipush i, 2)) (hv : (Int8.ofInt i).toInt32 = v) (hp : pc + 2 = pc') (K : Runs p e below E (T.setTop (mkF m pc' Ls (.int v :: st)))) : Runs p e below E (T.setTop (mkF m pc Ls st)) := by
  subst hp; exact K.by fun _ k => XT.bipushV X.here hx rfl v hd hv k
theorem w_sipush (X : Stand p l e Rm s m args below meth c T locs cells slots) (hx : p.tables.exec = Jvm.exec) {i : Int} {v : Int32} (hd : decode c.code pc = .ok (.sipush i, 3)) (hv : (Int16.ofInt i).toInt32 = v) (hp : pc + 3 = pc') (K : Runs p e below E (T.setTop (mkF m pc' Ls (.int v :: st)))) : Runs p e below E (T.setTop (mkF m pc Ls st)) := by
  subst hp; exact K.by fun _ k => XT.sipushV X.here hx rfl v hd hv k
theorem w_null (X : Stand p l e Rm s m args below meth c T locs cells slots) (hx : p.tables.exec = Jvm.exec)  (hd : decode c.code pc = .ok (.aconst_null, 1))  (hp : pc + 1 = pc') (K : Runs p e below E (T.setTop (mkF m pc' Ls (.null :: st)))) : Runs p e below E (T.setTop (mkF m pc Ls st)) := by
  subst hp; exact K.by fun _ k => XS.aconstNull X.here hx rfl hd k
theorem w_iand (X : Stand p l e Rm s m args below meth c T locs cells slots) (hx : p.tables.exec = Jvm.exec) {x y : Int32} (hd : decode c.code pc = .ok (.iand, 1))  (hp : pc + 1 = pc') (K : Runs p e below E (T.setTop (mkF m pc' Ls (.int (x &&& y) :: st)))) : Runs p e below E (T.setTop (mkF m pc Ls (.int y :: .int x :: st))) := by
  subst hp; exact K.by fun _ k => XS.iand X.here hx rfl hd rfl k
theorem w_i2b (X : Stand p l e Rm s m args below meth c T locs cells slots) (hx : p.tables.exec = Jvm.exec) {x : Int32} (hd : decode c.code pc = .ok (.i2b, 1))  (hp : pc + 1 = pc') (K : Runs p e below E (T.setTop (mkF m pc' Ls (.int (x.toInt8.toInt32) :: st)))) : Runs p e below E (T.setTop (mkF m pc Ls (.int x :: st))) := by
  subst hp; exact K.by fun _ k => XS.i2b X.here hx rfl hd rfl k
theorem w_i2c (X : Stand p l e Rm s m args below meth c T locs cells slots) (hx : p.tables.exec = Jvm.exec) {x : Int32} (hd : decode c.code pc = .ok (.i2c, 1))  (hp : pc + 1 = pc') (K : Runs p e below E (T.setTop (mkF m pc' Ls (.int (x.toUInt32.toUInt16.toUInt32.toInt32) :: st)))) : Runs p e below E (T.setTop (mkF m pc Ls (.int x :: st))) := by
  subst hp; exact K.by fun _ k => XS.i2c X.here hx rfl hd rfl k
theorem w_iushr (X : Stand p l e Rm s m args below meth c T locs cells slots) (hx : p.tables.exec = Jvm.exec) {x y : Int32} (hd : decode c.code pc = .ok (.iushr, 1))  (hp : pc + 1 = pc') (K : Runs p e below E (T.setTop (mkF m pc' Ls (.int ((x.toUInt32 >>> (y &&& 31).toUInt32).toInt32) :: st)))) : Runs p e below E (T.setTop (mkF m pc Ls (.int y :: .int x :: st))) := by
  subst hp; exact K.by fun _ k => XS.iushr X.here hx rfl hd rfl k
theorem w_dup (X : Stand p l e Rm s m args below meth c T locs cells slots) (hx : p.tables.exec = Jvm.exec) {x : Value} (hd : decode c.code pc = .ok (.dup, 1)) (hc : x.category = 1) (hp : pc + 1 = pc') (K : Runs p e below E (T.setTop (mkF m pc' Ls (x :: x :: st)))) : Runs p e below E (T.setTop (mkF m pc Ls (x :: st))) := by
  subst hp; exact K.by fun _ k => XS.dup X.here hx rfl hd rfl hc k
theorem w_goto (X : Stand p l e Rm s m args below meth c T locs cells slots) (hx : p.tables.exec = Jvm.exec) {o : Int} (hd : decode c.code pc = .ok (.goto o, 3))  (ho : 0 ≤ (pc : Int) + o) (hp : ((pc : Int) + o).toNat = pc') (K : Runs p e below E (T.setTop (mkF m pc' Ls st))) : Runs p e below E (T.setTop (mkF m pc Ls st)) := by
  exact K.by fun _ k => XS.goto X.here hx rfl rfl hd ho hp k
theorem w_ifY (X : Stand p l e Rm s m args below meth c T locs cells slots) (hx : p.tables.exec = Jvm.exec) {cd : ClassFile.Cond} {x : Int32} {o : Int} (hd : decode c.code pc = .ok (.ifCond cd o, 3)) (hc : if_icmp.holds cd x 0 = true) (ho : 0 ≤ (pc : Int) + o) (hp : ((pc : Int) + o).toNat = pc') (K : Runs p e below E (T.setTop (mkF m pc' Ls st))) : Runs p e below E (T.setTop (mkF m pc Ls (.int x :: st))) := by
  exact K.by fun _ k => XS.ifYes X.here hx rfl rfl hd rfl ((if0 _ _).trans hc) ho hp k
theorem w_ifN (X : Stand p l e Rm s m args below meth c T locs cells slots) (hx : p.tables.exec = Jvm.exec) {cd : ClassFile.Cond} {x : Int32} {o : Int} (hd : decode c.code pc = .ok (.ifCond cd o, 3)) (hc : if_icmp.holds cd x 0 = false) (hp : pc + 3 = pc') (K : Runs p e below E (T.setTop (mkF m pc' Ls st))) : Runs p e below E (T.setTop (mkF m pc Ls (.int x :: st))) := by
  subst hp; exact K.by fun _ k => XS.ifNo X.here hx rfl hd rfl ((if0 _ _).trans hc) k
theorem w_icY (X : Stand p l e Rm s m args below meth c T locs cells slots) (hx : p.tables.exec = Jvm.exec) {cd : ClassFile.Cond} {x y : Int32} {o : Int} (hd : decode c.code pc = .ok (.if_icmp cd o, 3)) (hc : if_icmp.holds cd x y = true) (ho : 0 ≤ (pc : Int) + o) (hp : ((pc : Int) + o).toNat = pc') (K : Runs p e below E (T.setTop (mkF m pc' Ls st))) : Runs p e below E (T.setTop (mkF m pc Ls (.int y :: .int x :: st))) := by
  exact K.by fun _ k => XS.icmpYes X.here hx rfl rfl hd rfl hc ho hp k
theorem w_icN (X : Stand p l e Rm s m args below meth c T locs cells slots) (hx : p.tables.exec = Jvm.exec) {cd : ClassFile.Cond} {x y : Int32} {o : Int} (hd : decode c.code pc = .ok (.if_icmp cd o, 3)) (hc : if_icmp.holds cd x y = false) (hp : pc + 3 = pc') (K : Runs p e below E (T.setTop (mkF m pc' Ls st))) : Runs p e below E (T.setTop (mkF m pc Ls (.int y :: .int x :: st))) := by
  subst hp; exact K.by fun _ k => XS.icmpNo X.here hx rfl hd rfl hc k
theorem w_acmp (X : Stand p l e Rm s m args below meth c T locs cells slots) (hx : p.tables.exec = Jvm.exec) {cd : ACond} {x y : Value} {o : Int} {same : Bool} (hd : decode c.code pc = .ok (.if_acmp cd o, 3)) (h1 : x.isRef = true) (h2 : y.isRef = true) (hq : decide (x = y) = same) (ho : 0 ≤ (pc : Int) + o) (hp : pc' = if acV cd same = true then ((pc : Int) + o).toNat else pc + 3) (K : Runs p e below E (T.setTop (mkF m pc' Ls st))) : Runs p e below E (T.setTop (mkF m pc Ls (y :: x :: st))) := by
  exact K.by fun _ k => Jvm.RoadKit.acmp (g := mkF m pc Ls _) X hx rfl h1 h2 rfl hd rfl hq ho hp k
theorem w_getF (X : Stand p l e Rm s m args below meth c T locs cells slots) (hx : p.tables.exec = Jvm.exec) {Z : State} {a0 : Array Value} {h : Heap} {own R0 O n d : String} (host : String) {index : Nat} {a : Addr} {v : Value} (hZ : Z.Warmed39 s.vm) (hown : s.vm.findClass own = some m.cls) (w : (Cond.fieldLink own index R0 n d).before a0 Z = true ∨ (Cond.fieldLinkNest own index R0 n d host).before a0 Z = true) (via : Via Z R0 O n d) (eT : T.heap = h) (F : Fld Z h a O n d v) (hd : decode c.code pc = .ok (.getfield index, 3)) (hp : pc + 3 = pc') (K : ∀ T' : State, Stand p l e Rm s m args below meth c T' locs cells slots → T'.heap = h → Runs p e below E (T'.setTop (mkF m pc' Ls (v :: st)))) : Runs p e below E (T.setTop (mkF m pc Ls (.ref a :: st))) := by
  subst hp
  obtain ⟨T1, X1, e1, st1⟩ := getF X hx hZ hown (host := host) w via eT F (g := mkF m pc Ls (.ref a :: st)) rfl rfl hd
  exact (K T1 X1 e1).by st1
theorem w_getS (X : Stand p l e Rm s m args below meth c T locs cells slots) (hx : p.tables.exec = Jvm.exec) {Z : State} {a0 : Array Value} {h : Heap} {own R0 O n d : String} (host : String) {index : Nat} {v : Value} (hZ : Z.Warmed39 s.vm) (hown : s.vm.findClass own = some m.cls) (w : (Cond.fieldLink own index R0 n d).before a0 Z = true ∨ (Cond.fieldLinkNest own index R0 n d host).before a0 Z = true) (via : Via Z R0 O n d) (eT : T.heap = h) (F : Sta Z h O n d v) (hd : decode c.code pc = .ok (.getstatic index, 3)) (hp : pc + 3 = pc') (K : ∀ T' : State, Stand p l e Rm s m args below meth c T' locs cells slots → T'.heap = h → Runs p e below E (T'.setTop (mkF m pc' Ls (v :: st)))) : Runs p e below E (T.setTop (mkF m pc Ls st)) := by
  subst hp
  obtain ⟨T1, X1, e1, st1⟩ := getS2 X hx hZ hown (host := host) w via eT F (g := mkF m pc Ls st) rfl hd
  exact (K T1 X1 e1).by st1
theorem w_putF (X : Stand p l e Rm s m args below meth c T locs cells slots) (hx : p.tables.exec = Jvm.exec) {Z : State} {a0 : Array Value} {h : Heap} {own R0 O n d C : String} (host : String) {index kk : Nat} {ty : FieldType} {a : Addr} {v old : Value} (hZ : Z.Warmed39 s.vm) (hown : s.vm.findClass own = some m.cls) (w : (Cond.fieldLink own index R0 n d).before a0 Z = true ∨ (Cond.fieldLinkNest own index R0 n d host).before a0 Z = true) (via : Via Z R0 O n d) (eT : T.heap = h) (F : Fld Z h a O n d old) (Ex : Exa Z h a C) (Ly : (Cond.lays C O n d).before a0 Z = true ∨ ((Cond.laysFinal C O n d).before a0 Z = true ∧ own = O ∧ meth.name = "<init>")) (wi : (Cond.instantiable C kk).before a0 Z = true) (hty : parseFieldDescriptor d = some ty) (hn : narrow ty v = v) (hf : fits ty v = true) (hd : decode c.code pc = .ok (.putfield index, 3)) (hp : pc + 3 = pc') (K : ∀ (T' : State) (h' : Heap), Stand p l e Rm s m args below meth c T' (locs ++ [⟨a, slotOf Z O n d⟩]) cells slots → T'.heap = h' → Wr h h' a (slotOf Z O n d) v → Runs p e below E (T'.setTop (mkF m pc' Ls st))) : Runs p e below E (T.setTop (mkF m pc Ls (v :: .ref a :: st))) := by
  subst hp
  obtain ⟨T1, h1, X1, e1, W1, st1⟩ := putF X hx hZ hown (host := host) w via eT F Ex Ly wi hty hn hf (g := mkF m pc Ls (v :: .ref a :: st)) rfl rfl hd
  exact (K T1 h1 X1 e1 W1).by st1
theorem w_putFN (X : Stand p l e Rm s m args below meth c T locs cells slots) (hx : p.tables.exec = Jvm.exec) {Z : State} {a0 : Array Value} {h : Heap} {own R0 O n d C : String} {index kk : Nat} {ty : FieldType} {a : Addr} {v v' old : Value} (hZ : Z.Warmed39 s.vm) (hown : s.vm.findClass own = some m.cls) (w : (Cond.fieldLink own index R0 n d).before a0 Z = true) (via : Via Z R0 O n d) (eT : T.heap = h) (F : Fld Z h a O n d old) (Ex : Exa Z h a C) (Ly : (Cond.lays C O n d).before a0 Z = true ∨ ((Cond.laysFinal C O n d).before a0 Z = true ∧ own = O ∧ meth.name = "<init>")) (wi : (Cond.instantiable C kk).before a0 Z = true) (hty : parseFieldDescriptor d = some ty) (hn : narrow ty v = v') (hf : fits ty v' = true) (hd : decode c.code pc = .ok (.putfield index, 3)) (hp : pc + 3 = pc') (K : ∀ (T' : State) (h' : Heap), Stand p l e Rm s m args below meth c T' (locs ++ [⟨a, slotOf Z O n d⟩]) cells slots → T'.heap = h' → Wr h h' a (slotOf Z O n d) v' → Runs p e below E (T'.setTop (mkF m pc' Ls st))) : Runs p e below E (T.setTop (mkF m pc Ls (v :: .ref a :: st))) := by
  subst hp
  obtain ⟨T1, h1, X1, e1, W1, st1⟩ := putFN X hx hZ hown w via eT F Ex Ly wi hty hn hf (g := mkF m pc Ls (v :: .ref a :: st)) rfl rfl hd
  exact (K T1 h1 X1 e1 W1).by st1
theorem w_new (X : Stand p l e Rm s m args below meth c T locs cells slots) (hx : p.tables.exec = Jvm.exec) {Z : State} {a0 : Array Value} {h : Heap} {own C : String} {index n : Nat} (hZ : Z.Warmed39 s.vm) (hown : s.vm.findClass own = some m.cls) (w : (Cond.classLink own index C).before a0 Z = true) (wi : (Cond.instantiable C n).before a0 Z = true) (wz : (Cond.initialized C).before a0 Z = true) (eT : T.heap = h) (hd : decode c.code pc = .ok (.new index, 3)) (hc : cells + 1 ≤ Rm.cells) (hl : slots + n ≤ Rm.slots) (hp : pc + 3 = pc') (K : ∀ (T' : State) (h' : Heap) (b : Addr), Stand p l e Rm s m args below meth c T' locs (cells + 1) (slots + n) → T'.heap = h' → Ext h h' → b = h.size → Exa Z h' b C → (∀ {O nm d : String} {ty : FieldType}, Laid Z a0 C O nm d → parseFieldDescriptor d = some ty → Fld Z h' b O nm d (defaultValue ty)) → Runs p e below E (T'.setTop (mkF m pc' Ls (.ref b :: st)))) : Runs p e below E (T.setTop (mkF m pc Ls st)) := by
  subst hp
  obtain ⟨T1, h1, X1, e1, E1, A1, D1, -, st1⟩ := newO X hx hZ hown w wi wz eT (g := mkF m pc Ls st) rfl hd hc hl
  exact (K T1 h1 _ X1 e1 E1 rfl A1 D1).by st1
theorem w_newP (X : Stand p l e Rm s m args below meth c T locs cells slots) (hx : p.tables.exec = Jvm.exec) {Z : State} {a0 : Array Value} {h : Heap} (aty : ArrayType) (ty : FieldType) {n : Int32} (cap : Nat) (hty : newarray.typeOf aty = ty) (hZ : Z.Warmed39 s.vm) (w : (Cond.arrayClass ty).before a0 Z = true) (eT : T.heap = h) (hd : decode c.code pc = .ok (.newarray aty, 2)) (hn : ¬ n < 0) (hcap : n.toNatClampNeg ≤ cap) (hb : cap * 8 ≤ 536870912) (hc : cells + 1 ≤ Rm.cells) (hl : slots + cap ≤ Rm.slots) (hp : pc + 2 = pc') (K : ∀ (T' : State) (h' : Heap) (k : ClassId) (b : Addr), Stand p l e Rm s m args below meth c T' locs (cells + 1) (slots + cap) → T'.heap = h' → Ext h h' → b = h.size → Arr Z h' b (newA k ty n) ty → Runs p e below E (T'.setTop (mkF m pc' Ls (.ref b :: st)))) : Runs p e below E (T.setTop (mkF m pc Ls (.int n :: st))) := by
  subst hp
  subst hty
  obtain ⟨T1, h1, k1, X1, e1, E1, A1, st1⟩ := newP X hx hZ w eT (g := mkF m pc Ls (.int n :: st)) rfl hd rfl hn hcap hb hc hl
  exact (K T1 h1 k1 _ X1 e1 E1 rfl A1).by st1
theorem w_stC (X : Stand p l e Rm s m args below meth c T locs cells slots) (hx : p.tables.exec = Jvm.exec) {Z : State} {h : Heap} {a : Addr} {cl : Cell} {j : Int32} {x : Int32} (hZ : Z.Warmed39 s.vm) (eT : T.heap = h) (A : Arr Z h a cl .char) (hj : ¬ (j < 0 ∨ cl.slots.size ≤ j.toNatClampNeg)) (hd : decode c.code pc = .ok (.castore, 1)) (hp : pc + 1 = pc') (K : ∀ (T' : State) (h' : Heap), Stand p l e Rm s m args below meth c T' (locs ++ [⟨a, j.toNatClampNeg⟩]) cells slots → T'.heap = h' → Wr h h' a j.toNatClampNeg (.int (nar .char x)) → Runs p e below E (T'.setTop (mkF m pc' Ls st))) : Runs p e below E (T.setTop (mkF m pc Ls (.int x :: .int j :: .ref a :: st))) := by
  subst hp
  obtain ⟨T1, h1, X1, e1, W1, st1⟩ := stC X hx hZ eT A (j := j) hj (g := mkF m pc Ls (.int x :: .int j :: .ref a :: st)) rfl rfl hd
  exact (K T1 h1 X1 e1 W1).by st1
theorem w_stB (X : Stand p l e Rm s m args below meth c T locs cells slots) (hx : p.tables.exec = Jvm.exec) {Z : State} {h : Heap} {a : Addr} {cl : Cell} {j : Int32} {x : Int32} (hZ : Z.Warmed39 s.vm) (eT : T.heap = h) (A : Arr Z h a cl .byte) (hj : ¬ (j < 0 ∨ cl.slots.size ≤ j.toNatClampNeg)) (hd : decode c.code pc = .ok (.bastore, 1)) (hp : pc + 1 = pc') (K : ∀ (T' : State) (h' : Heap), Stand p l e Rm s m args below meth c T' (locs ++ [⟨a, j.toNatClampNeg⟩]) cells slots → T'.heap = h' → Wr h h' a j.toNatClampNeg (.int (nar .byte x)) → Runs p e below E (T'.setTop (mkF m pc' Ls st))) : Runs p e below E (T.setTop (mkF m pc Ls (.int x :: .int j :: .ref a :: st))) := by
  subst hp
  obtain ⟨T1, h1, X1, e1, W1, st1⟩ := stB X hx hZ eT A (j := j) hj (g := mkF m pc Ls (.int x :: .int j :: .ref a :: st)) rfl rfl hd
  exact (K T1 h1 X1 e1 W1).by st1
theorem w_initO (X : Stand p l e Rm s m args below meth c T locs cells slots) (hx : p.tables.exec = Jvm.exec) {Z : State} {a0 : Array Value} {h : Heap} {own : String} {index : Nat} {a : Addr} (W : Nat) (hZ : Z.Warmed39 s.vm) (hown : s.vm.findClass own = some m.cls) (w1 : (Cond.methodLink own index Lib.objectInit).before a0 Z = true) (w2 : (Cond.instanceMethod Lib.objectInit).before a0 Z = true) (w3 : (Cond.code Lib.objectInit ⟨#[0xb1]⟩ 1 none).before a0 Z = true) (eT : T.heap = h) (hsz : Ls.size = c.maxLocals) (hd : decode c.code pc = .ok (.invokespecial index, 3)) (hf : 1 ≤ Rm.frames) (hW : (st.map fun v => v.category).sum ≤ W) (hl : W + 12 ≤ Rm.locals) (hp : pc + 3 = pc') (K : ∀ T' : State, Stand p l e Rm s m args below meth c T' locs cells slots → T'.heap = h → Runs p e below E (T'.setTop (mkF m pc' Ls st))) : Runs p e below E (T.setTop (mkF m pc Ls (.ref a :: st))) := by
  subst hp
  obtain ⟨T1, X1, e1, st1⟩ := initO X hx hZ hown w1 w2 w3 eT (g := mkF m pc Ls (.ref a :: st)) rfl hsz rfl hd hf (W := W) (by show 2 * 0 + _ ≤ _; omega) hl
  exact (K T1 X1 e1).by st1
theorem w_static (X : Stand p l e Rm s m args below meth c T locs cells slots) (hx : p.tables.exec = Jvm.exec) {stk : List Value} {own : String} {index : Nat} {y : MethodName} {bytes : ByteArray} {maxL : Nat} {ret : Option FieldType} {W : Nat} {Pre : Pt → Array Value → Prop} {Post : Pt → Array Value → Option Value → Pt → Prop} (hown : s.vm.findClass own = some m.cls) (hlink : (Cond.methodLink own index y).before args s = true) (hstat : (Cond.static y).before args s = true) (hinit : (Cond.initialized y.cls).before args s = true) (hcode : (Cond.code y bytes maxL ret).before args s = true) (hy : y.cls ≠ "java/lang/invoke/MethodHandle" ∧ y.cls ≠ "java/lang/invoke/VarHandle") (hK : Back l Rm p e below s args y 3 W Pre Post) (hsz : Ls.size = c.maxLocals) (argsL : List Value) (hlen : ∀ sig, parseMethodDescriptor y.desc = some sig → argsL.length = sig.parameters.length) (hst : stk = argsL.reverse ++ st) (hW : (st.map fun v => v.category).sum ≤ W) (hd : decode c.code pc = .ok (.invokestatic index, 3)) (hpre : ∀ vm₁, s.WarmedH vm₁ → Pre ⟨T.setVm vm₁, locs, cells, slots⟩ argsL.toArray) (hp : pc + 3 = pc') (K : ∀ (v : Option Value) (vm₁ : Vm) (B : Pt), Stand p l e Rm s m args below meth c B.U B.locs B.cells B.slots → Post ⟨T.setVm vm₁, locs, cells, slots⟩ argsL.toArray v B → Runs p e below E (B.U.setTop (mkF m pc' Ls (v.toList ++ st)))) : Runs p e below E (T.setTop (mkF m pc Ls stk)) := by
  subst hp
  obtain ⟨v1, vm1, B1, -, X1, q1, st1⟩ := Jvm.LawKit.callS X hx hown hlink hstat hinit hcode hy hK (g := mkF m pc Ls stk) rfl hsz (argsL := argsL) (rest := st) hlen hst (by show 2 * 0 + _ ≤ _; omega) hd hpre
  exact (K v1 vm1 B1 X1 q1).by st1
theorem w_special (X : Stand p l e Rm s m args below meth c T locs cells slots) (hx : p.tables.exec = Jvm.exec) {stk : List Value} {own : String} {index : Nat} {y : MethodName} {bytes : ByteArray} {maxL : Nat} {a : Addr} {W : Nat} {Pre : Pt → Array Value → Prop} {Post : Pt → Array Value → Option Value → Pt → Prop} (hy1 : y.name = "<init>") (hown : s.vm.findClass own = some m.cls) (hlink : (Cond.methodLink own index y).before args s = true) (hinst : (Cond.instanceMethod y).before args s = true) (hcode : (Cond.code y bytes maxL none).before args s = true) (hy : y.cls ≠ "java/lang/invoke/MethodHandle" ∧ y.cls ≠ "java/lang/invoke/VarHandle") (hK : Back l Rm p e below s args y 3 W Pre Post) (hsz : Ls.size = c.maxLocals) (argsL : List Value) (hlen : ∀ sig, parseMethodDescriptor y.desc = some sig → argsL.length = sig.parameters.length) (hst : stk = argsL.reverse ++ .ref a :: st) (hW : (st.map fun v => v.category).sum ≤ W) (hd : decode c.code pc = .ok (.invokespecial index, 3)) (hpre : ∀ vm₁, s.WarmedH vm₁ → Pre ⟨T.setVm vm₁, locs, cells, slots⟩ (.ref a :: argsL).toArray) (hp : pc + 3 = pc') (K : ∀ (v : Option Value) (vm₁ : Vm) (B : Pt), Stand p l e Rm s m args below meth c B.U B.locs B.cells B.slots → Post ⟨T.setVm vm₁, locs, cells, slots⟩ (.ref a :: argsL).toArray v B → Runs p e below E (B.U.setTop (mkF m pc' Ls (v.toList ++ st)))) : Runs p e below E (T.setTop (mkF m pc Ls stk)) := by
  subst hp
  obtain ⟨v1, vm1, B1, -, X1, q1, st1⟩ := X.specialBack hx hy1 hown hlink hinst hcode hy hK (g := mkF m pc Ls stk) rfl hsz (Steps.refl _) (a := a) (argsL := argsL) (rest := st) hlen hst (by show 2 * 0 + _ ≤ _; omega) hd hpre
  exact (K v1 vm1 B1 X1 q1).tr st1
theorem w_virtual (X : Stand p l e Rm s m args below meth c T locs cells slots) (hx : p.tables.exec = Jvm.exec) {stk : List Value} {own C : String} {index : Nat} {y z : MethodName} {b : Addr} {cB : ClassId} {W : Nat} {Pre : Pt → Array Value → Prop} {Post : Pt → Array Value → Option Value → Pt → Prop} (hown : s.vm.findClass own = some m.cls) (hlink : (Cond.methodLink own index y).before args s = true) (hdecl : (Cond.declares y).before args s = true) (hnf : NotFace s y) (hsel : (Cond.selects C y z).before args s = true) (hinst : (Cond.instanceMethod z).before args s = true) (hy : y.cls ≠ "java/lang/invoke/MethodHandle" ∧ y.cls ≠ "java/lang/invoke/VarHandle") (hK : Back l Rm p e below s args z 3 W Pre Post) (hcB : s.vm.findClass C = some cB) (hrecv : IsOf cB T b) (hsz : Ls.size = c.maxLocals) (argsL : List Value) (hlen : ∀ sig, parseMethodDescriptor y.desc = some sig → argsL.length = sig.parameters.length) (hst : stk = argsL.reverse ++ .ref b :: st) (hW : (st.map fun v => v.category).sum ≤ W) (hd : decode c.code pc = .ok (.invokevirtual index, 3)) (hpre : ∀ vm₁, s.WarmedH vm₁ → Pre ⟨T.setVm vm₁, locs, cells, slots⟩ (.ref b :: argsL).toArray) (hp : pc + 3 = pc') (K : ∀ (v : Option Value) (vm₁ : Vm) (B : Pt), Stand p l e Rm s m args below meth c B.U B.locs B.cells B.slots → Post ⟨T.setVm vm₁, locs, cells, slots⟩ (.ref b :: argsL).toArray v B → Runs p e below E (B.U.setTop (mkF m pc' Ls (v.toList ++ st)))) : Runs p e below E (T.setTop (mkF m pc Ls stk)) := by
  subst hp
  obtain ⟨v1, vm1, B1, -, X1, q1, st1⟩ := X.virtualBack hx hown hlink hdecl hnf hsel hinst hy hK hcB hrecv (g := mkF m pc Ls stk) rfl hsz (Steps.refl _) (argsL := argsL) (rest := st) hlen hst (by show 2 * 0 + _ ≤ _; omega) hd hpre
  exact (K v1 vm1 B1 X1 q1).tr st1
theorem w_staticS (X : Stand p l e Rm s m args below meth c T locs cells slots) (hx : p.tables.exec = Jvm.exec) {stk : List Value} {own : String} {index : Nat} {y : MethodName} {bytes : ByteArray} {maxL : Nat} {ret : Option FieldType} {W : Nat} {Pre : Pt → Array Value → Prop} {Post : Pt → Array Value → Option Value → Pt → Prop} (hown : s.vm.findClass own = some m.cls) (hlink : (Cond.methodLink own index y).before args s = true) (hstat : (Cond.static y).before args s = true) (hinit : (Cond.initialized y.cls).before args s = true) (hcode : (Cond.code y bytes maxL ret).before args s = true) (hy : y.cls ≠ "java/lang/invoke/MethodHandle" ∧ y.cls ≠ "java/lang/invoke/VarHandle") (hK : BackS l Rm p e below s args y 3 W Pre Post) (hsz : Ls.size = c.maxLocals) (argsL : List Value) (hlen : ∀ sig, parseMethodDescriptor y.desc = some sig → argsL.length = sig.parameters.length) (hst : stk = argsL.reverse ++ st) (hW : (st.map fun v => v.category).sum ≤ W) (hd : decode c.code pc = .ok (.invokestatic index, 3)) (hpre : ∀ vm₁, s.WarmedH vm₁ → Pre ⟨T.setVm vm₁, locs, cells, slots⟩ argsL.toArray) (hp : pc + 3 = pc') (K : ∀ (v : Option Value) (vm₁ : Vm) (B : Pt), Stand p l e Rm (s.setVm B.U.vm) m args below meth c B.U B.locs B.cells B.slots → s.Since B.U.vm B.U.heap.size → T.heap.size ≤ B.U.heap.size → Post ⟨T.setVm vm₁, locs, cells, slots⟩ argsL.toArray v B → Runs p e below E (B.U.setTop (mkF m pc' Ls (v.toList ++ st)))) : Runs p e below E (T.setTop (mkF m pc Ls stk)) := by
  subst hp
  obtain ⟨v1, vm1, B1, -, X1, s1, g1, q1, st1⟩ := callSS X hx hown hlink hstat hinit hcode hy hK (g := mkF m pc Ls stk) rfl hsz (argsL := argsL) (rest := st) hlen hst (by show 2 * 0 + _ ≤ _; omega) hd hpre
  exact (K v1 vm1 B1 X1 s1 g1 q1).tr st1
end W

/-- a body's contract, and how a walk shows it -/
abbrev MetN (l : Launch) (Z : State) (y : MethodName) (bytes : ByteArray) (maxL : Nat) (ret : Option FieldType) (ws : List Cond) (rm : Room) (as' : Array Value) (h : Heap) (Q : Option Value → Heap → List Loc → Prop) : Prop :=
  MetFree l y (head1 (Cond.code y bytes maxL ret :: ws) rm) (fun a U => a = as' ∧ Z.Warmed39 U.vm ∧ U.heap = h) (fun _ _ _ _ _ => True) (fun _ U o U' => ∃ v L, o = .returned v ∧ Q v U'.heap L ∧ FrameEnd U o U' L rm.cells rm.slots)
theorem MetN.of {l : Launch} {Z : State} {y : MethodName} {bytes : ByteArray} {maxL : Nat} {ret : Option FieldType} {ws : List Cond} {rm : Room} {as' : Array Value} {h : Heap} {Q : Option Value → Heap → List Loc → Prop} (hp : plainFor y = true)
    (H : ∀ (p : Program) (e : Env) (s : State) (m : MethodId) (below : List Frame) (meth : Method) (c : Code) (s₁ : State), meth.sig.returnType = ret → p.tables.exec = Jvm.exec → c.code = bytes → c.maxLocals = maxL → s.vm.findClass y.cls = some m.cls → meth.name = y.name → meth.locks = false → Z.Warmed39 s.vm → Stand p l e rm s m as' below meth c s₁ [] 0 0 → s₁.heap = h → Runs p e below (EndN s Q rm.cells rm.slots) (s₁.setTop (entryFrame m as' maxL))) :
    MetN l Z y bytes maxL ret ws rm as' h Q := by
  refine MetFree.of_bodySF hp hisR ?_
  intro p e s m args below meth c s₁ Bd hml hP hK
  obtain ⟨rfl, hZ, hh⟩ := hP
  exact H p e s m below meth c s₁ Bd.returns Bd.exec Bd.bytes hml (findClass_of_methodNamed Bd.named) (name_of_methodNamed Bd.named Bd.method).1 Bd.notSynchronized hZ (Stand.of_body Bd) (by rw [← hh, Bd.state]; rfl)
abbrev MetH (l : Launch) (Z : State) (EL : List (String × Nat)) (y : MethodName) (bytes : ByteArray) (maxL : Nat) (ret : Option FieldType) (ws : List Cond) (rm : Room) (as' : Array Value) (h : Heap) (Q : Option Value → Heap → List Loc → (Addr → Prop) → Prop) (sf : List Addr) : Prop :=
  MetFree l y (head1 (Cond.code y bytes maxL ret :: ws) rm) (fun a U => a = as' ∧ Z.Warmed39 U.vm ∧ U.heap = h ∧ CHv Z EL U.vm h ∧ ∀ x ∈ sf, Safe Z EL U.vm h x) (fun _ _ _ _ _ => True) (fun _ U o U' => ∃ v L, o = .returned v ∧ Q v U'.heap L (Safe Z EL U'.vm U'.heap) ∧ CHr Z EL U.vm U.heap U'.vm U'.heap ∧ ReturnedEndW U o U' L rm.cells rm.slots)
theorem MetH.of {l : Launch} {Z : State} {EL : List (String × Nat)} {y : MethodName} {bytes : ByteArray} {maxL : Nat} {ret : Option FieldType} {ws : List Cond} {rm : Room} {as' : Array Value} {h : Heap} {Q : Option Value → Heap → List Loc → (Addr → Prop) → Prop} {sf : List Addr} (hp : plainFor y = true)
    (H : ∀ (p : Program) (e : Env) (s : State) (m : MethodId) (below : List Frame) (meth : Method) (c : Code) (s₁ : State), meth.sig.returnType = ret → p.tables.exec = Jvm.exec → c.code = bytes → c.maxLocals = maxL → s.vm.findClass y.cls = some m.cls → meth.name = y.name → meth.locks = false → Z.Warmed39 s.vm → Stand p l e rm (s.setVm s.vm) m as' below meth c s₁ [] 0 0 → s₁.heap = h → s.heap = h → CHv Z EL s.vm h → (∀ x ∈ sf, Safe Z EL s.vm h x) → s.Since s.vm h.size → CHr Z EL s.vm h s.vm h → Runs p e below (EndH s Z EL Q rm.cells rm.slots) (s₁.setTop (entryFrame m as' maxL))) :
    MetH l Z EL y bytes maxL ret ws rm as' h Q sf := by
  refine MetFree.of_bodySF hp hisR ?_
  intro p e s m args below meth c s₁ Bd hml hP hK
  obtain ⟨rfl, hZ, hh, hH, hsf⟩ := hP
  exact H p e s m below meth c s₁ Bd.returns Bd.exec Bd.bytes hml (findClass_of_methodNamed Bd.named) (name_of_methodNamed Bd.named Bd.method).1 Bd.notSynchronized hZ (Stand.of_body Bd) (by rw [← hh, Bd.state]; rfl) hh hH hsf ((State.WarmedH.refl s).since _) (CHr.refl hH)
end Jvm.RoadKit
/- laws to paste: Road.backV (cut by pick.py; bodies as the Statement names them) -/
namespace Jvm.Pilot.@@N@@
namespace StrChars
open Jvm Sem ClassFile Op Lib Jvm.Stand Jvm.Free.XT Jvm.Free.ALB Jvm.Free.JM Jvm.Free
open Jvm.Lib.Cold (StaticIs)
/-- a char array whose places are chars -/
def Ch (a : Addr) (A : Cell) (U : State) : Prop := Arr .char a A U ∧ Typed .char A
theorem Ch.mv {a : Addr} {A : Cell} {U U' : State} (h : Ch a A U) (hal : U.vm.Alike U'.vm) (hh : U'.heap = U.heap) : Ch a A U' := ⟨h.1.mv hal hh, h.2⟩
theorem Ch.keep {a : Addr} {A : Cell} {U U' : State} (h : Ch a A U) (hal : U.vm.Alike U'.vm) (hk : U'.heap[a]? = some A) : Ch a A U' := ⟨h.1.keep hal hk, h.2⟩
/-- what place i of a char[]'s cell holds -/
def cv (A : Cell) (i : Nat) : Int32 := match A.slots[i]? with | some (.int x) => x | _ => 0
theorem Ch.get {a : Addr} {A : Cell} {U : State} (h : Ch a A U) {i : Nat} (hi : i < A.slots.size) : A.slots[i]? = some (.int (cv A i)) := by
  have e := Array.getElem?_eq_getElem hi
  have f := h.2 i _ e
  unfold cv; rw [e]
  generalize A.slots[i] = v at f
  cases v <;> simp [fits] at f ⊢
/-- the byte that i2b leaves of a char -/
def lo8 (x : Int32) : Int32 := x.toInt8.toInt32
theorem fits_lo8 (y : Int32) : fits .byte (.int (lo8 y)) = true := by
  have h1 := y.toInt8.le_toInt
  have h2 := y.toInt8.toInt_lt
  simp only [lo8, fits, Bool.and_eq_true, decide_eq_true_eq, Int32.le_iff_toInt_le, Int8.toInt_toInt32, show (-128 : Int32).toInt = -128 from by decide, show (127 : Int32).toInt = 127 from by decide]
  omega
/-- A' is A but that each place j of lo .. hi - 1 holds f j -/
def Laid (A A' : Cell) (lo hi : Nat) (f : Nat → Value) : Prop := A'.cls = A.cls ∧ A'.vm = A.vm ∧ A'.slots.size = A.slots.size ∧ ∀ i, A'.slots[i]? = if lo ≤ i ∧ i < hi then some (f i) else A.slots[i]?
theorem Laid.zero (A : Cell) (lo : Nat) (f : Nat → Value) : Laid A A lo (lo + 0) f := ⟨rfl, rfl, rfl, fun i => by rw [if_neg (by omega)]⟩
theorem Laid.step {A Ak : Cell} {lo k : Nat} {f : Nat → Value} {v : Value} (h : Laid A Ak lo k f) (hlo : lo ≤ k) (hk : k < Ak.slots.size) (hv : v = f k) : Laid A (Ak.setSlot k v) lo (k + 1) f := by
  refine ⟨h.1, h.2.1, by simpa [Cell.setSlot] using h.2.2.1, fun i => ?_⟩
  by_cases e : k = i
  · subst e; rw [Cell.slots_setSlot_self v hk, if_pos (by omega), hv]
  · rw [Cell.slots_setSlot_ne v e, h.2.2.2 i]
    by_cases q : lo ≤ i ∧ i < k
    · rw [if_pos q, if_pos (by omega)]
    · rw [if_neg q, if_neg (by omega)]
def U16 : String := "java/lang/StringUTF16"
namespace Cmp5
def yN : MethodName := ⟨"java/lang/StringUTF16", "compress", "([CI[BII)I"⟩
abbrev yB : ByteArray := jdk_52_method_21_code
theorem d0 : decode yB 0 = .ok (.iconst 0, 1) := by decide +kernel
theorem d1 : decode yB 1 = .ok (.istore 5, 2) := by decide +kernel
theorem d3 : decode yB 3 = .ok (.iload 5, 2) := by decide +kernel
theorem d5 : decode yB 5 = .ok (.iload 4, 2) := by decide +kernel
theorem d7 : decode yB 7 = .ok (.if_icmp (.ge) 37, 3) := by decide +kernel
theorem d10 : decode yB 10 = .ok (.aload_n 0, 1) := by decide +kernel
theorem d11 : decode yB 11 = .ok (.iload_n 1, 1) := by decide +kernel
theorem d12 : decode yB 12 = .ok (.caload, 1) := by decide +kernel
theorem d13 : decode yB 13 = .ok (.istore 6, 2) := by decide +kernel
theorem d15 : decode yB 15 = .ok (.iload 6, 2) := by decide +kernel
theorem d17 : decode yB 17 = .ok (.sipush 255, 3) := by decide +kernel
theorem d20 : decode yB 20 = .ok (.if_icmp (.le) 6, 3) := by decide +kernel
theorem d26 : decode yB 26 = .ok (.aload_n 2, 1) := by decide +kernel
theorem d27 : decode yB 27 = .ok (.iload_n 3, 1) := by decide +kernel
theorem d28 : decode yB 28 = .ok (.iload 6, 2) := by decide +kernel
theorem d30 : decode yB 30 = .ok (.i2b, 1) := by decide +kernel
theorem d31 : decode yB 31 = .ok (.bastore, 1) := by decide +kernel
theorem d32 : decode yB 32 = .ok (.iinc 1 1, 3) := by decide +kernel
theorem d35 : decode yB 35 = .ok (.iinc 3 1, 3) := by decide +kernel
theorem d38 : decode yB 38 = .ok (.iinc 5 1, 3) := by decide +kernel
theorem d41 : decode yB 41 = .ok (.goto (-38), 3) := by decide +kernel
theorem d44 : decode yB 44 = .ok (.iload 4, 2) := by decide +kernel
theorem d46 : decode yB 46 = .ok (.ireturn, 1) := by decide +kernel
def site : List Cond := []
def tab : Cond := tabOf yN yB 7 (some .int) site
def P (b : Addr) (A : Cell) (d : Addr) (B : Cell) (o q len : Nat) (args : Array Value) (s : State) : Prop := args = #[.ref b, .int (Int32.ofNat o), .ref d, .int (Int32.ofNat q), .int (Int32.ofNat len)] ∧ Ch b A s ∧ Arr .byte d B s ∧ b ≠ d ∧ o + len ≤ A.slots.size ∧ q + len ≤ B.slots.size ∧ ∀ i, i < len → ¬ 255 < cv A (o + i)
def E (b : Addr) (A : Cell) (d : Addr) (B : Cell) (o q len : Nat) (r : Option Value) (s u : State) : Prop := r = some (.int (Int32.ofNat len)) ∧ ∃ B', Put d B' s u ∧ Laid B B' q (q + len) (fun j => Value.int (lo8 (cv A (o + (j - q)))))
/-- no char of the range above 255: len; the places written hold each char's low byte -/
theorem law (l : Launch) (b : Addr) (A : Cell) (d : Addr) (B : Cell) (o q len : Nat) : Law l yN 5 5 0 0 yB 7 (some .int) site (P b A d B o q len) (E b A d B o q len) (copyLocs d q len) 0 0 := by
  refine Law.of_walk (plainFor_of_name (by decide +kernel)) (by decide +kernel) (by decide +kernel) (by decide) (fun _ _ h => by rw [h.1]; rfl) (fun _ U U' hal hh h => ⟨h.1, h.2.1.mv hal hh, h.2.2.1.mv hal hh, h.2.2.2⟩) (fun r U U' V V' h1 hal h2 h => ⟨h.1, h.2.elim fun B' q => ⟨B', q.1.mv h1 h2, q.2⟩⟩) ?_
  intro p e s m args below meth c s₁ X0 hexec hbytes hml hret hlk hnm hown hh0 W hP
  obtain ⟨rfl, hA, hB, hne, l1, l2, hp⟩ := hP
  have c1 : Steps p.tables e below (s₁.setTop (entryFrame m #[.ref b, .int (Int32.ofNat o), .ref d, .int (Int32.ofNat q), .int (Int32.ofNat len)] 7)) (s₁.setTop (mkF m 0 #[.val (.ref b), .val (.int (Int32.ofNat o)), .val (.ref d), .val (.int (Int32.ofNat q)), .val (.int (Int32.ofNat len)), .unset, .unset] [])) := entry rfl
  have hA0 := hA.1.mv X0.warmed.alike hh0
  have hB0 := hB.mv X0.warmed.alike hh0
  have a31 := hA.1.2.2.2
  have c2 : Steps p.tables e below (s₁.setTop (entryFrame m #[.ref b, .int (Int32.ofNat o), .ref d, .int (Int32.ofNat q), .int (Int32.ofNat len)] 7)) (s₁.setTop (mkF m 3 #[.val (.ref b), .val (.int (Int32.ofNat o)), .val (.ref d), .val (.int (Int32.ofNat q)), .val (.int (Int32.ofNat len)), .val (.int 0), .unset] [])) := c1.trans (by
    refine iconstV X0.here hexec rfl 0 (hb hbytes d0) (by decide) ?_
    refine XS.istore X0.here hexec rfl (hb hbytes d1) rfl rfl ?_
    exact Steps.refl _)
  have loop : ∀ (r i : Nat), i + r = len → ∀ (z : Slot), (z = .unset ∨ ∃ w, z = .val w ∧ w.category = 1) → ∀ (Tl : State) (Bk : Cell), Stand p l e { frames := 0, locals := 0, cells := 0, slots := 0 } s m #[.ref b, .int (Int32.ofNat o), .ref d, .int (Int32.ofNat q), .int (Int32.ofNat len)] below meth c Tl ([] ++ copyLocs d q i) 0 0 → Put d Bk s₁ Tl → Laid B Bk q (q + i) (fun j => Value.int (lo8 (cv A (o + (j - q))))) →
      Steps p.tables e below (s₁.setTop (entryFrame m #[.ref b, .int (Int32.ofNat o), .ref d, .int (Int32.ofNat q), .int (Int32.ofNat len)] 7)) (Tl.setTop (mkF m 3 #[.val (.ref b), .val (.int (Int32.ofNat (o + i))), .val (.ref d), .val (.int (Int32.ofNat (q + i))), .val (.int (Int32.ofNat len)), .val (.int (Int32.ofNat i)), z] [])) → ∃ (T' : State) (B' : Cell) (z' : Slot), Stand p l e { frames := 0, locals := 0, cells := 0, slots := 0 } s m #[.ref b, .int (Int32.ofNat o), .ref d, .int (Int32.ofNat q), .int (Int32.ofNat len)] below meth c T' ([] ++ copyLocs d q len) 0 0 ∧ Put d B' s₁ T' ∧ Laid B B' q (q + len) (fun j => Value.int (lo8 (cv A (o + (j - q))))) ∧
      Steps p.tables e below (s₁.setTop (entryFrame m #[.ref b, .int (Int32.ofNat o), .ref d, .int (Int32.ofNat q), .int (Int32.ofNat len)] 7)) (T'.setTop (mkF m 3 #[.val (.ref b), .val (.int (Int32.ofNat (o + len))), .val (.ref d), .val (.int (Int32.ofNat (q + len))), .val (.int (Int32.ofNat len)), .val (.int (Int32.ofNat len)), z'] [])) := by
    intro r
    induction r with
    | zero =>
      intro i hi z hz Tl Bk Xl pl fl cl
      have hil : i = len := by omega
      rw [hil] at Xl fl cl
      exact ⟨Tl, Bk, z, Xl, pl, fl, cl⟩
    | succ r ih =>
      intro i hi z hz Tl Bk Xl pl fl cl
      have all := X0.warmed.alike.symm.trans Xl.warmed.alike
      have hAl := hA0.keep all (pl.other hne hA0.1)
      have hBk := hB0.like all pl.1 fl.1 fl.2.1 fl.2.2.1
      have hlt : q + i < Bk.slots.size := by rw [fl.2.2.1]; omega
      have c3 : Steps p.tables e below (s₁.setTop (entryFrame m #[.ref b, .int (Int32.ofNat o), .ref d, .int (Int32.ofNat q), .int (Int32.ofNat len)] 7)) (Tl.setTop (mkF m 12 #[.val (.ref b), .val (.int (Int32.ofNat (o + i))), .val (.ref d), .val (.int (Int32.ofNat (q + i))), .val (.int (Int32.ofNat len)), .val (.int (Int32.ofNat i)), z] [.int (Int32.ofNat (o + i)), .ref b])) := cl.trans (by
        refine XS.iload Xl.here hexec rfl (hb hbytes d3) rfl ?_
        refine XS.iload Xl.here hexec rfl (hb hbytes d5) rfl ?_
        refine XS.icmpNo Xl.here hexec rfl (hb hbytes d7) rfl (ii_ge_f (lt32 (by omega) (by omega))) ?_
        refine XS.aloadN Xl.here hexec rfl (hb hbytes d10) rfl rfl ?_
        refine XS.iloadN Xl.here hexec rfl (hb hbytes d11) rfl ?_
        exact Steps.refl _)
      have c4 : Steps p.tables e below (s₁.setTop (entryFrame m #[.ref b, .int (Int32.ofNat o), .ref d, .int (Int32.ofNat q), .int (Int32.ofNat len)] 7)) (Tl.setTop (mkF m 13 #[.val (.ref b), .val (.int (Int32.ofNat (o + i))), .val (.ref d), .val (.int (Int32.ofNat (q + i))), .val (.int (Int32.ofNat len)), .val (.int (Int32.ofNat i)), z] [.int (cv A (o + i))])) := c3.trans (by
        refine Xl.aget hexec hAl rfl (hA.get (i := o + i) (by omega)) rfl rfl (hb hbytes d12) ?_
        exact Steps.refl _)
      have c5 : Steps p.tables e below (s₁.setTop (entryFrame m #[.ref b, .int (Int32.ofNat o), .ref d, .int (Int32.ofNat q), .int (Int32.ofNat len)] 7)) (Tl.setTop (mkF m 15 #[.val (.ref b), .val (.int (Int32.ofNat (o + i))), .val (.ref d), .val (.int (Int32.ofNat (q + i))), .val (.int (Int32.ofNat len)), .val (.int (Int32.ofNat i)), .val (.int (cv A (o + i)))] [])) := c4.trans (by
        refine XS.istoreS Xl.here hexec rfl (hb hbytes d13) rfl rfl hz ?_
        exact Steps.refl _)
      have c6 : Steps p.tables e below (s₁.setTop (entryFrame m #[.ref b, .int (Int32.ofNat o), .ref d, .int (Int32.ofNat q), .int (Int32.ofNat len)] 7)) (Tl.setTop (mkF m 31 #[.val (.ref b), .val (.int (Int32.ofNat (o + i))), .val (.ref d), .val (.int (Int32.ofNat (q + i))), .val (.int (Int32.ofNat len)), .val (.int (Int32.ofNat i)), .val (.int (cv A (o + i)))] [.int (lo8 (cv A (o + i))), .int (Int32.ofNat (q + i)), .ref d])) := c5.trans (by
        refine XS.iload Xl.here hexec rfl (hb hbytes d15) rfl ?_
        refine sipushV Xl.here hexec rfl 255 (hb hbytes d17) (by decide) ?_
        refine XS.icmpYes Xl.here hexec rfl (pc0 := 20) rfl (hb hbytes d20) rfl (ii_le_t (hp i (by omega))) (by decide) rfl ?_
        refine XS.aloadN Xl.here hexec rfl (hb hbytes d26) rfl rfl ?_
        refine XS.iloadN Xl.here hexec rfl (hb hbytes d27) rfl ?_
        refine XS.iload Xl.here hexec rfl (hb hbytes d28) rfl ?_
        refine i2b Xl.here hexec rfl (hb hbytes d30) rfl ?_
        exact Steps.refl _)
      obtain ⟨T7, X7, p7, st7⟩ := Xl.aput hexec hBk rfl hlt rfl (fits_lo8 (cv A (o + i))) (g := (mkF m 31 #[.val (.ref b), .val (.int (Int32.ofNat (o + i))), .val (.ref d), .val (.int (Int32.ofNat (q + i))), .val (.int (Int32.ofNat len)), .val (.int (Int32.ofNat i)), .val (.int (cv A (o + i)))] [.int (lo8 (cv A (o + i))), .int (Int32.ofNat (q + i)), .ref d])) rfl (rest := []) rfl (hb hbytes d31)
      have c8 : Steps p.tables e below (s₁.setTop (entryFrame m #[.ref b, .int (Int32.ofNat o), .ref d, .int (Int32.ofNat q), .int (Int32.ofNat len)] 7)) (T7.setTop (mkF m 32 #[.val (.ref b), .val (.int (Int32.ofNat (o + i))), .val (.ref d), .val (.int (Int32.ofNat (q + i))), .val (.int (Int32.ofNat len)), .val (.int (Int32.ofNat i)), .val (.int (cv A (o + i)))] [])) := c6.trans (st7 _ (Steps.refl _))
      have c9 : Steps p.tables e below (s₁.setTop (entryFrame m #[.ref b, .int (Int32.ofNat o), .ref d, .int (Int32.ofNat q), .int (Int32.ofNat len)] 7)) (T7.setTop (mkF m 3 #[.val (.ref b), .val (.int (Int32.ofNat (o + i) + 1)), .val (.ref d), .val (.int (Int32.ofNat (q + i) + 1)), .val (.int (Int32.ofNat len)), .val (.int (Int32.ofNat i + 1)), .val (.int (cv A (o + i)))] [])) := c8.trans (by
        refine iincV X7.here hexec rfl 1 (hb hbytes d32) (by decide) rfl rfl ?_
        refine iincV X7.here hexec rfl 1 (hb hbytes d35) (by decide) rfl rfl ?_
        refine iincV X7.here hexec rfl 1 (hb hbytes d38) (by decide) rfl rfl ?_
        refine XS.goto X7.here hexec rfl (pc0 := 41) rfl (hb hbytes d41) (by decide) rfl ?_
        exact Steps.refl _)
      have c10 : Steps p.tables e below (s₁.setTop (entryFrame m #[.ref b, .int (Int32.ofNat o), .ref d, .int (Int32.ofNat q), .int (Int32.ofNat len)] 7)) (T7.setTop (mkF m 3 #[.val (.ref b), .val (.int (Int32.ofNat (o + (i + 1)))), .val (.ref d), .val (.int (Int32.ofNat (q + (i + 1)))), .val (.int (Int32.ofNat len)), .val (.int (Int32.ofNat (i + 1))), .val (.int (cv A (o + i)))] [])) := by
        have := c9
        rw [succ32, succ32, succ32] at this
        exact this
      exact ih (i + 1) (by omega) _ (Or.inr ⟨_, rfl, rfl⟩) T7 _ (by rw [copyLocs_step, ← List.append_assoc]; exact X7) (pl.trans p7) (fl.step (by omega) hlt (by simp)) c10
  obtain ⟨T9, B9, z9, X9, p9, f9, g9⟩ := loop len 0 (by omega) .unset (Or.inl rfl) s₁ B (by simpa [copyLocs] using X0) ⟨hB0.1, fun _ _ => rfl, rfl⟩ (Laid.zero _ _ _) c2
  have c11 : Steps p.tables e below (s₁.setTop (entryFrame m #[.ref b, .int (Int32.ofNat o), .ref d, .int (Int32.ofNat q), .int (Int32.ofNat len)] 7)) (T9.setTop (mkF m 46 #[.val (.ref b), .val (.int (Int32.ofNat (o + len))), .val (.ref d), .val (.int (Int32.ofNat (q + len))), .val (.int (Int32.ofNat len)), .val (.int (Int32.ofNat len)), z9] [.int (Int32.ofNat len)])) := g9.trans (by
    refine XS.iload X9.here hexec rfl (hb hbytes d3) rfl ?_
    refine XS.iload X9.here hexec rfl (hb hbytes d5) rfl ?_
    refine XS.icmpYes X9.here hexec rfl (pc0 := 7) rfl (hb hbytes d7) rfl (ii_ge_t (nlt32 (by omega) (Nat.le_refl _))) (by decide) rfl ?_
    refine XS.iload X9.here hexec rfl (hb hbytes d44) rfl ?_
    exact Steps.refl _)
  exact ⟨T9, some (.int (Int32.ofNat len)), _, _, _, X9, by simp, rfl, rfl, (fun h => by cases h), ⟨rfl, B9, p9.from hh0, f9⟩, fun fs hl => c11.trans (X9.ireturnOut hexec hret rfl (Or.inl rfl) (hb hbytes d46) hl)⟩
end Cmp5
namespace Cmp3
def yN : MethodName := ⟨"java/lang/StringUTF16", "compress", "([CII)[B"⟩
abbrev yB : ByteArray := jdk_52_method_16_code
theorem d0 : decode yB 0 = .ok (.iload_n 2, 1) := by decide +kernel
theorem d1 : decode yB 1 = .ok (.newarray .byte, 2) := by decide +kernel
theorem d3 : decode yB 3 = .ok (.astore_n 3, 1) := by decide +kernel
theorem d4 : decode yB 4 = .ok (.aload_n 0, 1) := by decide +kernel
theorem d5 : decode yB 5 = .ok (.iload_n 1, 1) := by decide +kernel
theorem d6 : decode yB 6 = .ok (.aload_n 3, 1) := by decide +kernel
theorem d7 : decode yB 7 = .ok (.iconst 0, 1) := by decide +kernel
theorem d8 : decode yB 8 = .ok (.iload_n 2, 1) := by decide +kernel
theorem d9 : decode yB 9 = .ok (.invokestatic 115, 3) := by decide +kernel
theorem d12 : decode yB 12 = .ok (.istore 4, 2) := by decide +kernel
theorem d14 : decode yB 14 = .ok (.iload 4, 2) := by decide +kernel
theorem d16 : decode yB 16 = .ok (.iload_n 2, 1) := by decide +kernel
theorem d17 : decode yB 17 = .ok (.if_icmp (.eq) 40, 3) := by decide +kernel
theorem d57 : decode yB 57 = .ok (.aload_n 3, 1) := by decide +kernel
theorem d58 : decode yB 58 = .ok (.areturn, 1) := by decide +kernel
def site : List Cond := [.arrayClass .byte, Cmp5.tab] ++ staticW U16 115 Cmp5.yN
def tab : Cond := tabOf yN yB 6 (some (.array .byte)) site
def P (b : Addr) (A : Cell) (o len : Nat) (args : Array Value) (s : State) : Prop := args = #[.ref b, .int (Int32.ofNat o), .int (Int32.ofNat len)] ∧ Ch b A s ∧ o + len ≤ A.slots.size ∧ len ≤ 536870912 ∧ ∀ i, i < len → ¬ 255 < cv A (o + i)
def E (b : Addr) (A : Cell) (o len : Nat) (r : Option Value) (s u : State) : Prop := NewArr .byte "[B" len (fun j => .int (lo8 (cv A (o + j)))) r s u ∧ u.heap.size = s.heap.size + 1
/-- no char of the range above 255: a new byte[] of their low bytes -/
theorem law (l : Launch) (b : Addr) (A : Cell) (o len : Nat) : Law l yN 3 3 1 18 yB 6 (some (.array .byte)) site (P b A o len) (E b A o len) [] 1 len := by
  refine Law.of_walk (plainFor_of_name (by decide +kernel)) (by decide +kernel) (by decide +kernel) (by decide) (fun _ _ h => by rw [h.1]; rfl) (fun _ U U' hal hh h => ⟨h.1, h.2.1.mv hal hh, h.2.2⟩) (fun r U U' V V' h1 hal h2 h => ⟨NewArr.mv r U U' V V' h1 hal h2 h.1, by rw [h1, h2]; exact h.2⟩) ?_
  intro p e s m args below meth c s₁ X0 hexec hbytes hml hret hlk hnm hown hh0 W hP
  obtain ⟨rfl, hA, l1, l2, hp⟩ := hP
  have a31 := hA.1.2.2.2
  have c1 : Steps p.tables e below (s₁.setTop (entryFrame m #[.ref b, .int (Int32.ofNat o), .int (Int32.ofNat len)] 6)) (s₁.setTop (mkF m 0 #[.val (.ref b), .val (.int (Int32.ofNat o)), .val (.int (Int32.ofNat len)), .unset, .unset, .unset] [])) := entry rfl
  have c2 : Steps p.tables e below (s₁.setTop (entryFrame m #[.ref b, .int (Int32.ofNat o), .int (Int32.ofNat len)] 6)) (s₁.setTop (mkF m 1 #[.val (.ref b), .val (.int (Int32.ofNat o)), .val (.int (Int32.ofNat len)), .unset, .unset, .unset] [.int (Int32.ofNat len)])) := c1.trans (by
    refine XS.iloadN X0.here hexec rfl (hb hbytes d0) rfl ?_
    exact Steps.refl _)
  obtain ⟨T3, B3, X3, ba3, bs3, bv3, bh3, bf3, st3⟩ := X0.anew hexec (atype := .byte) (wk W (.arrayClass .byte)) rfl (by show len * 1 ≤ _; omega) (by omega) (g := (mkF m 1 #[.val (.ref b), .val (.int (Int32.ofNat o)), .val (.int (Int32.ofNat len)), .unset, .unset, .unset] [.int (Int32.ofNat len)])) rfl (hb hbytes d1) (rest := []) rfl (Nat.le_refl _) (by show 0 + len ≤ len; omega)
  rw [hh0] at ba3 st3
  have kp3 : XT.Kept s T3 := (XT.Kept.of_eq hh0).push bh3
  have hA3 := hA.keep X3.warmed.alike (kp3 _ _ hA.1.1)
  have hne : b ≠ s.heap.size := hA.1.ne
  have c4 : Steps p.tables e below (s₁.setTop (entryFrame m #[.ref b, .int (Int32.ofNat o), .int (Int32.ofNat len)] 6)) (T3.setTop (mkF m 3 #[.val (.ref b), .val (.int (Int32.ofNat o)), .val (.int (Int32.ofNat len)), .unset, .unset, .unset] [.ref s.heap.size])) := c2.trans (st3 _ (Steps.refl _))
  have c5 : Steps p.tables e below (s₁.setTop (entryFrame m #[.ref b, .int (Int32.ofNat o), .int (Int32.ofNat len)] 6)) (T3.setTop (mkF m 9 #[.val (.ref b), .val (.int (Int32.ofNat o)), .val (.int (Int32.ofNat len)), .val (.ref s.heap.size), .unset, .unset] [.int (Int32.ofNat len), .int 0, .ref s.heap.size, .int (Int32.ofNat o), .ref b])) := c4.trans (by
    refine XS.astoreN X3.here hexec rfl (hb hbytes d3) rfl rfl rfl ?_
    refine XS.aloadN X3.here hexec rfl (hb hbytes d4) rfl rfl ?_
    refine XS.iloadN X3.here hexec rfl (hb hbytes d5) rfl ?_
    refine XS.aloadN X3.here hexec rfl (hb hbytes d6) rfl rfl ?_
    refine iconstV X3.here hexec rfl 0 (hb hbytes d7) (by decide) ?_
    refine XS.iloadN X3.here hexec rfl (hb hbytes d8) rfl ?_
    exact Steps.refl _)
  obtain ⟨v6, T6, X6, E6, g6⟩ := X3.callS hexec (Cmp5.law l b A s.heap.size B3 o 0 len) hown (wks W (staticW U16 115 Cmp5.yN)) (wk W Cmp5.tab) (W := 0) (Nat.le_of_ble_eq_true rfl) (Nat.le_of_ble_eq_true rfl) (Nat.le_refl _) (by show 0 + len + 0 ≤ len; omega) (g := (mkF m 9 #[.val (.ref b), .val (.int (Int32.ofNat o)), .val (.int (Int32.ofNat len)), .val (.ref s.heap.size), .unset, .unset] [.int (Int32.ofNat len), .int (Int32.ofNat 0), .ref s.heap.size, .int (Int32.ofNat o), .ref b])) rfl (by rw [hml]; rfl) c5 (argsL := [.ref b, .int (Int32.ofNat o), .ref s.heap.size, .int (Int32.ofNat 0), .int (Int32.ofNat len)]) (rest := []) rfl rfl (by show 2 * 0 + 0 ≤ _; decide) (hb hbytes d9) (⟨rfl, hA3, ba3, hne, l1, by rw [bs3]; simp, hp⟩)
  obtain ⟨rfl, B6, p6, f6⟩ := E6
  have c7 : Steps p.tables e below (s₁.setTop (entryFrame m #[.ref b, .int (Int32.ofNat o), .int (Int32.ofNat len)] 6)) (T6.setTop (mkF m 12 #[.val (.ref b), .val (.int (Int32.ofNat o)), .val (.int (Int32.ofNat len)), .val (.ref s.heap.size), .unset, .unset] [.int (Int32.ofNat len)])) := g6
  have c8 : Steps p.tables e below (s₁.setTop (entryFrame m #[.ref b, .int (Int32.ofNat o), .int (Int32.ofNat len)] 6)) (T6.setTop (mkF m 58 #[.val (.ref b), .val (.int (Int32.ofNat o)), .val (.int (Int32.ofNat len)), .val (.ref s.heap.size), .val (.int (Int32.ofNat len)), .unset] [.ref s.heap.size])) := c7.trans (by
    refine XS.istore X6.here hexec rfl (hb hbytes d12) rfl rfl ?_
    refine XS.iload X6.here hexec rfl (hb hbytes d14) rfl ?_
    refine XS.iloadN X6.here hexec rfl (hb hbytes d16) rfl ?_
    refine XS.icmpYes X6.here hexec rfl (pc0 := 17) rfl (hb hbytes d17) rfl (ii_eq_t rfl) (by decide) rfl ?_
    refine XS.aloadN X6.here hexec rfl (hb hbytes d57) rfl rfl ?_
    exact Steps.refl _)
  have X8 := X6.wide (L' := []) (cells' := 1) (slots' := len) (fun x hx hlt => by
    simp only [List.nil_append, copyLocs, List.mem_map, List.mem_range] at hx
    obtain ⟨i, -, rfl⟩ := hx
    exact absurd hlt (Nat.lt_irrefl _)) (Nat.le_refl _) (by omega)
  exact ⟨T6, some (.ref s.heap.size), _, _, _, X8, rfl, rfl, rfl, (fun h => by cases h), ⟨⟨rfl, B6, ba3.like (X3.warmed.alike.symm.trans X6.warmed.alike) p6.1 f6.1 f6.2.1 f6.2.2.1, f6.2.1.trans bv3, by rw [X6.warmed.alike.findClass, f6.1]; exact bf3, by rw [f6.2.2.1, bs3]; simp, fun j hj => by rw [f6.2.2.2 j, if_pos (by omega)]; rfl, kp3.put p6 (Nat.le_refl _)⟩, by rw [p6.2.2, bh3, hh0]; simp⟩, fun fs hl => c8.trans (X8.areturnOut hexec rfl hret rfl (hb hbytes d58) hl)⟩
end Cmp3
namespace CodL
def yN : MethodName := ⟨"java/lang/StringUTF16", "coderFromArrayLen", "([BI)B"⟩
abbrev yB : ByteArray := jdk_52_method_15_code
theorem d0 : decode yB 0 = .ok (.iload_n 1, 1) := by decide +kernel
theorem d1 : decode yB 1 = .ok (.aload_n 0, 1) := by decide +kernel
theorem d2 : decode yB 2 = .ok (.arraylength, 1) := by decide +kernel
theorem d3 : decode yB 3 = .ok (.isub, 1) := by decide +kernel
theorem d4 : decode yB 4 = .ok (.bipush 31, 2) := by decide +kernel
theorem d6 : decode yB 6 = .ok (.iushr, 1) := by decide +kernel
theorem d7 : decode yB 7 = .ok (.i2b, 1) := by decide +kernel
theorem d8 : decode yB 8 = .ok (.ireturn, 1) := by decide +kernel
def site : List Cond := []
def tab : Cond := tabOf yN yB 2 (some .byte) site
def P (d : Addr) (B : Cell) (args : Array Value) (s : State) : Prop := args = #[.ref d, .int (Int32.ofNat B.slots.size)] ∧ Arr .byte d B s
def E (r : Option Value) (s u : State) : Prop := XT.PureE (some (.int 0)) r s u
/-- an array as long as the number of chars: LATIN1 -/
theorem law (l : Launch) (d : Addr) (B : Cell) : Law l yN 2 2 0 0 yB 2 (some .byte) site (P d B) E [] 0 0 := by
  refine Law.of_walk (plainFor_of_name (by decide +kernel)) (by decide +kernel) (by decide +kernel) (by decide) (fun _ _ h => by rw [h.1]; rfl) (fun _ U U' hal hh h => ⟨h.1, h.2.mv hal hh⟩) (fun r U U' V V' h1 hal h2 h => XT.PureE.mv r U U' V V' h1 hal h2 h) ?_
  intro p e s m args below meth c s₁ X0 hexec hbytes hml hret hlk hnm hown hh0 W hP
  obtain ⟨rfl, hB⟩ := hP
  have hB0 := hB.mv X0.warmed.alike hh0
  have c1 : Steps p.tables e below (s₁.setTop (entryFrame m #[.ref d, .int (Int32.ofNat B.slots.size)] 2)) (s₁.setTop (mkF m 0 #[.val (.ref d), .val (.int (Int32.ofNat B.slots.size))] [])) := entry rfl
  have c2 : Steps p.tables e below (s₁.setTop (entryFrame m #[.ref d, .int (Int32.ofNat B.slots.size)] 2)) (s₁.setTop (mkF m 2 #[.val (.ref d), .val (.int (Int32.ofNat B.slots.size))] [.ref d, .int (Int32.ofNat B.slots.size)])) := c1.trans (by
    refine XS.iloadN X0.here hexec rfl (hb hbytes d0) rfl ?_
    refine XS.aloadN X0.here hexec rfl (hb hbytes d1) rfl rfl ?_
    exact Steps.refl _)
  have c3 : Steps p.tables e below (s₁.setTop (entryFrame m #[.ref d, .int (Int32.ofNat B.slots.size)] 2)) (s₁.setTop (mkF m 8 #[.val (.ref d), .val (.int (Int32.ofNat B.slots.size))] [.int (lo8 (ushr (Int32.ofNat B.slots.size - Int32.ofNat B.slots.size) 31))])) := c2.trans (by
    refine X0.alen hexec hB0 rfl rfl (hb hbytes d2) ?_
    refine XS.isub X0.here hexec rfl (hb hbytes d3) rfl ?_
    refine bipushV X0.here hexec rfl 31 (hb hbytes d4) (by decide) ?_
    refine iushr X0.here hexec rfl (hb hbytes d6) rfl ?_
    refine i2b X0.here hexec rfl (hb hbytes d7) rfl ?_
    exact Steps.refl _)
  have e0 : lo8 (ushr (Int32.ofNat B.slots.size - Int32.ofNat B.slots.size) 31) = 0 := by rw [Int32.sub_self]; decide
  rw [e0] at c3
  exact ⟨s₁, some (.int 0), _, _, _, X0, rfl, rfl, rfl, (fun h => by cases h), ⟨rfl, hh0⟩, fun fs hl => c3.trans (X0.ireturnOut hexec hret rfl (Or.inr (Or.inr (Or.inl rfl))) (hb hbytes d8) hl)⟩
end CodL
/-- the String at a is Latin-1 over a new byte[] (the heap's one new cell): the low bytes of the len chars of A from o on; every cell but a is kept -/
def Got (a : Addr) (D : Cell) (fV fC : Field) (A : Cell) (o len : Nat) (r : Option Value) (s u : State) : Prop := r = none ∧ ∃ D' V : Cell, Blank "java/lang/String" a D' u ∧ Same D D' [fV.slot, fC.slot] ∧ D'.slots[fV.slot]? = some (.ref s.heap.size) ∧ D'.slots[fC.slot]? = some (.int 0) ∧ Arr .byte s.heap.size V u ∧ V.vm = .none ∧ u.vm.findClass "[B" = some V.cls ∧ V.slots.size = len ∧ (∀ j, j < len → V.slots[j]? = some (.int (lo8 (cv A (o + j))))) ∧ (∀ (y : Addr) (c : Cell), y ≠ a → s.heap[y]? = some c → u.heap[y]? = some c) ∧ u.heap.size = s.heap.size + 1
theorem Got.mv {a : Addr} {D A : Cell} {fV fC : Field} {o len : Nat} : ∀ r (U U' V V' : State), U'.heap = U.heap → V.vm.Alike V'.vm → V'.heap = V.heap → Got a D fV fC A o len r U V → Got a D fV fC A o len r U' V' :=
  fun r U U' V V' h1 hal h2 ⟨e0, D', X, a1, a2, a3, a4, a5, a6, a7, a8, a9, a10, a11⟩ => ⟨e0, D', X, a1.mv hal h2, a2, by rw [h1]; exact a3, a4, by rw [h1]; exact a5.mv hal h2, a6, by rw [hal.findClass]; exact a7, a8, a9, by rw [h1, h2]; exact a10, by rw [h1, h2]; exact a11⟩
namespace New4
def yN : MethodName := ⟨"java/lang/String", "<init>", "([CIILjava/lang/Void;)V"⟩
abbrev yB : ByteArray := jdk_42_method_149_code
theorem d0 : decode yB 0 = .ok (.aload_n 0, 1) := by decide +kernel
theorem d1 : decode yB 1 = .ok (.invokespecial 1, 3) := by decide +kernel
theorem d4 : decode yB 4 = .ok (.iload_n 3, 1) := by decide +kernel
theorem d5 : decode yB 5 = .ok (.ifCond (.ne) 22, 3) := by decide +kernel
theorem d27 : decode yB 27 = .ok (.getstatic 38, 3) := by decide +kernel
theorem d30 : decode yB 30 = .ok (.ifCond (.eq) 28, 3) := by decide +kernel
theorem d33 : decode yB 33 = .ok (.aload_n 1, 1) := by decide +kernel
theorem d34 : decode yB 34 = .ok (.iload_n 2, 1) := by decide +kernel
theorem d35 : decode yB 35 = .ok (.iload_n 3, 1) := by decide +kernel
theorem d36 : decode yB 36 = .ok (.invokestatic 177, 3) := by decide +kernel
theorem d39 : decode yB 39 = .ok (.astore 5, 2) := by decide +kernel
theorem d41 : decode yB 41 = .ok (.aload_n 0, 1) := by decide +kernel
theorem d42 : decode yB 42 = .ok (.aload 5, 2) := by decide +kernel
theorem d44 : decode yB 44 = .ok (.iload_n 3, 1) := by decide +kernel
theorem d45 : decode yB 45 = .ok (.invokestatic 47, 3) := by decide +kernel
theorem d48 : decode yB 48 = .ok (.putfield 15, 3) := by decide +kernel
theorem d51 : decode yB 51 = .ok (.aload_n 0, 1) := by decide +kernel
theorem d52 : decode yB 52 = .ok (.aload 5, 2) := by decide +kernel
theorem d54 : decode yB 54 = .ok (.putfield 9, 3) := by decide +kernel
theorem d57 : decode yB 57 = .ok (.return_, 1) := by decide +kernel
def site : List Cond := [.fieldLink "java/lang/String" 38 "java/lang/String" "COMPACT_STRINGS" "Z", Cmp3.tab, CodL.tab, .laysFinal "java/lang/String" "java/lang/String" "value" "[B", .fieldLink "java/lang/String" 9 "java/lang/String" "value" "[B", .laysFinal "java/lang/String" "java/lang/String" "coder" "B", .fieldLink "java/lang/String" 15 "java/lang/String" "coder" "B"] ++ objW "java/lang/String" 1 ++ staticW "java/lang/String" 177 Cmp3.yN ++ staticW "java/lang/String" 47 CodL.yN
def tab : Cond := tabOf yN yB 6 none site
def P (a : Addr) (D : Cell) (fV fC : Field) (b : Addr) (A : Cell) (z : Int32) (o len : Nat) (args : Array Value) (s : State) : Prop := args = #[.ref a, .ref b, .int (Int32.ofNat o), .int (Int32.ofNat len), .null] ∧ Blank "java/lang/String" a D s ∧ Found "java/lang/String" "value" "[B" fV s ∧ Found "java/lang/String" "coder" "B" fC s ∧ Ch b A s ∧ StaticIs s "java/lang/String" "COMPACT_STRINGS" "Z" (.int z) ∧ ¬ z = 0 ∧ 0 < len ∧ o + len ≤ A.slots.size ∧ len ≤ 536870912 ∧ ∀ i, i < len → ¬ 255 < cv A (o + i)
def E (a : Addr) (D : Cell) (fV fC : Field) (A : Cell) (o len : Nat) (r : Option Value) (s u : State) : Prop := Got a D fV fC A o len r s u
/-- len > 0, no char of the range above 255: a Latin-1 String of their low bytes -/
theorem law (l : Launch) (a : Addr) (D : Cell) (fV fC : Field) (b : Addr) (A : Cell) (z : Int32) (o len : Nat) : Law l yN 5 4 2 35 yB 6 none site (P a D fV fC b A z o len) (E a D fV fC A o len) [⟨a, fC.slot⟩, ⟨a, fV.slot⟩] 1 len := by
  refine Law.of_walk (plainFor_of_name (by decide +kernel)) (by decide +kernel) (by decide +kernel) (by decide) (fun _ _ h => by rw [h.1]; rfl) (fun _ U U' hal hh h => ⟨h.1, h.2.1.mv hal hh, h.2.2.1.al hal, h.2.2.2.1.al hal, h.2.2.2.2.1.mv hal hh, h.2.2.2.2.2.1.there hal hh, h.2.2.2.2.2.2⟩) (fun r U U' V V' h1 hal h2 h => Got.mv r U U' V V' h1 hal h2 h) ?_
  intro p e s m args below meth c s₁ X0 hexec hbytes hml hret hlk hnm hown hh0 W hP
  obtain ⟨rfl, hB, f1, f2, hA, s1, hz, l0, l1, l2, hp⟩ := hP
  have a31 := hA.1.2.2.2
  have c1 : Steps p.tables e below (s₁.setTop (entryFrame m #[.ref a, .ref b, .int (Int32.ofNat o), .int (Int32.ofNat len), .null] 6)) (s₁.setTop (mkF m 0 #[.val (.ref a), .val (.ref b), .val (.int (Int32.ofNat o)), .val (.int (Int32.ofNat len)), .val .null, .unset] [])) := entry rfl
  have c2 : Steps p.tables e below (s₁.setTop (entryFrame m #[.ref a, .ref b, .int (Int32.ofNat o), .int (Int32.ofNat len), .null] 6)) (s₁.setTop (mkF m 1 #[.val (.ref a), .val (.ref b), .val (.int (Int32.ofNat o)), .val (.int (Int32.ofNat len)), .val .null, .unset] [.ref a])) := c1.trans (by
    refine XS.aloadN X0.here hexec rfl (hb hbytes d0) rfl rfl ?_
    exact Steps.refl _)
  obtain ⟨T3, X3, q3, st3⟩ := X0.oinit hexec hown (wks W (objW "java/lang/String" 1)) (g := (mkF m 1 #[.val (.ref a), .val (.ref b), .val (.int (Int32.ofNat o)), .val (.int (Int32.ofNat len)), .val .null, .unset] [.ref a])) rfl (by rw [hml]; rfl) (rest := []) rfl (hb hbytes d1) (W := 0) (by show 2 * 0 + 0 ≤ _; decide) (Nat.le_of_ble_eq_true rfl) (Nat.le_of_ble_eq_true rfl)
  have hh3 := q3.trans hh0
  have c4 : Steps p.tables e below (s₁.setTop (entryFrame m #[.ref a, .ref b, .int (Int32.ofNat o), .int (Int32.ofNat len), .null] 6)) (T3.setTop (mkF m 27 #[.val (.ref a), .val (.ref b), .val (.int (Int32.ofNat o)), .val (.int (Int32.ofNat len)), .val .null, .unset] [])) := (c2.trans (st3 _ (Steps.refl _))).trans (by
    refine XS.iloadN X3.here hexec rfl (hb hbytes d4) rfl ?_
    refine XS.ifYes X3.here hexec rfl (pc0 := 5) rfl (hb hbytes d5) rfl (i0_ne_t (nz32 (by omega) l0)) (by decide) rfl ?_
    exact Steps.refl _)
  obtain ⟨T5, X5, q5, st5⟩ := X3.sget hexec hown (wk W (.fieldLink "java/lang/String" 38 "java/lang/String" "COMPACT_STRINGS" "Z")) s1 (fun _ _ h => by rw [hh3]; exact h) (g := (mkF m 27 #[.val (.ref a), .val (.ref b), .val (.int (Int32.ofNat o)), .val (.int (Int32.ofNat len)), .val .null, .unset] [])) rfl (hb hbytes d27)
  have hh5 := q5.trans hh3
  have c6 : Steps p.tables e below (s₁.setTop (entryFrame m #[.ref a, .ref b, .int (Int32.ofNat o), .int (Int32.ofNat len), .null] 6)) (T5.setTop (mkF m 30 #[.val (.ref a), .val (.ref b), .val (.int (Int32.ofNat o)), .val (.int (Int32.ofNat len)), .val .null, .unset] [.int z])) := c4.trans (st5 _ (Steps.refl _))
  have c7 : Steps p.tables e below (s₁.setTop (entryFrame m #[.ref a, .ref b, .int (Int32.ofNat o), .int (Int32.ofNat len), .null] 6)) (T5.setTop (mkF m 36 #[.val (.ref a), .val (.ref b), .val (.int (Int32.ofNat o)), .val (.int (Int32.ofNat len)), .val .null, .unset] [.int (Int32.ofNat len), .int (Int32.ofNat o), .ref b])) := c6.trans (by
    refine XS.ifNo X5.here hexec rfl (hb hbytes d30) rfl (i0_eq_f hz) ?_
    refine XS.aloadN X5.here hexec rfl (hb hbytes d33) rfl rfl ?_
    refine XS.iloadN X5.here hexec rfl (hb hbytes d34) rfl ?_
    refine XS.iloadN X5.here hexec rfl (hb hbytes d35) rfl ?_
    exact Steps.refl _)
  obtain ⟨v8, T8, X8, E8, g8⟩ := X5.callS hexec (Cmp3.law l b A o len) hown (wks W (staticW "java/lang/String" 177 Cmp3.yN)) (wk W Cmp3.tab) (W := 0) (Nat.le_of_ble_eq_true rfl) (Nat.le_of_ble_eq_true rfl) (Nat.le_refl _) (by show 0 + len ≤ len; omega) (g := (mkF m 36 #[.val (.ref a), .val (.ref b), .val (.int (Int32.ofNat o)), .val (.int (Int32.ofNat len)), .val .null, .unset] [.int (Int32.ofNat len), .int (Int32.ofNat o), .ref b])) rfl (by rw [hml]; rfl) c7 (argsL := [.ref b, .int (Int32.ofNat o), .int (Int32.ofNat len)]) (rest := []) rfl rfl (by show 2 * 0 + 0 ≤ _; decide) (hb hbytes d36) (⟨rfl, hA.mv X5.warmed.alike hh5, l1, l2, hp⟩)
  obtain ⟨e8, z8⟩ := E8
  obtain ⟨rfl, N, n1, n2, n3, n4, n5, n6⟩ := NewArr.mv _ T5 s _ _ hh5.symm (Vm.Alike.refl _) rfl e8
  rw [hh5] at z8
  have hB1 := hB.keep X8.warmed.alike (n6 _ _ hB.1)
  have hne : s.heap.size ≠ a := (Nat.ne_of_lt (Array.getElem?_eq_some_iff.mp hB.1).1).symm
  have c9 : Steps p.tables e below (s₁.setTop (entryFrame m #[.ref a, .ref b, .int (Int32.ofNat o), .int (Int32.ofNat len), .null] 6)) (T8.setTop (mkF m 39 #[.val (.ref a), .val (.ref b), .val (.int (Int32.ofNat o)), .val (.int (Int32.ofNat len)), .val .null, .unset] [.ref s.heap.size])) := g8
  have c10 : Steps p.tables e below (s₁.setTop (entryFrame m #[.ref a, .ref b, .int (Int32.ofNat o), .int (Int32.ofNat len), .null] 6)) (T8.setTop (mkF m 45 #[.val (.ref a), .val (.ref b), .val (.int (Int32.ofNat o)), .val (.int (Int32.ofNat len)), .val .null, .val (.ref s.heap.size)] [.int (Int32.ofNat N.slots.size), .ref s.heap.size, .ref a])) := by
    have hc : Steps p.tables e below (s₁.setTop (entryFrame m #[.ref a, .ref b, .int (Int32.ofNat o), .int (Int32.ofNat len), .null] 6)) (T8.setTop (mkF m 45 #[.val (.ref a), .val (.ref b), .val (.int (Int32.ofNat o)), .val (.int (Int32.ofNat len)), .val .null, .val (.ref s.heap.size)] [.int (Int32.ofNat len), .ref s.heap.size, .ref a])) := c9.trans (by
      refine XS.astore X8.here hexec rfl (hb hbytes d39) rfl rfl rfl ?_
      refine XS.aloadN X8.here hexec rfl (hb hbytes d41) rfl rfl ?_
      refine XS.aload X8.here hexec rfl (hb hbytes d42) rfl rfl ?_
      refine XS.iloadN X8.here hexec rfl (hb hbytes d44) rfl ?_
      exact Steps.refl _)
    rw [n4]; exact hc
  obtain ⟨v11, T11, X11, E11, g11⟩ := X8.callS hexec (CodL.law l s.heap.size N) hown (wks W (staticW "java/lang/String" 47 CodL.yN)) (wk W CodL.tab) (W := 1) (Nat.le_of_ble_eq_true rfl) (Nat.le_of_ble_eq_true rfl) (Nat.le_refl _) (by show 0 + len + 0 ≤ len; omega) (g := (mkF m 45 #[.val (.ref a), .val (.ref b), .val (.int (Int32.ofNat o)), .val (.int (Int32.ofNat len)), .val .null, .val (.ref s.heap.size)] [.int (Int32.ofNat N.slots.size), .ref s.heap.size, .ref a])) rfl (by rw [hml]; rfl) c10 (argsL := [.ref s.heap.size, .int (Int32.ofNat N.slots.size)]) (rest := [.ref a]) rfl rfl (by show 2 * 0 + (1 + 0) ≤ _; decide) (hb hbytes d45) (⟨rfl, n1⟩)
  obtain ⟨rfl, q11⟩ := E11
  have hB11 := hB1.mv (X8.warmed.alike.symm.trans X11.warmed.alike) q11
  have c12 : Steps p.tables e below (s₁.setTop (entryFrame m #[.ref a, .ref b, .int (Int32.ofNat o), .int (Int32.ofNat len), .null] 6)) (T11.setTop (mkF m 48 #[.val (.ref a), .val (.ref b), .val (.int (Int32.ofNat o)), .val (.int (Int32.ofNat len)), .val .null, .val (.ref s.heap.size)] [.int 0, .ref a])) := g11
  obtain ⟨T13, X13, p13, bl13, sl13, st13⟩ := X11.finit hexec hown (wk W (.fieldLink "java/lang/String" 15 "java/lang/String" "coder" "B")) (Or.inr ⟨_, (wk W (.laysFinal "java/lang/String" "java/lang/String" "coder" "B"))⟩) (Or.inl ⟨rfl, hnm⟩) f2 (Or.inl rfl) hB11 (t := .byte) (by decide +kernel) rfl (g := (mkF m 48 #[.val (.ref a), .val (.ref b), .val (.int (Int32.ofNat o)), .val (.int (Int32.ofNat len)), .val .null, .val (.ref s.heap.size)] [.int 0, .ref a])) rfl (rest := []) rfl (hb hbytes d48)
  have c14 : Steps p.tables e below (s₁.setTop (entryFrame m #[.ref a, .ref b, .int (Int32.ofNat o), .int (Int32.ofNat len), .null] 6)) (T13.setTop (mkF m 54 #[.val (.ref a), .val (.ref b), .val (.int (Int32.ofNat o)), .val (.int (Int32.ofNat len)), .val .null, .val (.ref s.heap.size)] [.ref s.heap.size, .ref a])) := (c12.trans (st13 _ (Steps.refl _))).trans (by
    refine XS.aloadN X13.here hexec rfl (hb hbytes d51) rfl rfl ?_
    refine XS.aload X13.here hexec rfl (hb hbytes d52) rfl rfl ?_
    exact Steps.refl _)
  obtain ⟨T15, X15, p15, bl15, sl15, st15⟩ := X13.finit hexec hown (wk W (.fieldLink "java/lang/String" 9 "java/lang/String" "value" "[B")) (Or.inr ⟨_, (wk W (.laysFinal "java/lang/String" "java/lang/String" "value" "[B"))⟩) (Or.inl ⟨rfl, hnm⟩) f1 (Or.inl rfl) bl13 (t := (.array .byte)) (by decide +kernel) rfl (g := (mkF m 54 #[.val (.ref a), .val (.ref b), .val (.int (Int32.ofNat o)), .val (.int (Int32.ofNat len)), .val .null, .val (.ref s.heap.size)] [.ref s.heap.size, .ref a])) rfl (rest := []) rfl (hb hbytes d54)
  have c16 : Steps p.tables e below (s₁.setTop (entryFrame m #[.ref a, .ref b, .int (Int32.ofNat o), .int (Int32.ofNat len), .null] 6)) (T15.setTop (mkF m 57 #[.val (.ref a), .val (.ref b), .val (.int (Int32.ofNat o)), .val (.int (Int32.ofNat len)), .val .null, .val (.ref s.heap.size)] [])) := c14.trans (st15 _ (Steps.refl _))
  have ap := apart (Or.inr ⟨_, (wk W (.laysFinal "java/lang/String" "java/lang/String" "value" "[B"))⟩) (Or.inr ⟨_, (wk W (.laysFinal "java/lang/String" "java/lang/String" "coder" "B"))⟩) f1 f2 (t₁ := .array .byte) (t₂ := .byte) (by decide +kernel) (by decide +kernel) (by decide)
  have al := X8.warmed.alike.symm.trans X15.warmed.alike
  have n7 : T11.heap[s.heap.size]? = some N := by rw [q11]; exact n1.1
  exact ⟨T15, none, _, _, _, X15, by simp, rfl, by omega, (fun _ => rfl), ⟨rfl, _, N, bl15, ((Same.refl D _).set _ (by simp)).set _ (by simp), sl15, (Cell.slots_setSlot_ne _ ap).trans sl13, n1.keep al (p15.other hne (p13.other hne n7)), n2, by rw [al.findClass]; exact n3, n4, n5, fun y c h1 h2 => p15.other h1 (p13.other h1 (by rw [q11]; exact n6 y c h2)), by rw [p15.2.2, p13.2.2, q11]; exact z8⟩, fun fs hl => c16.trans (X15.returnOut hexec hret (hb hbytes d57) hl)⟩
end New4
namespace New1
def yN : MethodName := ⟨"java/lang/String", "<init>", "([C)V"⟩
abbrev yB : ByteArray := jdk_42_method_3_code
theorem d0 : decode yB 0 = .ok (.aload_n 0, 1) := by decide +kernel
theorem d1 : decode yB 1 = .ok (.aload_n 1, 1) := by decide +kernel
theorem d2 : decode yB 2 = .ok (.iconst 0, 1) := by decide +kernel
theorem d3 : decode yB 3 = .ok (.aload_n 1, 1) := by decide +kernel
theorem d4 : decode yB 4 = .ok (.arraylength, 1) := by decide +kernel
theorem d5 : decode yB 5 = .ok (.aconst_null, 1) := by decide +kernel
theorem d6 : decode yB 6 = .ok (.invokespecial 27, 3) := by decide +kernel
theorem d9 : decode yB 9 = .ok (.return_, 1) := by decide +kernel
def site : List Cond := [New4.tab] ++ initW "java/lang/String" 27 New4.yN
def tab : Cond := tabOf yN yB 2 none site
def P (a : Addr) (D : Cell) (fV fC : Field) (b : Addr) (A : Cell) (z : Int32) (args : Array Value) (s : State) : Prop := args = #[.ref a, .ref b] ∧ Blank "java/lang/String" a D s ∧ Found "java/lang/String" "value" "[B" fV s ∧ Found "java/lang/String" "coder" "B" fC s ∧ Ch b A s ∧ StaticIs s "java/lang/String" "COMPACT_STRINGS" "Z" (.int z) ∧ ¬ z = 0 ∧ 0 < A.slots.size ∧ A.slots.size ≤ 536870912 ∧ ∀ i, i < A.slots.size → ¬ 255 < cv A i
def E (a : Addr) (D : Cell) (fV fC : Field) (A : Cell) (r : Option Value) (s u : State) : Prop := Got a D fV fC A 0 A.slots.size r s u
/-- new String(chars), not empty, no char above 255: a Latin-1 String of their low bytes -/
theorem law (l : Launch) (a : Addr) (D : Cell) (fV fC : Field) (b : Addr) (A : Cell) (z : Int32) : Law l yN 2 1 3 52 yB 2 none site (P a D fV fC b A z) (E a D fV fC A) [⟨a, fC.slot⟩, ⟨a, fV.slot⟩] 1 A.slots.size := by
  refine Law.of_walk (plainFor_of_name (by decide +kernel)) (by decide +kernel) (by decide +kernel) (by decide) (fun _ _ h => by rw [h.1]; rfl) (fun _ U U' hal hh h => ⟨h.1, h.2.1.mv hal hh, h.2.2.1.al hal, h.2.2.2.1.al hal, h.2.2.2.2.1.mv hal hh, h.2.2.2.2.2.1.there hal hh, h.2.2.2.2.2.2⟩) (fun r U U' V V' h1 hal h2 h => Got.mv r U U' V V' h1 hal h2 h) ?_
  intro p e s m args below meth c s₁ X0 hexec hbytes hml hret hlk hnm hown hh0 W hP
  obtain ⟨rfl, hB, f1, f2, hA, s1, hz, l0, l2, hp⟩ := hP
  have c1 : Steps p.tables e below (s₁.setTop (entryFrame m #[.ref a, .ref b] 2)) (s₁.setTop (mkF m 0 #[.val (.ref a), .val (.ref b)] [])) := entry rfl
  have c2 : Steps p.tables e below (s₁.setTop (entryFrame m #[.ref a, .ref b] 2)) (s₁.setTop (mkF m 6 #[.val (.ref a), .val (.ref b)] [.null, .int (Int32.ofNat A.slots.size), .int 0, .ref b, .ref a])) := c1.trans (by
    refine XS.aloadN X0.here hexec rfl (hb hbytes d0) rfl rfl ?_
    refine XS.aloadN X0.here hexec rfl (hb hbytes d1) rfl rfl ?_
    refine iconstV X0.here hexec rfl 0 (hb hbytes d2) (by decide) ?_
    refine XS.aloadN X0.here hexec rfl (hb hbytes d3) rfl rfl ?_
    refine X0.alen hexec (hA.1.mv X0.warmed.alike hh0) rfl rfl (hb hbytes d4) ?_
    refine XS.aconstNull X0.here hexec rfl (hb hbytes d5) ?_
    exact Steps.refl _)
  obtain ⟨v3, T3, X3, E3, g3⟩ := X0.callN hexec (New4.law l a D fV fC b A z 0 A.slots.size) rfl hown (wks W (initW "java/lang/String" 27 New4.yN)) (W New4.tab (by simp only [site, List.mem_cons, List.mem_append, true_or, or_true])) (W := 0) (Nat.le_of_ble_eq_true rfl) (Nat.le_of_ble_eq_true rfl) (Nat.le_refl _) (by show 0 + A.slots.size ≤ A.slots.size; omega) (g := (mkF m 6 #[.val (.ref a), .val (.ref b)] [.null, .int (Int32.ofNat A.slots.size), .int (Int32.ofNat 0), .ref b, .ref a])) rfl (by rw [hml]; rfl) c2 (argsL := [.ref b, .int (Int32.ofNat 0), .int (Int32.ofNat A.slots.size), .null]) (rest := []) rfl rfl (by show 2 * 0 + 0 ≤ _; decide) (hb hbytes d6) (⟨rfl, hB.mv X0.warmed.alike hh0, f1.al X0.warmed.alike, f2.al X0.warmed.alike, hA.mv X0.warmed.alike hh0, s1.there X0.warmed.alike hh0, hz, l0, by omega, l2, fun i hi => by rw [Nat.zero_add]; exact hp i hi⟩)
  have e0 := Got.mv _ s₁ s _ _ hh0.symm (Vm.Alike.refl _) rfl E3
  obtain rfl := e0.1
  have c4 : Steps p.tables e below (s₁.setTop (entryFrame m #[.ref a, .ref b] 2)) (T3.setTop (mkF m 9 #[.val (.ref a), .val (.ref b)] [])) := g3
  exact ⟨T3, none, _, _, _, X3, by simp, rfl, by omega, (fun _ => rfl), e0, fun fs hl => c4.trans (X3.returnOut hexec hret (hb hbytes d9) hl)⟩
theorem pays {l : Launch} {R : Room} {p : Program} {e : Env} {below : List Frame} {s : State} {sargs : Array Value} {len W : Nat} (a : Addr) (D : Cell) (fV fC : Field) (b : Addr) (A : Cell) (z : Int32) (htab : tab.before sargs s = true) (hfr : 4 ≤ R.frames) (hlo : W + 65 ≤ R.locals) :
    Back l R p e below s sargs yN len W (fun A₁ a₁ => A₁.cells + 1 ≤ R.cells ∧ A₁.slots + A.slots.size ≤ R.slots ∧ P a D fV fC b A z a₁ A₁.U) (fun A₁ _ v₁ B₁ => E a D fV fC A v₁ A₁.U B₁.U ∧ B₁.locs = A₁.locs ++ [⟨a, fC.slot⟩, ⟨a, fV.slot⟩] ∧ B₁.cells = A₁.cells + 1 ∧ B₁.slots = A₁.slots + A.slots.size) :=
  (law l a D fV fC b A z).pays htab hfr (by omega)
end New1
end StrChars
namespace StrChars.Road
open Jvm Sem ClassFile Op Lib Jvm.Stand Jvm.Free Jvm.Free.XT
open Jvm.Lib.Cold (StaticIs)
abbrev ST : String := "java/lang/String"
/-- every table word that New1's law asks, flat -/
abbrev words : List Jvm.Cond := [.code New1.yN New1.yB 2 none, .initialized ST, .methodLink ST 27 New4.yN, .instanceMethod New4.yN,
  .code New4.yN New4.yB 6 none, .fieldLink ST 38 ST "COMPACT_STRINGS" "Z", .laysFinal ST ST "value" "[B", .fieldLink ST 9 ST "value" "[B", .laysFinal ST ST "coder" "B", .fieldLink ST 15 ST "coder" "B",
  .methodLink ST 1 Lib.objectInit, .instanceMethod Lib.objectInit, .code Lib.objectInit ⟨#[0xb1]⟩ 1 none, .methodLink ST 177 Cmp3.yN, .static Cmp3.yN, .methodLink ST 47 CodL.yN, .static CodL.yN,
  .code Cmp3.yN Cmp3.yB 6 (some (.array .byte)), .initialized U16, .arrayClass .byte, .methodLink U16 115 Cmp5.yN, .static Cmp5.yN, .code Cmp5.yN Cmp5.yB 7 (some .int), .code CodL.yN CodL.yB 2 (some .byte)]
theorem tab_of {a : Array Value} {s : State} (h : ∀ w ∈ words, w.before a s = true) : New1.tab.before a s = true := by
  have h5 : Cmp5.tab.before a s = true := unparts (wk h (.code Cmp5.yN Cmp5.yB 7 (some .int))) (wks h (.initialized Cmp5.yN.cls :: Cmp5.site))
  have hc : CodL.tab.before a s = true := unparts (wk h (.code CodL.yN CodL.yB 2 (some .byte))) (wks h (.initialized CodL.yN.cls :: CodL.site))
  have q5 : ∀ w ∈ Cmp5.tab :: words, w.before a s = true := fun w hw => (List.mem_cons.mp hw).elim (fun e => e ▸ h5) (h w)
  have h3 : Cmp3.tab.before a s = true := unparts (wk q5 (.code Cmp3.yN Cmp3.yB 6 (some (.array .byte)))) (wks q5 (.initialized Cmp3.yN.cls :: Cmp3.site))
  have q3 : ∀ w ∈ Cmp3.tab :: CodL.tab :: words, w.before a s = true := fun w hw => (List.mem_cons.mp hw).elim (fun e => e ▸ h3) fun hw => (List.mem_cons.mp hw).elim (fun e => e ▸ hc) (h w)
  have h4 : New4.tab.before a s = true := unparts (wk q3 (.code New4.yN New4.yB 6 none)) (wks q3 (.initialized New4.yN.cls :: New4.site))
  have q4 : ∀ w ∈ New4.tab :: words, w.before a s = true := fun w hw => (List.mem_cons.mp hw).elim (fun e => e ▸ h4) (h w)
  exact unparts (wk q4 (.code New1.yN New1.yB 2 none)) (wks q4 (.initialized New1.yN.cls :: New1.site))
/-- the words ride from the start Z to the walk's own state -/
theorem moved {Z s : State} {a0 args : Array Value} (hZ : Z.Warmed39 s.vm) (hw : ∀ d ∈ words, d.before a0 Z = true) : ∀ d ∈ words, d.before args s = true := fun d hd => by
  have q := hw d hd
  have t : ∀ d ∈ words, d = .arrayClass .byte ∨ (d.onTables && d.keepsFace) = true := by decide +kernel
  rcases t d hd with rfl | t
  · exact RoadKit.mvA hZ q
  · exact RoadKit.mv hZ q t
/-- WHAT COMES BACK, over the tables of the start Z: h the heap at the call, h' behind it -/
def Q (Z : State) (x : Addr) (A : Cell) (h : Heap) (v : Option Value) (h' : Heap) (L : List Loc) : Prop := v = none ∧ (∀ y ∈ L, y.base = x) ∧ RoadKit.Keep h h' [x] ∧ h'.size = h.size + 1 ∧ RoadKit.Exa Z h' x ST ∧ RoadKit.Fld Z h' x ST "value" "[B" (.ref h.size) ∧ RoadKit.Fld Z h' x ST "coder" "B" (.int 0) ∧
  (∃ V : Cell, RoadKit.Arr Z h' h.size V .byte ∧ V.vm = .none ∧ Z.vm.findClass "[B" = some V.cls ∧ V.slots.size = A.slots.size ∧ ∀ j, j < A.slots.size → V.slots[j]? = some (.int (lo8 (cv A j)))) ∧
  ∀ (O n d : String) (w : Value), RoadKit.Fld Z h x O n d w → RoadKit.slotOf Z O n d ≠ RoadKit.slotOf Z ST "value" "[B" → RoadKit.slotOf Z O n d ≠ RoadKit.slotOf Z ST "coder" "B" → RoadKit.Fld Z h' x O n d w
/-- **new String(chars) AT A CALL, IN THE ROAD'S FORM**: for specialBack behind newO: x the fresh String, b the char[] with the cell A -/
theorem back {p : Program} {l : Launch} {e : Env} {R : Room} {s : State} {args : Array Value} {below : List Frame} {len W : Nat} {Z : State} {a0 : Array Value} {h : Heap} (hZ : Z.Warmed39 s.vm) (hw : ∀ d ∈ words, d.before a0 Z = true) {kI : Nat} (wi : (Jvm.Cond.instantiable ST kI).before a0 Z = true)
    {x b : Addr} {A : Cell} {z : Int32} {v0 c0 : Value} (E : RoadKit.Exa Z h x ST) (V : RoadKit.Fld Z h x ST "value" "[B" v0) (C : RoadKit.Fld Z h x ST "coder" "B" c0) (K : RoadKit.Arr Z h b A .char) (hty : Typed .char A) (S : RoadKit.Sta Z h ST "COMPACT_STRINGS" "Z" (.int z)) (hz : ¬ z = 0)
    (l0 : 0 < A.slots.size) (l2 : A.slots.size ≤ 536870912) (hp : ∀ i, i < A.slots.size → ¬ 255 < cv A i) (hfr : 4 ≤ R.frames) (hlo : W + 65 ≤ R.locals) :
    Back l R p e below s args New1.yN len W (fun P a => a = #[.ref x, .ref b] ∧ P.U.heap = h ∧ P.cells + 1 ≤ R.cells ∧ P.slots + A.slots.size ≤ R.slots)
      (fun P _ v B => ∃ L, Q Z x A h v B.U.heap L ∧ B.locs = P.locs ++ L ∧ B.cells = P.cells + 1 ∧ B.slots = P.slots + A.slots.size) := by
  intro m meth c P g ig mk a X hg hsize hdg hW hn hp'
  obtain ⟨rfl, rfl, r1, r2⟩ := hp'
  have al : Z.vm.Alike P.U.vm := hZ.alike.trans X.warmed.alike
  obtain ⟨D, cfV, kV, iV, fV, hD, gV, stV, knV, obV, asV, slV⟩ := id V
  obtain ⟨D', cfC, kC, iC, fC, hD', gC, stC, -, -, asC, slC⟩ := id C
  cases hD.symm.trans hD'
  obtain ⟨D2, kD, e1, e2, e3, e4, e5⟩ := id E
  cases hD.symm.trans e1
  obtain ⟨c2, k2, i1, i2, i3, -⟩ := Cond.instantiable_spec wi
  cases e2.symm.trans i1
  cases e3.symm.trans i2
  obtain ⟨kU, u1, u2⟩ := al.2.2 _ _ e3
  have hB : Blank ST x D P.U := ⟨hD, ⟨knV, fun q hq => by rw [hq] at obV; cases obV⟩, by rw [al.findClass]; exact e2, kU, u1, by rw [u2]; exact i3, by rw [u2]; exact e5 i3⟩
  have F1 : Found ST "value" "[B" fV P.U := ⟨SBG.found_only al ⟨cfV, kV, iV, gV⟩, stV⟩
  have F2 : Found ST "coder" "B" fC P.U := ⟨SBG.found_only al ⟨cfC, kC, iC, gC⟩, stC⟩
  have hA : Ch b A P.U := ⟨⟨K.1, State.isArrayOf_alike al K.2.1, K.2.2, by omega⟩, hty⟩
  have hS : StaticIs P.U ST "COMPACT_STRINGS" "Z" (.int z) := by
    obtain ⟨cfS, iS, kS, fS, st, cS, t1, t2, t3, t4, t5, t6, t7⟩ := S
    exact StaticIs.there (s := { Z with heap := P.U.heap }) ⟨cfS, iS, kS, fS, st, cS, t1, t2, t3, t4, t5, (fun q => by rw [q] at t6; cases t6), t7⟩ al rfl
  obtain ⟨v, B, X', ⟨⟨hv, E', V', q1, q2, q3, q4, q5, q6, q7, q8, q9, q10, q11⟩, hl, hc, hs⟩, st⟩ := New1.pays x D fV fC b A z (tab_of (moved hZ hw)) hfr hlo m meth c P g ig mk _ X hg hsize hdg hW hn ⟨r1, r2, rfl, hB, F1, F2, hA, hS, hz, l0, l2, hp⟩
  have al' : Z.vm.Alike B.U.vm := hZ.alike.trans X'.warmed.alike
  have hsz : E'.slots.size = D.slots.size := by
    obtain ⟨-, -, -, kB, w1, w2, w3⟩ := q1
    obtain ⟨kB', y1, y2⟩ := al'.2.2 _ _ e3
    rw [q2.2.1] at w1
    cases w1.symm.trans y1
    rw [w3, e5 i3, y2]
  refine ⟨v, B, X', ⟨_, ⟨hv, ?_, ⟨by omega, fun y cy hy hn' => q10 y cy (by simpa using hn') hy, fun y cy hy => ?_⟩, q11, ⟨E', _, q1.1, by rw [q2.2.1]; exact e2, by rw [q2.2.1]; exact e3, by rw [q2.1]; exact obV, fun _ => by rw [hsz]; exact e5 i3⟩,
    ⟨E', cfV, kV, iV, fV, q1.1, gV, stV, by rw [q2.1]; exact knV, by rw [q2.1]; exact obV, by rw [q2.2.1]; exact asV, q3⟩, ⟨E', cfC, kC, iC, fC, q1.1, gC, stC, by rw [q2.1]; exact knV, by rw [q2.1]; exact obV, by rw [q2.2.1]; exact asC, q4⟩,
    ⟨V', ⟨q5.1, State.isArrayOf_alike al'.symm q5.2.1, q5.2.2.1⟩, q6, by rw [← al'.findClass]; exact q7, q8, fun j hj => by have := q9 j hj; rwa [Nat.zero_add] at this⟩, fun O n d w F n1 n2 => ?_⟩, hl, hc, hs⟩, st⟩
  · intro y hy
    simp only [List.mem_cons, List.not_mem_nil, or_false] at hy
    rcases hy with rfl | rfl <;> rfl
  · by_cases q : y = x
    · subst q
      cases hD.symm.trans hy
      exact ⟨E', q1.1, q2.2.1, q2.1, hsz⟩
    · exact ⟨cy, q10 y cy q hy, rfl, rfl, rfl⟩
  · obtain ⟨D3, cf, k, i, f, g1, g2, g3, g4, g5, g6, g7⟩ := F
    cases hD.symm.trans g1
    simp only [RoadKit.slotOf, g2, gV, gC, Option.map_some, Option.getD_some] at n1 n2
    exact ⟨E', cf, k, i, f, q1.1, g2, g3, by rw [q2.1]; exact g4, by rw [q2.1]; exact g5, by rw [q2.2.1]; exact g6, by rw [q2.2.2 f.slot (by simp [n1, n2])]; exact g7⟩
end StrChars.Road
namespace StrChars.Road
open Jvm Sem ClassFile Op Lib Jvm.Stand Jvm.Free Jvm.Free.XT
/-- WHAT COMES BACK, the byte[] as a list of values -/
def QA (Z : State) (x : Addr) (zn : Int32) (cs : List Int32) (h : Heap) (v : Option Value) (h' : Heap) (L : List Loc) : Prop := v = none ∧ (∀ y ∈ L, y.base = x) ∧ RoadKit.Keep h h' [x] ∧ h'.size = h.size + 1 ∧ RoadKit.Exa Z h' x ST ∧ RoadKit.Fld Z h' x ST "value" "[B" (.ref h.size) ∧ RoadKit.Fld Z h' x ST "coder" "B" (.int 0) ∧
  (∃ kb, Z.vm.findClass "[B" = some kb ∧ RoadKit.Arv Z h' h.size kb .byte zn (cs.map fun c => .int (lo8 c)) (.int 0)) ∧
  ∀ (O n d : String) (w : Value), RoadKit.Fld Z h x O n d w → RoadKit.slotOf Z O n d ≠ RoadKit.slotOf Z ST "value" "[B" → RoadKit.slotOf Z O n d ≠ RoadKit.slotOf Z ST "coder" "B" → RoadKit.Fld Z h' x O n d w
/-- **new String(chars) AT A CALL, THE ARRAYS AS LISTS**: the char[] at b holds cs, not empty, no char above 255 -/
theorem backArv {p : Program} {l : Launch} {e : Env} {R : Room} {s : State} {args : Array Value} {below : List Frame} {len W : Nat} {Z : State} {a0 : Array Value} {h : Heap} (hZ : Z.Warmed39 s.vm) (hw : ∀ d ∈ words, d.before a0 Z = true) {kI : Nat} (wi : (Jvm.Cond.instantiable ST kI).before a0 Z = true)
    {x b : Addr} {k : ClassId} {zn z : Int32} {cs : List Int32} {dv v0 c0 : Value} (E : RoadKit.Exa Z h x ST) (V : RoadKit.Fld Z h x ST "value" "[B" v0) (C : RoadKit.Fld Z h x ST "coder" "B" c0) (K : RoadKit.Arv Z h b k .char zn (cs.map Value.int) dv) (S : RoadKit.Sta Z h ST "COMPACT_STRINGS" "Z" (.int z)) (hz : ¬ z = 0)
    (hlen : zn.toNatClampNeg = cs.length) (h0 : 0 < cs.length) (hbig : cs.length ≤ 536870912) (hall : ∀ c ∈ cs, ¬ 255 < c) (hfr : 4 ≤ R.frames) (hlo : W + 65 ≤ R.locals) :
    Back l R p e below s args New1.yN len W (fun P a => a = #[.ref x, .ref b] ∧ P.U.heap = h ∧ P.cells + 1 ≤ R.cells ∧ P.slots + cs.length ≤ R.slots)
      (fun P _ v B => ∃ L, QA Z x zn cs h v B.U.heap L ∧ B.locs = P.locs ++ L ∧ B.cells = P.cells + 1 ∧ B.slots = P.slots + cs.length) := by
  obtain ⟨A, K1, K2, K3, K4, K5, K6⟩ := K
  have e : A.slots.size = cs.length := K3.trans hlen
  have hat : ∀ (i : Nat) (hi : i < cs.length), A.slots[i]? = some (.int cs[i]) := fun i hi => by rw [K5 i (by omega)]; simp [List.getD_eq_getElem?_getD, hi]
  have hcv : ∀ (i : Nat) (hi : i < cs.length), cv A i = cs[i] := fun i hi => by unfold cv; rw [hat i hi]
  have hty : Typed .char A := fun i v hv => by
    have hi : i < A.slots.size := (Array.getElem?_eq_some_iff.mp hv).1
    have q := K5 i hi
    rw [hv] at q
    rw [Option.some.inj q]
    exact K6 i hi
  refine Back.mono (back hZ hw wi E V C K1 hty S hz (by omega) (by omega) (fun i hi => by rw [hcv i (by omega)]; exact hall _ (List.getElem_mem _)) hfr hlo) (fun P a hp => ⟨hp.1, hp.2.1, hp.2.2.1, by rw [e]; exact hp.2.2.2⟩) (fun P a v B hp hq => ?_)
  obtain ⟨L, ⟨q1, q2, q3, q4, q5, q6, q7, ⟨V', v1, v2, v3, v4, v5⟩, q9⟩, hl, hc, hs⟩ := hq
  refine ⟨L, ⟨q1, q2, q3, q4, q5, q6, q7, ⟨V'.cls, v3, V', v1, rfl, by rw [v4, e, hlen], K4, fun i hi => ?_, fun i hi => ?_⟩, q9⟩, hl, hc, by rw [hs, e]⟩
  · have hi' : i < cs.length := by omega
    rw [v5 i (by omega), hcv i hi']; simp [List.getD_eq_getElem?_getD, hi']
  · have hi' : i < cs.length := by omega
    simp only [List.getD_eq_getElem?_getD, List.getElem?_map, List.getElem?_eq_getElem hi', Option.map_some, Option.getD_some]
    exact fits_lo8 _
end StrChars.Road
namespace StrChars.Road
open Jvm Sem ClassFile Op Lib Jvm.Stand Jvm.Free Jvm.Free.XT
/-- WHAT COMES BACK, in the writer's own shape -/
def QV (Z : State) (x : Addr) (N : Int32) (bs : List Int32) (h : Heap) (n0 : Nat) (v : Option Value) (h' : Heap) (L : List Loc) : Prop := v = none ∧ RoadKit.Fr n0 L ∧ RoadKit.Keep h h' [x] ∧ RoadKit.Exa Z h' x ST ∧ RoadKit.Fld Z h' x ST "coder" "B" (.int 0) ∧
  ∃ (t : Addr) (kb : ClassId), n0 ≤ t ∧ h.size ≤ t ∧ ¬ t = x ∧ RoadKit.Fld Z h' x ST "value" "[B" (.ref t) ∧ RoadKit.Arv Z h' t kb .byte N (bs.map Value.int) (.int 0)
/-- **new String(chars) AT A CALL, FOR THE WRITER**: a char[] of n known ints, each 0 to 255 -/
theorem backV {p : Program} {l : Launch} {e : Env} {R : Room} {s : State} {args : Array Value} {below : List Frame} {len W : Nat} {Z : State} {a0 : Array Value} {h : Heap} (hZ : Z.Warmed39 s.vm) (hw : ∀ d ∈ words, d.before a0 Z = true) {kI : Nat} (wi : (Jvm.Cond.instantiable ST kI).before a0 Z = true)
    {x b : Addr} {kC : ClassId} {cs bs : List Int32} {d v0 c0 : Value} {z N : Int32} {n n0 : Nat} (hx0 : n0 ≤ x) (hh0 : n0 ≤ h.size) (E : RoadKit.Exa Z h x ST) (V : RoadKit.Fld Z h x ST "value" "[B" v0) (C : RoadKit.Fld Z h x ST "coder" "B" c0) (K : RoadKit.Arv Z h b kC .char N (cs.map Value.int) d) (S : RoadKit.Sta Z h ST "COMPACT_STRINGS" "Z" (.int z)) (hz : ¬ z = 0)
    (hn : cs.length = n) (hN : N = Int32.ofNat n) (l0 : 0 < n) (l2 : n ≤ 4000) (hp : ∀ c ∈ cs, ¬ c < 0 ∧ ¬ (255 : Int32) < c) (hb : bs = cs.map (fun c => c.toInt8.toInt32)) (hfr : 4 ≤ R.frames) (hlo : W + 65 ≤ R.locals) :
    Back l R p e below s args (⟨"java/lang/String", "<init>", "([C)V"⟩ : MethodName) len W (fun P a => a = #[.ref x, .ref b] ∧ P.U.heap = h ∧ P.cells + 1 ≤ R.cells ∧ P.slots + n ≤ R.slots)
      (fun P _ v B => ∃ L, QV Z x N bs h n0 v B.U.heap L ∧ B.locs = P.locs ++ L ∧ B.cells = P.cells + 1 ∧ B.slots = P.slots + n) := by
  subst hn hN hb
  refine Back.mono (backArv hZ hw wi E V C K S hz (n32 (by omega)) l0 (by omega) (fun c hc => (hp c hc).2) hfr hlo) (fun P a hp => hp) (fun P a v B hp hq => ?_)
  obtain ⟨L, ⟨q1, q2, q3, q4, q5, q6, q7, ⟨kb, v1, v2⟩, q9⟩, hl, hc, hs⟩ := hq
  exact ⟨L, ⟨q1, fun y hy => by rw [q2 y hy]; exact hx0, q3, q5, q7, h.size, kb, hh0, Nat.le_refl _, Nat.ne_of_gt E.lt, q6, by rw [List.map_map]; exact v2⟩, hl, hc, hs⟩
end StrChars.Road
end Jvm.Pilot.@@N@@
namespace Jvm.Pilot.@@N@@
open Jvm Jvm.ClassFile Sem Op Lib Jvm.Free Jvm.Stand Jvm.LawKit Jvm.RoadKit Bundle Jvm.Pilot.@@N@@.Jvm.D
set_option maxRecDepth 65536
set_option maxHeartbeats 40000000
abbrev kc0 : String := "java/lang/String"
abbrev kc1 : String := "com/example/roundkeeper/roundkeeper/Turn"
abbrev kc2 : String := "com/example/roundkeeper/roundkeeper/ruleset/segments/Fighter"
abbrev EL : List (String × Nat) := []
theorem own_and255 (x : Int32) : ¬ ((x &&& (255 : Int32)).toUInt32.toUInt16.toUInt32.toInt32) < 0 ∧ ¬ (255 : Int32) < ((x &&& (255 : Int32)).toUInt32.toUInt16.toUInt32.toInt32) := by
  have t : ∀ k : Fin 256, ¬ ((Int32.ofNat k.val).toUInt32.toUInt16.toUInt32.toInt32) < 0 ∧ ¬ (255 : Int32) < ((Int32.ofNat k.val).toUInt32.toUInt16.toUInt32.toInt32) := by decide +kernel
  have h : (x &&& 255).toBitVec.toNat < 256 := by
    rw [Int32.toBitVec_and, BitVec.toNat_and]
    exact Nat.lt_succ_of_le Nat.and_le_right
  have e : (x &&& 255) = Int32.ofNat (x &&& 255).toBitVec.toNat := by
    apply Int32.toBitVec_inj.mp
    show _ = BitVec.ofNat 32 _
    rw [BitVec.ofNat_toNat]; simp
  rw [e]
  exact t ⟨_, h⟩
theorem own_lat (x : Int32) : (((((x &&& (255 : Int32)).toUInt32.toUInt16.toUInt32.toInt32).toInt8.toInt32) &&& (255 : Int32)).toUInt32.toUInt16.toUInt32.toInt32) = ((x &&& (255 : Int32)).toUInt32.toUInt16.toUInt32.toInt32) := by
  have t : ∀ k : Fin 256, (((((Int32.ofNat k.val).toUInt32.toUInt16.toUInt32.toInt32).toInt8.toInt32) &&& (255 : Int32)).toUInt32.toUInt16.toUInt32.toInt32) = ((Int32.ofNat k.val).toUInt32.toUInt16.toUInt32.toInt32) := by decide +kernel
  have h : (x &&& 255).toBitVec.toNat < 256 := by
    rw [Int32.toBitVec_and, BitVec.toNat_and]
    exact Nat.lt_succ_of_le Nat.and_le_right
  have e : (x &&& 255) = Int32.ofNat (x &&& 255).toBitVec.toNat := by
    apply Int32.toBitVec_inj.mp
    show _ = BitVec.ofNat 32 _
    rw [BitVec.ofNat_toNat]; simp
  rw [e]
  exact t ⟨_, h⟩
theorem own_hws {Z : State} {a0 : Array Value} (hw : ∀ d ∈ tables_1, d.before a0 Z = true) : ∀ d ∈ StrChars.Road.words, d.before a0 Z = true := fun d hd => hw d ((by decide +kernel : ∀ d ∈ StrChars.Road.words, d ∈ tables_1) d hd)
abbrev DC (b : ByteArray) (p : Nat) (i : Instr) (n : Nat) : Prop := ∀ {c : Code}, c.code = b → decode c.code p = .ok (i, n)
abbrev WD (w : Jvm.Cond) : Prop := ∀ {Z : State} {a0 : Array Value}, (∀ d ∈ tables_1, d.before a0 Z = true) → w.before a0 Z = true
theorem own_wd (i : Nat) {w : Jvm.Cond} (h : tables_1[i]? = some w) {Z : State} {a0 : Array Value} (hw : ∀ d ∈ tables_1, d.before a0 Z = true) : w.before a0 Z = true := hw _ (List.mem_of_getElem? h)
abbrev yn_1 : MethodName := ⟨"com/example/roundkeeper/roundkeeper/ruleset/segments/FighterTurn385PinLaw", "draw", "(II)Ljava/lang/String;"⟩
abbrev yn_2 : MethodName := ⟨"com/example/roundkeeper/roundkeeper/ruleset/segments/Fighter", "<init>", "(Ljava/lang/String;Ljava/lang/String;IZI)V"⟩
abbrev yn_3 : MethodName := ⟨"java/lang/Record", "<init>", "()V"⟩
abbrev yn_5 : MethodName := ⟨"com/example/roundkeeper/roundkeeper/ruleset/segments/Fighter", "turn", "()Lcom/example/roundkeeper/roundkeeper/Turn;"⟩
abbrev yn_6 : MethodName := ⟨"com/example/roundkeeper/roundkeeper/Turn", "<init>", "(Ljava/lang/String;Ljava/lang/String;I)V"⟩
abbrev yn_7 : MethodName := ⟨"com/example/roundkeeper/roundkeeper/Turn", "<init>", "(Ljava/lang/String;Ljava/lang/String;IZ)V"⟩
abbrev yn_8 : MethodName := ⟨"com/example/roundkeeper/roundkeeper/Turn", "name", "()Ljava/lang/String;"⟩
abbrev yn_9 : MethodName := ⟨"com/example/roundkeeper/roundkeeper/Turn", "side", "()Ljava/lang/String;"⟩
abbrev yn_10 : MethodName := ⟨"com/example/roundkeeper/roundkeeper/Turn", "initiative", "()I"⟩
abbrev yn_11 : MethodName := ⟨"com/example/roundkeeper/roundkeeper/Turn", "simultaneous", "()Z"⟩
abbrev yn_12 : MethodName := ⟨"java/lang/String", "<init>", "([C)V"⟩
abbrev yn_17 : MethodName := ⟨"java/lang/String", "valueOf", "(C)Ljava/lang/String;"⟩
abbrev yn_18 : MethodName := ⟨"java/lang/StringLatin1", "canEncode", "(C)Z"⟩
abbrev yn_19 : MethodName := ⟨"java/lang/StringLatin1", "toBytes", "(C)[B"⟩
abbrev yn_20 : MethodName := ⟨"java/lang/String", "<init>", "([BB)V"⟩
theorem d3_0 : DC jdk_30_method_1_code 0 (.aload_n 0) 1 := fun h => hb h (by decide +kernel)
theorem d3_1 : DC jdk_30_method_1_code 1 (.invokespecial 1) 3 := fun h => hb h (by decide +kernel)
theorem d3_4 : DC jdk_30_method_1_code 4 (.return_) 1 := fun h => hb h (by decide +kernel)
theorem d17_0 : DC jdk_42_method_139_code 0 (.getstatic 38) 3 := fun h => hb h (by decide +kernel)
theorem d17_3 : DC jdk_42_method_139_code 3 (.ifCond .eq 23) 3 := fun h => hb h (by decide +kernel)
theorem d17_6 : DC jdk_42_method_139_code 6 (.iload_n 0) 1 := fun h => hb h (by decide +kernel)
theorem d17_7 : DC jdk_42_method_139_code 7 (.invokestatic 1015) 3 := fun h => hb h (by decide +kernel)
theorem d17_10 : DC jdk_42_method_139_code 10 (.ifCond .eq 16) 3 := fun h => hb h (by decide +kernel)
theorem d17_13 : DC jdk_42_method_139_code 13 (.new 10) 3 := fun h => hb h (by decide +kernel)
theorem d17_16 : DC jdk_42_method_139_code 16 (.dup) 1 := fun h => hb h (by decide +kernel)
theorem d17_17 : DC jdk_42_method_139_code 17 (.iload_n 0) 1 := fun h => hb h (by decide +kernel)
theorem d17_18 : DC jdk_42_method_139_code 18 (.invokestatic 1018) 3 := fun h => hb h (by decide +kernel)
theorem d17_21 : DC jdk_42_method_139_code 21 (.iconst 0) 1 := fun h => hb h (by decide +kernel)
theorem d17_22 : DC jdk_42_method_139_code 22 (.invokespecial 209) 3 := fun h => hb h (by decide +kernel)
theorem d17_25 : DC jdk_42_method_139_code 25 (.areturn) 1 := fun h => hb h (by decide +kernel)
theorem d20_0 : DC jdk_42_method_151_code 0 (.aload_n 0) 1 := fun h => hb h (by decide +kernel)
theorem d20_1 : DC jdk_42_method_151_code 1 (.invokespecial 1) 3 := fun h => hb h (by decide +kernel)
theorem d20_4 : DC jdk_42_method_151_code 4 (.aload_n 0) 1 := fun h => hb h (by decide +kernel)
theorem d20_5 : DC jdk_42_method_151_code 5 (.aload_n 1) 1 := fun h => hb h (by decide +kernel)
theorem d20_6 : DC jdk_42_method_151_code 6 (.putfield 9) 3 := fun h => hb h (by decide +kernel)
theorem d20_9 : DC jdk_42_method_151_code 9 (.aload_n 0) 1 := fun h => hb h (by decide +kernel)
theorem d20_10 : DC jdk_42_method_151_code 10 (.iload_n 2) 1 := fun h => hb h (by decide +kernel)
theorem d20_11 : DC jdk_42_method_151_code 11 (.putfield 15) 3 := fun h => hb h (by decide +kernel)
theorem d20_14 : DC jdk_42_method_151_code 14 (.return_) 1 := fun h => hb h (by decide +kernel)
theorem d18_0 : DC jdk_43_method_3_code 0 (.iload_n 0) 1 := fun h => hb h (by decide +kernel)
theorem d18_1 : DC jdk_43_method_3_code 1 (.sipush 255) 3 := fun h => hb h (by decide +kernel)
theorem d18_4 : DC jdk_43_method_3_code 4 (.if_icmp .gt 7) 3 := fun h => hb h (by decide +kernel)
theorem d18_7 : DC jdk_43_method_3_code 7 (.iconst 1) 1 := fun h => hb h (by decide +kernel)
theorem d18_8 : DC jdk_43_method_3_code 8 (.goto 4) 3 := fun h => hb h (by decide +kernel)
theorem d18_12 : DC jdk_43_method_3_code 12 (.ireturn) 1 := fun h => hb h (by decide +kernel)
theorem d19_0 : DC jdk_43_method_46_code 0 (.iconst 1) 1 := fun h => hb h (by decide +kernel)
theorem d19_1 : DC jdk_43_method_46_code 1 (.newarray .byte) 2 := fun h => hb h (by decide +kernel)
theorem d19_3 : DC jdk_43_method_46_code 3 (.dup) 1 := fun h => hb h (by decide +kernel)
theorem d19_4 : DC jdk_43_method_46_code 4 (.iconst 0) 1 := fun h => hb h (by decide +kernel)
theorem d19_5 : DC jdk_43_method_46_code 5 (.iload_n 0) 1 := fun h => hb h (by decide +kernel)
theorem d19_6 : DC jdk_43_method_46_code 6 (.i2b) 1 := fun h => hb h (by decide +kernel)
theorem d19_7 : DC jdk_43_method_46_code 7 (.bastore) 1 := fun h => hb h (by decide +kernel)
theorem d19_8 : DC jdk_43_method_46_code 8 (.areturn) 1 := fun h => hb h (by decide +kernel)
theorem d1_0 : DC method_2_code 0 (.iload_n 1) 1 := fun h => hb h (by decide +kernel)
theorem d1_1 : DC method_2_code 1 (.iconst 3) 1 := fun h => hb h (by decide +kernel)
theorem d1_2 : DC method_2_code 2 (.iand) 1 := fun h => hb h (by decide +kernel)
theorem d1_3 : DC method_2_code 3 (.istore_n 2) 1 := fun h => hb h (by decide +kernel)
theorem d1_4 : DC method_2_code 4 (.iload_n 2) 1 := fun h => hb h (by decide +kernel)
theorem d1_5 : DC method_2_code 5 (.ifCond .ne 5) 3 := fun h => hb h (by decide +kernel)
theorem d1_8 : DC method_2_code 8 (.aconst_null) 1 := fun h => hb h (by decide +kernel)
theorem d1_9 : DC method_2_code 9 (.areturn) 1 := fun h => hb h (by decide +kernel)
theorem d1_10 : DC method_2_code 10 (.iload_n 2) 1 := fun h => hb h (by decide +kernel)
theorem d1_11 : DC method_2_code 11 (.iconst 1) 1 := fun h => hb h (by decide +kernel)
theorem d1_12 : DC method_2_code 12 (.if_icmp .ne 6) 3 := fun h => hb h (by decide +kernel)
theorem d1_15 : DC method_2_code 15 (.ldc 7) 2 := fun h => hb h (by decide +kernel)
theorem d1_17 : DC method_2_code 17 (.areturn) 1 := fun h => hb h (by decide +kernel)
theorem d1_18 : DC method_2_code 18 (.iload_n 2) 1 := fun h => hb h (by decide +kernel)
theorem d1_19 : DC method_2_code 19 (.iconst 2) 1 := fun h => hb h (by decide +kernel)
theorem d1_20 : DC method_2_code 20 (.if_icmp .ne 13) 3 := fun h => hb h (by decide +kernel)
theorem d1_23 : DC method_2_code 23 (.iload_n 0) 1 := fun h => hb h (by decide +kernel)
theorem d1_24 : DC method_2_code 24 (.sipush 255) 3 := fun h => hb h (by decide +kernel)
theorem d1_27 : DC method_2_code 27 (.iand) 1 := fun h => hb h (by decide +kernel)
theorem d1_28 : DC method_2_code 28 (.i2c) 1 := fun h => hb h (by decide +kernel)
theorem d1_29 : DC method_2_code 29 (.invokestatic 9) 3 := fun h => hb h (by decide +kernel)
theorem d1_32 : DC method_2_code 32 (.areturn) 1 := fun h => hb h (by decide +kernel)
theorem d1_33 : DC method_2_code 33 (.iconst 2) 1 := fun h => hb h (by decide +kernel)
theorem d1_34 : DC method_2_code 34 (.newarray .char) 2 := fun h => hb h (by decide +kernel)
theorem d1_36 : DC method_2_code 36 (.astore_n 3) 1 := fun h => hb h (by decide +kernel)
theorem d1_37 : DC method_2_code 37 (.aload_n 3) 1 := fun h => hb h (by decide +kernel)
theorem d1_38 : DC method_2_code 38 (.iconst 0) 1 := fun h => hb h (by decide +kernel)
theorem d1_39 : DC method_2_code 39 (.iload_n 0) 1 := fun h => hb h (by decide +kernel)
theorem d1_40 : DC method_2_code 40 (.sipush 255) 3 := fun h => hb h (by decide +kernel)
theorem d1_43 : DC method_2_code 43 (.iand) 1 := fun h => hb h (by decide +kernel)
theorem d1_44 : DC method_2_code 44 (.i2c) 1 := fun h => hb h (by decide +kernel)
theorem d1_45 : DC method_2_code 45 (.castore) 1 := fun h => hb h (by decide +kernel)
theorem d1_46 : DC method_2_code 46 (.aload_n 3) 1 := fun h => hb h (by decide +kernel)
theorem d1_47 : DC method_2_code 47 (.iconst 1) 1 := fun h => hb h (by decide +kernel)
theorem d1_48 : DC method_2_code 48 (.iload_n 0) 1 := fun h => hb h (by decide +kernel)
theorem d1_49 : DC method_2_code 49 (.bipush 8) 2 := fun h => hb h (by decide +kernel)
theorem d1_51 : DC method_2_code 51 (.iushr) 1 := fun h => hb h (by decide +kernel)
theorem d1_52 : DC method_2_code 52 (.sipush 255) 3 := fun h => hb h (by decide +kernel)
theorem d1_55 : DC method_2_code 55 (.iand) 1 := fun h => hb h (by decide +kernel)
theorem d1_56 : DC method_2_code 56 (.i2c) 1 := fun h => hb h (by decide +kernel)
theorem d1_57 : DC method_2_code 57 (.castore) 1 := fun h => hb h (by decide +kernel)
theorem d1_58 : DC method_2_code 58 (.new 10) 3 := fun h => hb h (by decide +kernel)
theorem d1_61 : DC method_2_code 61 (.dup) 1 := fun h => hb h (by decide +kernel)
theorem d1_62 : DC method_2_code 62 (.aload_n 3) 1 := fun h => hb h (by decide +kernel)
theorem d1_63 : DC method_2_code 63 (.invokespecial 15) 3 := fun h => hb h (by decide +kernel)
theorem d1_66 : DC method_2_code 66 (.areturn) 1 := fun h => hb h (by decide +kernel)
theorem d2_0 : DC prog_17_method_1_code 0 (.aload_n 0) 1 := fun h => hb h (by decide +kernel)
theorem d2_1 : DC prog_17_method_1_code 1 (.invokespecial 1) 3 := fun h => hb h (by decide +kernel)
theorem d2_4 : DC prog_17_method_1_code 4 (.aload_n 0) 1 := fun h => hb h (by decide +kernel)
theorem d2_5 : DC prog_17_method_1_code 5 (.aload_n 1) 1 := fun h => hb h (by decide +kernel)
theorem d2_6 : DC prog_17_method_1_code 6 (.putfield 7) 3 := fun h => hb h (by decide +kernel)
theorem d2_9 : DC prog_17_method_1_code 9 (.aload_n 0) 1 := fun h => hb h (by decide +kernel)
theorem d2_10 : DC prog_17_method_1_code 10 (.aload_n 2) 1 := fun h => hb h (by decide +kernel)
theorem d2_11 : DC prog_17_method_1_code 11 (.putfield 13) 3 := fun h => hb h (by decide +kernel)
theorem d2_14 : DC prog_17_method_1_code 14 (.aload_n 0) 1 := fun h => hb h (by decide +kernel)
theorem d2_15 : DC prog_17_method_1_code 15 (.iload_n 3) 1 := fun h => hb h (by decide +kernel)
theorem d2_16 : DC prog_17_method_1_code 16 (.putfield 16) 3 := fun h => hb h (by decide +kernel)
theorem d2_19 : DC prog_17_method_1_code 19 (.aload_n 0) 1 := fun h => hb h (by decide +kernel)
theorem d2_20 : DC prog_17_method_1_code 20 (.iload 4) 2 := fun h => hb h (by decide +kernel)
theorem d2_22 : DC prog_17_method_1_code 22 (.putfield 20) 3 := fun h => hb h (by decide +kernel)
theorem d2_25 : DC prog_17_method_1_code 25 (.aload_n 0) 1 := fun h => hb h (by decide +kernel)
theorem d2_26 : DC prog_17_method_1_code 26 (.iload 5) 2 := fun h => hb h (by decide +kernel)
theorem d2_28 : DC prog_17_method_1_code 28 (.putfield 24) 3 := fun h => hb h (by decide +kernel)
theorem d2_31 : DC prog_17_method_1_code 31 (.return_) 1 := fun h => hb h (by decide +kernel)
theorem d5_0 : DC prog_17_method_2_code 0 (.new 27) 3 := fun h => hb h (by decide +kernel)
theorem d5_3 : DC prog_17_method_2_code 3 (.dup) 1 := fun h => hb h (by decide +kernel)
theorem d5_4 : DC prog_17_method_2_code 4 (.aload_n 0) 1 := fun h => hb h (by decide +kernel)
theorem d5_5 : DC prog_17_method_2_code 5 (.getfield 7) 3 := fun h => hb h (by decide +kernel)
theorem d5_8 : DC prog_17_method_2_code 8 (.aload_n 0) 1 := fun h => hb h (by decide +kernel)
theorem d5_9 : DC prog_17_method_2_code 9 (.getfield 13) 3 := fun h => hb h (by decide +kernel)
theorem d5_12 : DC prog_17_method_2_code 12 (.aload_n 0) 1 := fun h => hb h (by decide +kernel)
theorem d5_13 : DC prog_17_method_2_code 13 (.getfield 16) 3 := fun h => hb h (by decide +kernel)
theorem d5_16 : DC prog_17_method_2_code 16 (.invokespecial 29) 3 := fun h => hb h (by decide +kernel)
theorem d5_19 : DC prog_17_method_2_code 19 (.areturn) 1 := fun h => hb h (by decide +kernel)
theorem d6_0 : DC prog_3_method_1_code 0 (.aload_n 0) 1 := fun h => hb h (by decide +kernel)
theorem d6_1 : DC prog_3_method_1_code 1 (.aload_n 1) 1 := fun h => hb h (by decide +kernel)
theorem d6_2 : DC prog_3_method_1_code 2 (.aload_n 2) 1 := fun h => hb h (by decide +kernel)
theorem d6_3 : DC prog_3_method_1_code 3 (.iload_n 3) 1 := fun h => hb h (by decide +kernel)
theorem d6_4 : DC prog_3_method_1_code 4 (.iconst 0) 1 := fun h => hb h (by decide +kernel)
theorem d6_5 : DC prog_3_method_1_code 5 (.invokespecial 24) 3 := fun h => hb h (by decide +kernel)
theorem d6_8 : DC prog_3_method_1_code 8 (.return_) 1 := fun h => hb h (by decide +kernel)
theorem d7_0 : DC prog_3_method_2_code 0 (.aload_n 0) 1 := fun h => hb h (by decide +kernel)
theorem d7_1 : DC prog_3_method_2_code 1 (.invokespecial 1) 3 := fun h => hb h (by decide +kernel)
theorem d7_4 : DC prog_3_method_2_code 4 (.aload_n 0) 1 := fun h => hb h (by decide +kernel)
theorem d7_5 : DC prog_3_method_2_code 5 (.aload_n 1) 1 := fun h => hb h (by decide +kernel)
theorem d7_6 : DC prog_3_method_2_code 6 (.putfield 7) 3 := fun h => hb h (by decide +kernel)
theorem d7_9 : DC prog_3_method_2_code 9 (.aload_n 0) 1 := fun h => hb h (by decide +kernel)
theorem d7_10 : DC prog_3_method_2_code 10 (.aload_n 2) 1 := fun h => hb h (by decide +kernel)
theorem d7_11 : DC prog_3_method_2_code 11 (.putfield 13) 3 := fun h => hb h (by decide +kernel)
theorem d7_14 : DC prog_3_method_2_code 14 (.aload_n 0) 1 := fun h => hb h (by decide +kernel)
theorem d7_15 : DC prog_3_method_2_code 15 (.iload_n 3) 1 := fun h => hb h (by decide +kernel)
theorem d7_16 : DC prog_3_method_2_code 16 (.putfield 16) 3 := fun h => hb h (by decide +kernel)
theorem d7_19 : DC prog_3_method_2_code 19 (.aload_n 0) 1 := fun h => hb h (by decide +kernel)
theorem d7_20 : DC prog_3_method_2_code 20 (.iload 4) 2 := fun h => hb h (by decide +kernel)
theorem d7_22 : DC prog_3_method_2_code 22 (.putfield 20) 3 := fun h => hb h (by decide +kernel)
theorem d7_25 : DC prog_3_method_2_code 25 (.return_) 1 := fun h => hb h (by decide +kernel)
theorem d8_0 : DC prog_3_method_6_code 0 (.aload_n 0) 1 := fun h => hb h (by decide +kernel)
theorem d8_1 : DC prog_3_method_6_code 1 (.getfield 7) 3 := fun h => hb h (by decide +kernel)
theorem d8_4 : DC prog_3_method_6_code 4 (.areturn) 1 := fun h => hb h (by decide +kernel)
theorem d9_0 : DC prog_3_method_7_code 0 (.aload_n 0) 1 := fun h => hb h (by decide +kernel)
theorem d9_1 : DC prog_3_method_7_code 1 (.getfield 13) 3 := fun h => hb h (by decide +kernel)
theorem d9_4 : DC prog_3_method_7_code 4 (.areturn) 1 := fun h => hb h (by decide +kernel)
theorem d10_0 : DC prog_3_method_8_code 0 (.aload_n 0) 1 := fun h => hb h (by decide +kernel)
theorem d10_1 : DC prog_3_method_8_code 1 (.getfield 16) 3 := fun h => hb h (by decide +kernel)
theorem d10_4 : DC prog_3_method_8_code 4 (.ireturn) 1 := fun h => hb h (by decide +kernel)
theorem d11_0 : DC prog_3_method_9_code 0 (.aload_n 0) 1 := fun h => hb h (by decide +kernel)
theorem d11_1 : DC prog_3_method_9_code 1 (.getfield 20) 3 := fun h => hb h (by decide +kernel)
theorem d11_4 : DC prog_3_method_9_code 4 (.ireturn) 1 := fun h => hb h (by decide +kernel)
theorem pn_0 : plainName "java/lang/StringLatin1" = true := by first | (simp [plainName, overriddenIn]; done) | decide +kernel
theorem pn_1 : plainName "java/lang/String" = true := by first | (simp [plainName, overriddenIn]; done) | decide +kernel
theorem pn_2 : plainName "com/example/roundkeeper/roundkeeper/ruleset/segments/FighterTurn385PinLaw" = true := by first | (simp [plainName, overriddenIn]; done) | decide +kernel
theorem pn_3 : plainName "java/lang/Record" = true := by first | (simp [plainName, overriddenIn]; done) | decide +kernel
theorem pn_4 : plainName "com/example/roundkeeper/roundkeeper/ruleset/segments/Fighter" = true := by first | (simp [plainName, overriddenIn]; done) | decide +kernel
theorem pn_5 : plainName "com/example/roundkeeper/roundkeeper/Turn" = true := by first | (simp [plainName, overriddenIn]; done) | decide +kernel
theorem pd_0 : parseMethodDescriptor "(C)Z" = some ⟨[.char], some .boolean⟩ := by decide +kernel
theorem pd_1 : parseMethodDescriptor "(C)[B" = some ⟨[.char], some (.array .byte)⟩ := by decide +kernel
theorem pd_2 : parseMethodDescriptor "([BB)V" = some ⟨[(.array .byte), .byte], none⟩ := by decide +kernel
theorem pd_3 : parseMethodDescriptor "(C)Ljava/lang/String;" = some ⟨[.char], some (.object "java/lang/String")⟩ := by decide +kernel
theorem pd_4 : parseMethodDescriptor "([C)V" = some ⟨[(.array .char)], none⟩ := by decide +kernel
theorem pd_5 : parseMethodDescriptor "(II)Ljava/lang/String;" = some ⟨[.int, .int], some (.object "java/lang/String")⟩ := by decide +kernel
theorem pd_6 : parseMethodDescriptor "()V" = some ⟨[], none⟩ := by decide +kernel
theorem pd_7 : parseMethodDescriptor "(Ljava/lang/String;Ljava/lang/String;IZI)V" = some ⟨[(.object "java/lang/String"), (.object "java/lang/String"), .int, .boolean, .int], none⟩ := by decide +kernel
theorem pd_8 : parseMethodDescriptor "(Ljava/lang/String;Ljava/lang/String;IZ)V" = some ⟨[(.object "java/lang/String"), (.object "java/lang/String"), .int, .boolean], none⟩ := by decide +kernel
theorem pd_9 : parseMethodDescriptor "(Ljava/lang/String;Ljava/lang/String;I)V" = some ⟨[(.object "java/lang/String"), (.object "java/lang/String"), .int], none⟩ := by decide +kernel
theorem pd_10 : parseMethodDescriptor "()Lcom/example/roundkeeper/roundkeeper/Turn;" = some ⟨[], some (.object "com/example/roundkeeper/roundkeeper/Turn")⟩ := by decide +kernel
theorem pd_11 : parseMethodDescriptor "()Ljava/lang/String;" = some ⟨[], some (.object "java/lang/String")⟩ := by decide +kernel
theorem pd_12 : parseMethodDescriptor "()I" = some ⟨[], some .int⟩ := by decide +kernel
theorem pd_13 : parseMethodDescriptor "()Z" = some ⟨[], some .boolean⟩ := by decide +kernel
theorem wd_0 : WD (Jvm.Cond.methodLink "com/example/roundkeeper/roundkeeper/ruleset/segments/FighterTurn385PinLaw" (18 : Nat) ({ cls := "com/example/roundkeeper/roundkeeper/ruleset/segments/FighterTurn385PinLaw", name := "draw", desc := "(II)Ljava/lang/String;" } : Jvm.MethodName)) := own_wd 0 rfl
theorem wd_1 : WD (Jvm.Cond.static ({ cls := "com/example/roundkeeper/roundkeeper/ruleset/segments/FighterTurn385PinLaw", name := "draw", desc := "(II)Ljava/lang/String;" } : Jvm.MethodName)) := own_wd 1 rfl
theorem wd_2 : WD (Jvm.Cond.initialized "com/example/roundkeeper/roundkeeper/ruleset/segments/FighterTurn385PinLaw") := own_wd 2 rfl
theorem wd_3 : WD (Jvm.Cond.code ({ cls := "com/example/roundkeeper/roundkeeper/ruleset/segments/FighterTurn385PinLaw", name := "draw", desc := "(II)Ljava/lang/String;" } : Jvm.MethodName) method_2_code (4 : Nat) (Option.some (Jvm.ClassFile.FieldType.object kc0))) := own_wd 3 rfl
theorem wd_4 : WD (Jvm.Cond.classLink "com/example/roundkeeper/roundkeeper/ruleset/segments/FighterTurn385PinLaw" (24 : Nat) kc2) := own_wd 4 rfl
theorem wd_5 : WD (Jvm.Cond.instantiable kc2 (5 : Nat)) := own_wd 5 rfl
theorem wd_6 : WD (Jvm.Cond.initialized kc2) := own_wd 6 rfl
theorem wd_7 : WD (Jvm.Cond.methodLink "com/example/roundkeeper/roundkeeper/ruleset/segments/FighterTurn385PinLaw" (26 : Nat) ({ cls := kc2, name := "<init>", desc := "(Ljava/lang/String;Ljava/lang/String;IZI)V" } : Jvm.MethodName)) := own_wd 7 rfl
theorem wd_8 : WD (Jvm.Cond.instanceMethod ({ cls := kc2, name := "<init>", desc := "(Ljava/lang/String;Ljava/lang/String;IZI)V" } : Jvm.MethodName)) := own_wd 8 rfl
theorem wd_9 : WD (Jvm.Cond.code ({ cls := kc2, name := "<init>", desc := "(Ljava/lang/String;Ljava/lang/String;IZI)V" } : Jvm.MethodName) prog_17_method_1_code (6 : Nat) (Option.none : Option Jvm.ClassFile.FieldType)) := own_wd 9 rfl
theorem wd_10 : WD (Jvm.Cond.methodLink kc2 (1 : Nat) ({ cls := "java/lang/Record", name := "<init>", desc := "()V" } : Jvm.MethodName)) := own_wd 10 rfl
theorem wd_11 : WD (Jvm.Cond.instanceMethod ({ cls := "java/lang/Record", name := "<init>", desc := "()V" } : Jvm.MethodName)) := own_wd 11 rfl
theorem wd_13 : WD (Jvm.Cond.initialized "java/lang/Record") := own_wd 13 rfl
theorem wd_14 : WD (Jvm.Cond.code ({ cls := "java/lang/Record", name := "<init>", desc := "()V" } : Jvm.MethodName) jdk_30_method_1_code (1 : Nat) (Option.none : Option Jvm.ClassFile.FieldType)) := own_wd 14 rfl
theorem wd_15 : WD (Jvm.Cond.methodLink "java/lang/Record" (1 : Nat) ({ cls := "java/lang/Object", name := "<init>", desc := "()V" } : Jvm.MethodName)) := own_wd 15 rfl
theorem wd_16 : WD (Jvm.Cond.instanceMethod ({ cls := "java/lang/Object", name := "<init>", desc := "()V" } : Jvm.MethodName)) := own_wd 16 rfl
theorem wd_17 : WD (Jvm.Cond.code ({ cls := "java/lang/Object", name := "<init>", desc := "()V" } : Jvm.MethodName) object_method_1_code (1 : Nat) (Option.none : Option Jvm.ClassFile.FieldType)) := own_wd 17 rfl
theorem wd_18 : WD (Jvm.Cond.fieldLink kc2 (7 : Nat) kc2 "name" "Ljava/lang/String;") := own_wd 18 rfl
theorem wd_19 : WD (Jvm.Cond.laysFinal kc2 kc2 "name" "Ljava/lang/String;") := own_wd 19 rfl
theorem wd_20 : WD (Jvm.Cond.fieldLink kc2 (13 : Nat) kc2 "side" "Ljava/lang/String;") := own_wd 20 rfl
theorem wd_21 : WD (Jvm.Cond.laysFinal kc2 kc2 "side" "Ljava/lang/String;") := own_wd 21 rfl
theorem wd_22 : WD (Jvm.Cond.fieldLink kc2 (16 : Nat) kc2 "initiative" "I") := own_wd 22 rfl
theorem wd_23 : WD (Jvm.Cond.laysFinal kc2 kc2 "initiative" "I") := own_wd 23 rfl
theorem wd_24 : WD (Jvm.Cond.fieldLink kc2 (20 : Nat) kc2 "player" "Z") := own_wd 24 rfl
theorem wd_25 : WD (Jvm.Cond.laysFinal kc2 kc2 "player" "Z") := own_wd 25 rfl
theorem wd_26 : WD (Jvm.Cond.fieldLink kc2 (24 : Nat) kc2 "actionDice" "I") := own_wd 26 rfl
theorem wd_27 : WD (Jvm.Cond.laysFinal kc2 kc2 "actionDice" "I") := own_wd 27 rfl
theorem wd_28 : WD (Jvm.Cond.methodLink "com/example/roundkeeper/roundkeeper/ruleset/segments/FighterTurn385PinLaw" (29 : Nat) ({ cls := kc2, name := "turn", desc := "()Lcom/example/roundkeeper/roundkeeper/Turn;" } : Jvm.MethodName)) := own_wd 28 rfl
theorem wd_29 : WD (Jvm.Cond.declares ({ cls := kc2, name := "turn", desc := "()Lcom/example/roundkeeper/roundkeeper/Turn;" } : Jvm.MethodName)) := own_wd 29 rfl
theorem wd_30 : WD (Jvm.Cond.instanceMethod ({ cls := kc2, name := "turn", desc := "()Lcom/example/roundkeeper/roundkeeper/Turn;" } : Jvm.MethodName)) := own_wd 30 rfl
theorem wd_31 : WD (Jvm.Cond.selects kc2 ({ cls := kc2, name := "turn", desc := "()Lcom/example/roundkeeper/roundkeeper/Turn;" } : Jvm.MethodName) ({ cls := kc2, name := "turn", desc := "()Lcom/example/roundkeeper/roundkeeper/Turn;" } : Jvm.MethodName)) := own_wd 31 rfl
theorem wd_32 : WD (Jvm.Cond.code ({ cls := kc2, name := "turn", desc := "()Lcom/example/roundkeeper/roundkeeper/Turn;" } : Jvm.MethodName) prog_17_method_2_code (1 : Nat) (Option.some (Jvm.ClassFile.FieldType.object kc1))) := own_wd 32 rfl
theorem wd_33 : WD (Jvm.Cond.classLink kc2 (27 : Nat) kc1) := own_wd 33 rfl
theorem wd_34 : WD (Jvm.Cond.instantiable kc1 (4 : Nat)) := own_wd 34 rfl
theorem wd_35 : WD (Jvm.Cond.initialized kc1) := own_wd 35 rfl
theorem wd_36 : WD (Jvm.Cond.methodLink kc2 (29 : Nat) ({ cls := kc1, name := "<init>", desc := "(Ljava/lang/String;Ljava/lang/String;I)V" } : Jvm.MethodName)) := own_wd 36 rfl
theorem wd_37 : WD (Jvm.Cond.instanceMethod ({ cls := kc1, name := "<init>", desc := "(Ljava/lang/String;Ljava/lang/String;I)V" } : Jvm.MethodName)) := own_wd 37 rfl
theorem wd_38 : WD (Jvm.Cond.code ({ cls := kc1, name := "<init>", desc := "(Ljava/lang/String;Ljava/lang/String;I)V" } : Jvm.MethodName) prog_3_method_1_code (4 : Nat) (Option.none : Option Jvm.ClassFile.FieldType)) := own_wd 38 rfl
theorem wd_39 : WD (Jvm.Cond.methodLink kc1 (24 : Nat) ({ cls := kc1, name := "<init>", desc := "(Ljava/lang/String;Ljava/lang/String;IZ)V" } : Jvm.MethodName)) := own_wd 39 rfl
theorem wd_40 : WD (Jvm.Cond.instanceMethod ({ cls := kc1, name := "<init>", desc := "(Ljava/lang/String;Ljava/lang/String;IZ)V" } : Jvm.MethodName)) := own_wd 40 rfl
theorem wd_41 : WD (Jvm.Cond.code ({ cls := kc1, name := "<init>", desc := "(Ljava/lang/String;Ljava/lang/String;IZ)V" } : Jvm.MethodName) prog_3_method_2_code (5 : Nat) (Option.none : Option Jvm.ClassFile.FieldType)) := own_wd 41 rfl
theorem wd_42 : WD (Jvm.Cond.methodLink kc1 (1 : Nat) ({ cls := "java/lang/Record", name := "<init>", desc := "()V" } : Jvm.MethodName)) := own_wd 42 rfl
theorem wd_43 : WD (Jvm.Cond.fieldLink kc1 (7 : Nat) kc1 "name" "Ljava/lang/String;") := own_wd 43 rfl
theorem wd_44 : WD (Jvm.Cond.laysFinal kc1 kc1 "name" "Ljava/lang/String;") := own_wd 44 rfl
theorem wd_45 : WD (Jvm.Cond.fieldLink kc1 (13 : Nat) kc1 "side" "Ljava/lang/String;") := own_wd 45 rfl
theorem wd_46 : WD (Jvm.Cond.laysFinal kc1 kc1 "side" "Ljava/lang/String;") := own_wd 46 rfl
theorem wd_47 : WD (Jvm.Cond.fieldLink kc1 (16 : Nat) kc1 "initiative" "I") := own_wd 47 rfl
theorem wd_48 : WD (Jvm.Cond.laysFinal kc1 kc1 "initiative" "I") := own_wd 48 rfl
theorem wd_49 : WD (Jvm.Cond.fieldLink kc1 (20 : Nat) kc1 "simultaneous" "Z") := own_wd 49 rfl
theorem wd_50 : WD (Jvm.Cond.laysFinal kc1 kc1 "simultaneous" "Z") := own_wd 50 rfl
theorem wd_51 : WD (Jvm.Cond.methodLink "com/example/roundkeeper/roundkeeper/ruleset/segments/FighterTurn385PinLaw" (33 : Nat) ({ cls := kc1, name := "name", desc := "()Ljava/lang/String;" } : Jvm.MethodName)) := own_wd 51 rfl
theorem wd_52 : WD (Jvm.Cond.declares ({ cls := kc1, name := "name", desc := "()Ljava/lang/String;" } : Jvm.MethodName)) := own_wd 52 rfl
theorem wd_53 : WD (Jvm.Cond.instanceMethod ({ cls := kc1, name := "name", desc := "()Ljava/lang/String;" } : Jvm.MethodName)) := own_wd 53 rfl
theorem wd_54 : WD (Jvm.Cond.selects kc1 ({ cls := kc1, name := "name", desc := "()Ljava/lang/String;" } : Jvm.MethodName) ({ cls := kc1, name := "name", desc := "()Ljava/lang/String;" } : Jvm.MethodName)) := own_wd 54 rfl
theorem wd_55 : WD (Jvm.Cond.code ({ cls := kc1, name := "name", desc := "()Ljava/lang/String;" } : Jvm.MethodName) prog_3_method_6_code (1 : Nat) (Option.some (Jvm.ClassFile.FieldType.object kc0))) := own_wd 55 rfl
theorem wd_56 : WD (Jvm.Cond.methodLink "com/example/roundkeeper/roundkeeper/ruleset/segments/FighterTurn385PinLaw" (39 : Nat) ({ cls := kc1, name := "side", desc := "()Ljava/lang/String;" } : Jvm.MethodName)) := own_wd 56 rfl
theorem wd_57 : WD (Jvm.Cond.declares ({ cls := kc1, name := "side", desc := "()Ljava/lang/String;" } : Jvm.MethodName)) := own_wd 57 rfl
theorem wd_58 : WD (Jvm.Cond.instanceMethod ({ cls := kc1, name := "side", desc := "()Ljava/lang/String;" } : Jvm.MethodName)) := own_wd 58 rfl
theorem wd_59 : WD (Jvm.Cond.selects kc1 ({ cls := kc1, name := "side", desc := "()Ljava/lang/String;" } : Jvm.MethodName) ({ cls := kc1, name := "side", desc := "()Ljava/lang/String;" } : Jvm.MethodName)) := own_wd 59 rfl
theorem wd_60 : WD (Jvm.Cond.code ({ cls := kc1, name := "side", desc := "()Ljava/lang/String;" } : Jvm.MethodName) prog_3_method_7_code (1 : Nat) (Option.some (Jvm.ClassFile.FieldType.object kc0))) := own_wd 60 rfl
theorem wd_61 : WD (Jvm.Cond.methodLink "com/example/roundkeeper/roundkeeper/ruleset/segments/FighterTurn385PinLaw" (42 : Nat) ({ cls := kc1, name := "initiative", desc := "()I" } : Jvm.MethodName)) := own_wd 61 rfl
theorem wd_62 : WD (Jvm.Cond.declares ({ cls := kc1, name := "initiative", desc := "()I" } : Jvm.MethodName)) := own_wd 62 rfl
theorem wd_63 : WD (Jvm.Cond.instanceMethod ({ cls := kc1, name := "initiative", desc := "()I" } : Jvm.MethodName)) := own_wd 63 rfl
theorem wd_64 : WD (Jvm.Cond.selects kc1 ({ cls := kc1, name := "initiative", desc := "()I" } : Jvm.MethodName) ({ cls := kc1, name := "initiative", desc := "()I" } : Jvm.MethodName)) := own_wd 64 rfl
theorem wd_65 : WD (Jvm.Cond.code ({ cls := kc1, name := "initiative", desc := "()I" } : Jvm.MethodName) prog_3_method_8_code (1 : Nat) (Option.some Jvm.ClassFile.FieldType.int)) := own_wd 65 rfl
theorem wd_66 : WD (Jvm.Cond.methodLink "com/example/roundkeeper/roundkeeper/ruleset/segments/FighterTurn385PinLaw" (46 : Nat) ({ cls := kc1, name := "simultaneous", desc := "()Z" } : Jvm.MethodName)) := own_wd 66 rfl
theorem wd_67 : WD (Jvm.Cond.declares ({ cls := kc1, name := "simultaneous", desc := "()Z" } : Jvm.MethodName)) := own_wd 67 rfl
theorem wd_68 : WD (Jvm.Cond.instanceMethod ({ cls := kc1, name := "simultaneous", desc := "()Z" } : Jvm.MethodName)) := own_wd 68 rfl
theorem wd_69 : WD (Jvm.Cond.selects kc1 ({ cls := kc1, name := "simultaneous", desc := "()Z" } : Jvm.MethodName) ({ cls := kc1, name := "simultaneous", desc := "()Z" } : Jvm.MethodName)) := own_wd 69 rfl
theorem wd_70 : WD (Jvm.Cond.code ({ cls := kc1, name := "simultaneous", desc := "()Z" } : Jvm.MethodName) prog_3_method_9_code (1 : Nat) (Option.some Jvm.ClassFile.FieldType.boolean)) := own_wd 70 rfl
theorem wd_71 : WD (Jvm.Cond.arrayClass Jvm.ClassFile.FieldType.char) := own_wd 71 rfl
theorem wd_72 : WD (Jvm.Cond.classLink "com/example/roundkeeper/roundkeeper/ruleset/segments/FighterTurn385PinLaw" (10 : Nat) kc0) := own_wd 72 rfl
theorem wd_73 : WD (Jvm.Cond.instantiable kc0 (4 : Nat)) := own_wd 73 rfl
theorem wd_74 : WD (Jvm.Cond.initialized kc0) := own_wd 74 rfl
theorem wd_75 : WD (Jvm.Cond.methodLink "com/example/roundkeeper/roundkeeper/ruleset/segments/FighterTurn385PinLaw" (15 : Nat) ({ cls := kc0, name := "<init>", desc := "([C)V" } : Jvm.MethodName)) := own_wd 75 rfl
theorem wd_76 : WD (Jvm.Cond.instanceMethod ({ cls := kc0, name := "<init>", desc := "([C)V" } : Jvm.MethodName)) := own_wd 76 rfl
theorem wd_77 : WD (Jvm.Cond.code ({ cls := kc0, name := "<init>", desc := "([C)V" } : Jvm.MethodName) jdk_42_method_3_code (2 : Nat) (Option.none : Option Jvm.ClassFile.FieldType)) := own_wd 77 rfl
theorem wd_82 : WD (Jvm.Cond.methodLink kc0 (1 : Nat) ({ cls := "java/lang/Object", name := "<init>", desc := "()V" } : Jvm.MethodName)) := own_wd 82 rfl
theorem wd_83 : WD (Jvm.Cond.fieldLink kc0 (38 : Nat) kc0 "COMPACT_STRINGS" "Z") := own_wd 83 rfl
theorem wd_88 : WD (Jvm.Cond.arrayClass Jvm.ClassFile.FieldType.byte) := own_wd 88 rfl
theorem wd_95 : WD (Jvm.Cond.fieldLink kc0 (15 : Nat) kc0 "coder" "B") := own_wd 95 rfl
theorem wd_96 : WD (Jvm.Cond.laysFinal kc0 kc0 "coder" "B") := own_wd 96 rfl
theorem wd_97 : WD (Jvm.Cond.fieldLink kc0 (9 : Nat) kc0 "value" "[B") := own_wd 97 rfl
theorem wd_98 : WD (Jvm.Cond.laysFinal kc0 kc0 "value" "[B") := own_wd 98 rfl
theorem wd_99 : WD (Jvm.Cond.stringLink "com/example/roundkeeper/roundkeeper/ruleset/segments/FighterTurn385PinLaw" (7 : Nat) "") := own_wd 99 rfl
theorem wd_102 : WD (Jvm.Cond.methodLink "com/example/roundkeeper/roundkeeper/ruleset/segments/FighterTurn385PinLaw" (9 : Nat) ({ cls := kc0, name := "valueOf", desc := "(C)Ljava/lang/String;" } : Jvm.MethodName)) := own_wd 102 rfl
theorem wd_103 : WD (Jvm.Cond.static ({ cls := kc0, name := "valueOf", desc := "(C)Ljava/lang/String;" } : Jvm.MethodName)) := own_wd 103 rfl
theorem wd_104 : WD (Jvm.Cond.code ({ cls := kc0, name := "valueOf", desc := "(C)Ljava/lang/String;" } : Jvm.MethodName) jdk_42_method_139_code (1 : Nat) (Option.some (Jvm.ClassFile.FieldType.object kc0))) := own_wd 104 rfl
theorem wd_105 : WD (Jvm.Cond.methodLink kc0 (1015 : Nat) ({ cls := "java/lang/StringLatin1", name := "canEncode", desc := "(C)Z" } : Jvm.MethodName)) := own_wd 105 rfl
theorem wd_106 : WD (Jvm.Cond.static ({ cls := "java/lang/StringLatin1", name := "canEncode", desc := "(C)Z" } : Jvm.MethodName)) := own_wd 106 rfl
theorem wd_107 : WD (Jvm.Cond.initialized "java/lang/StringLatin1") := own_wd 107 rfl
theorem wd_108 : WD (Jvm.Cond.code ({ cls := "java/lang/StringLatin1", name := "canEncode", desc := "(C)Z" } : Jvm.MethodName) jdk_43_method_3_code (1 : Nat) (Option.some Jvm.ClassFile.FieldType.boolean)) := own_wd 108 rfl
theorem wd_109 : WD (Jvm.Cond.classLink kc0 (10 : Nat) kc0) := own_wd 109 rfl
theorem wd_110 : WD (Jvm.Cond.methodLink kc0 (1018 : Nat) ({ cls := "java/lang/StringLatin1", name := "toBytes", desc := "(C)[B" } : Jvm.MethodName)) := own_wd 110 rfl
theorem wd_111 : WD (Jvm.Cond.static ({ cls := "java/lang/StringLatin1", name := "toBytes", desc := "(C)[B" } : Jvm.MethodName)) := own_wd 111 rfl
theorem wd_112 : WD (Jvm.Cond.code ({ cls := "java/lang/StringLatin1", name := "toBytes", desc := "(C)[B" } : Jvm.MethodName) jdk_43_method_46_code (1 : Nat) (Option.some (Jvm.ClassFile.FieldType.array Jvm.ClassFile.FieldType.byte))) := own_wd 112 rfl
theorem wd_113 : WD (Jvm.Cond.methodLink kc0 (209 : Nat) ({ cls := kc0, name := "<init>", desc := "([BB)V" } : Jvm.MethodName)) := own_wd 113 rfl
theorem wd_114 : WD (Jvm.Cond.instanceMethod ({ cls := kc0, name := "<init>", desc := "([BB)V" } : Jvm.MethodName)) := own_wd 114 rfl
theorem wd_115 : WD (Jvm.Cond.code ({ cls := kc0, name := "<init>", desc := "([BB)V" } : Jvm.MethodName) jdk_42_method_151_code (3 : Nat) (Option.none : Option Jvm.ClassFile.FieldType)) := own_wd 115 rfl
theorem own_EW {Z : State} {a0 : Array Value} (hw : ∀ d ∈ tables_1, d.before a0 Z = true) : EW Z a0 EL := EW.nil
theorem own_wS {Z : State} {a0 : Array Value} (hw : ∀ d ∈ tables_1, d.before a0 Z = true) : ∀ d ∈ Bundle.stringAtoms, d.before a0 Z = true := fun d hd => hw d ((by decide +kernel : ∀ d ∈ Bundle.stringAtoms, d ∈ tables_1) d hd)
theorem ef_m18_2 (m : MethodId) (p0 : Int32)  : entryFrame m #[(.int p0)] 1 = mkF m 0 #[.val (.int p0)] [] := by first | (simp [entryFrame, mkF, argsToLocals, Value.category]; done) | rfl
def Q_m18_2 (Z : State) (p0 : Int32) (h0 : Heap) (n0 : Nat) (v : Option Value) (h : Heap) (L : List Loc) : Prop := v = some (.int (1 : Int32)) ∧ Fr n0 L ∧ h = h0
theorem rm_m18_2 (l : Launch) (Z : State) (aZ : Array Value) (hw : ∀ d ∈ tables_1, d.before aZ Z = true) (ws : List Jvm.Cond) (p0 : Int32) (h0 : Heap) (n0 : Nat) (Z0 : n0 ≤ h0.size) (hP_0 : ¬ ((255 : Int32) < p0)) :
    MetN l Z yn_18 jdk_43_method_3_code 1 (some .boolean) ws ({ frames := 0, cells := 0, slots := 0, locals := 0 } : Room) #[(.int p0)] h0 (Q_m18_2 Z p0 h0 n0) := by
 refine MetN.of (plainFor_of_name pn_0) ?_
 intro p e s m below meth c s₁ hret hx hby hml hown hnm hlk hZ X0 e0
 have N0 := Fr.nil n0
 rw [ef_m18_2 m p0]
 refine w_iloadN X0 hx (d18_0 hby) rfl (pc' := 1) rfl ?_
 refine w_sipush X0 hx (d18_1 hby) (v := (255 : Int32)) rfl (pc' := 4) rfl ?_
 refine w_icN X0 hx (d18_4 hby) (flt hP_0).2.2.1 (pc' := 7) rfl ?_
 refine w_iconst X0 hx (d18_7 hby) (v := (1 : Int32)) rfl (pc' := 8) rfl ?_
 refine w_goto X0 hx (d18_8 hby) (pc' := 12) (by decide) (by decide) ?_
 exact w_done X0 hlk (v := some (.int (1 : Int32))) e0 (fun h => by rw [hret] at h; cases h) (fun fs hr => retN X0 hx (t := .boolean) hret (by simp) (d18_12 hby) hr) (by decide) (by decide) (⟨rfl, N0, rfl⟩)
theorem ef_m19_3 (m : MethodId) (p0 : Int32)  : entryFrame m #[(.int p0)] 1 = mkF m 0 #[.val (.int p0)] [] := by first | (simp [entryFrame, mkF, argsToLocals, Value.category]; done) | rfl
def Q_m19_3 (Z : State) (p0 : Int32) (h0 : Heap) (n0 : Nat) (v : Option Value) (h : Heap) (L : List Loc) : Prop := ∃ (r0 : Addr) (c0 : ClassId), v = some (.ref r0) ∧ Fr n0 L ∧ Keep h0 h [] ∧ h0.size ≤ r0 ∧ Arv Z h r0 c0 .byte (1 : Int32) [(.int (p0.toInt8.toInt32))] (.int (0 : Int32))
theorem rm_m19_3 (l : Launch) (Z : State) (aZ : Array Value) (hw : ∀ d ∈ tables_1, d.before aZ Z = true) (ws : List Jvm.Cond) (p0 : Int32) (h0 : Heap) (n0 : Nat) (Z0 : n0 ≤ h0.size) :
    MetN l Z yn_19 jdk_43_method_46_code 1 (some (.array .byte)) ws ({ frames := 0, cells := 1, slots := 1, locals := 0 } : Room) #[(.int p0)] h0 (Q_m19_3 Z p0 h0 n0) := by
 refine MetN.of (plainFor_of_name pn_0) ?_
 intro p e s m below meth c s₁ hret hx hby hml hown hnm hlk hZ X0 e0
 have N0 := Fr.nil n0
 rw [ef_m19_3 m p0]
 refine w_iconst X0 hx (d19_0 hby) (v := (1 : Int32)) rfl (pc' := 1) rfl ?_
 refine w_newP X0 hx .byte .byte 1 rfl hZ (wd_88 hw) e0 (d19_1 hby) (by decide) (by decide) (by decide) (by decide) (by decide) (pc' := 3) rfl ?_
 intro T20 h20 k20 b20 X20 e20 E20 g20 A20
 have ge21 : n0 ≤ b20 := Nat.le_trans Z0 (Nat.le_of_eq g20.symm)
 have sz22 : h0.size ≤ b20 := Nat.le_trans (Nat.le_refl _) (Nat.le_of_eq g20.symm)
 have K23 : Keep h0 h20 [] := (Keep.refl h0 []).ext E20
 have V24 : Arv Z h20 b20 k20 .byte (1 : Int32) [(.int (0 : Int32))] (.int (0 : Int32)) := (Arv.new A20 (by decide)).pad (pad_rep [] (.int (0 : Int32)) 1)
 refine w_dup X20 hx (d19_3 hby) rfl (pc' := 4) rfl ?_
 refine w_iconst X20 hx (d19_4 hby) (v := (0 : Int32)) rfl (pc' := 5) rfl ?_
 refine w_iloadN X20 hx (d19_5 hby) rfl (pc' := 6) rfl ?_
 refine w_i2b X20 hx (d19_6 hby) (pc' := 7) rfl ?_
 obtain ⟨clu25, Aru25, qu25, Su25, Nu25, Hu25, Gu25⟩ := id V24
 have hinu25 := inb_of (j := (0 : Int32)) Su25 ⟨by decide, by decide⟩
 refine w_stB X20 hx hZ e20 Aru25 hinu25 (d19_7 hby) (pc' := 8) rfl ?_
 intro T26 h26 X26 e26 W26
 have V27 : Arv Z h26 b20 k20 .byte (1 : Int32) [(.int (nar .byte (p0.toInt8.toInt32)))] (.int (0 : Int32)) := Arv.set Aru25 qu25 Su25 Nu25 Hu25 Gu25 (fits_nar_byte _) W26 0 rfl (Nat.le_of_ble_eq_true rfl)
 have V28 : Arv Z h26 b20 k20 .byte (1 : Int32) [(.int (p0.toInt8.toInt32))] (.int (0 : Int32)) := by rw [nar_b] at V27; exact V27
 have K29 : Keep h0 h26 [] := K23.wr W26 (Or.inr sz22)
 have N30 := Fr.snoc X26 N0 ge21
 exact w_done X26 hlk (v := some (.ref b20)) e26 (fun h => by rw [hret] at h; cases h) (fun fs hr => retOut X26 hx hret rfl (Or.inr (Or.inr (Or.inr (Or.inr ⟨rfl, rfl, rfl⟩)))) (d19_8 hby) hr) (by decide) (by decide) (⟨b20, k20, rfl, N30, K29, sz22, V28⟩)
theorem ef_m20_4 (m : MethodId) (a0 : Addr) (a1 : Addr)  : entryFrame m #[(.ref a0), (.ref a1), (.int (0 : Int32))] 3 = mkF m 0 #[.val (.ref a0), .val (.ref a1), .val (.int (0 : Int32))] [] := by first | (simp [entryFrame, mkF, argsToLocals, Value.category]; done) | rfl
def Q_m20_4 (Z : State) (a0 : Addr) (a1 : Addr) (h0 : Heap) (n0 : Nat) (v : Option Value) (h : Heap) (L : List Loc) : Prop := v = none ∧ Fr n0 L ∧ Keep h0 h [a0] ∧ Exa Z h a0 kc0 ∧ Fld Z h a0 kc0 "value" "[B" (.ref a1) ∧ Fld Z h a0 kc0 "coder" "B" (.int (0 : Int32))
theorem rm_m20_4 (l : Launch) (Z : State) (aZ : Array Value) (hw : ∀ d ∈ tables_1, d.before aZ Z = true) (ws : List Jvm.Cond) (a0 : Addr) (a1 : Addr) (h0 : Heap) (n0 : Nat) (Z0 : n0 ≤ h0.size) (E_a0 : Exa Z h0 a0 kc0) (zz0 : Fld Z h0 a0 kc0 "value" "[B" .null) (zz1 : n0 ≤ a0) (zz2 : Fld Z h0 a0 kc0 "coder" "B" (.int (0 : Int32))) :
    MetN l Z yn_20 jdk_42_method_151_code 3 none ws ({ frames := 1, cells := 0, slots := 0, locals := 12 } : Room) #[(.ref a0), (.ref a1), (.int (0 : Int32))] h0 (Q_m20_4 Z a0 a1 h0 n0) := by
 refine MetN.of (plainFor_of_name pn_1) ?_
 intro p e s m below meth c s₁ hret hx hby hml hown hnm hlk hZ X0 e0
 have N0 := Fr.nil n0
 rw [ef_m20_4 m a0 a1]
 refine w_aloadN X0 hx (d20_0 hby) rfl rfl (pc' := 1) rfl ?_
 refine w_initO X0 hx 0 hZ hown (wd_82 hw) (wd_16 hw) (wd_17 hw) e0 (by rw [hml]; rfl) (d20_1 hby) (by decide) (Nat.le_of_eq rfl) (by decide) (pc' := 4) rfl ?_
 intro T20 X20 e20
 refine w_aloadN X20 hx (d20_4 hby) rfl rfl (pc' := 5) rfl ?_
 refine w_aloadN X20 hx (d20_5 hby) rfl rfl (pc' := 6) rfl ?_
 refine w_putF X20 hx "" hZ hown (Or.inl (wd_97 hw)) Via.refl e20 zz0 E_a0 (Or.inr ⟨(wd_98 hw), rfl, hnm⟩) (wd_73 hw) (ty := (.array .byte)) (by decide) rfl rfl (d20_6 hby) (pc' := 9) rfl ?_
 intro T21 h21 X21 e21 W21
 have f22 : Fld Z h21 a0 kc0 "value" "[B" (.ref a1) := zz0.same W21
 have K23 : Keep h0 h21 [a0] := (Keep.refl h0 [a0]).wr W21 (Or.inl (by simp))
 have N24 := Fr.snoc X21 N0 zz1
 refine w_aloadN X21 hx (d20_9 hby) rfl rfl (pc' := 10) rfl ?_
 refine w_iloadN X21 hx (d20_10 hby) rfl (pc' := 11) rfl ?_
 have f25 : Exa Z h21 a0 kc0 := (E_a0.wr W21)
 have f26 : Fld Z h21 a0 kc0 "coder" "B" (.int (0 : Int32)) := (zz2.other W21 (Or.inr (slot_ne (Or.inr (wd_96 hw)) (Or.inr (wd_98 hw)) (by decide) (t := .byte) (t' := (.array .byte)) (by decide) (by decide))))
 refine w_putF X21 hx "" hZ hown (Or.inl (wd_95 hw)) Via.refl e21 f26 f25 (Or.inr ⟨(wd_96 hw), rfl, hnm⟩) (wd_73 hw) (ty := .byte) (by decide) rfl rfl (d20_11 hby) (pc' := 14) rfl ?_
 intro T27 h27 X27 e27 W27
 have f28 : Fld Z h27 a0 kc0 "coder" "B" (.int (0 : Int32)) := f26.same W27
 have K29 : Keep h0 h27 [a0] := K23.wr W27 (Or.inl (by simp))
 have N30 := Fr.snoc X27 N24 zz1
 have f31 : Exa Z h27 a0 kc0 := (f25.wr W27)
 have f32 : Fld Z h27 a0 kc0 "value" "[B" (.ref a1) := (f22.other W27 (Or.inr (slot_ne (Or.inr (wd_98 hw)) (Or.inr (wd_96 hw)) (by decide) (t := (.array .byte)) (t' := .byte) (by decide) (by decide))))
 exact w_done X27 hlk (v := none) e27 (fun _ => rfl) (fun fs hr => X27.returnOut hx hret (d20_14 hby) hr) (by decide) (by decide) (⟨rfl, N30, K29, f31, f32, f28⟩)
theorem ef_m17_1 (m : MethodId) (p0 : Int32)  : entryFrame m #[(.int p0)] 1 = mkF m 0 #[.val (.int p0)] [] := by first | (simp [entryFrame, mkF, argsToLocals, Value.category]; done) | rfl
def Q_m17_1 (Z : State) (p0 : Int32) (jj0 : Int32) (h0 : Heap) (n0 : Nat) (v : Option Value) (h : Heap) (L : List Loc) : Prop := ∃ (r0 : Addr) (r1 : Addr) (c0 : ClassId), v = some (.ref r0) ∧ Fr n0 L ∧ Keep h0 h [] ∧ h0.size ≤ r0 ∧ h0.size ≤ r1 ∧ Exa Z h r0 kc0 ∧ Fld Z h r0 kc0 "coder" "B" (.int (0 : Int32)) ∧ Fld Z h r0 kc0 "value" "[B" (.ref r1) ∧ Arv Z h r1 c0 .byte (1 : Int32) [(.int (p0.toInt8.toInt32))] (.int (0 : Int32))
theorem rm_m17_1 (l : Launch) (Z : State) (aZ : Array Value) (hw : ∀ d ∈ tables_1, d.before aZ Z = true) (ws : List Jvm.Cond) (p0 : Int32) (jj0 : Int32) (h0 : Heap) (n0 : Nat) (Z0 : n0 ≤ h0.size) (zz1 : Sta Z Z.heap kc0 "COMPACT_STRINGS" "Z" (.int jj0)) (O0 : Old Z n0 h0) (hP_2 : ¬ (jj0 = (0 : Int32))) (hP_3 : ¬ ((255 : Int32) < p0)) :
    MetN l Z yn_17 jdk_42_method_139_code 1 (some (.object kc0)) ws ({ frames := 2, cells := 2, slots := 5, locals := 27 } : Room) #[(.int p0)] h0 (Q_m17_1 Z p0 jj0 h0 n0) := by
 refine MetN.of (plainFor_of_name pn_1) ?_
 intro p e s m below meth c s₁ hret hx hby hml hown hnm hlk hZ X0 e0
 have N0 := Fr.nil n0
 rw [ef_m17_1 m p0]
 refine w_getS X0 hx "" hZ hown (Or.inl (wd_83 hw)) Via.refl e0 (zz1.ext O0.2) (d17_0 hby) (pc' := 3) rfl ?_
 intro T20 X20 e20
 refine w_ifN X20 hx (d17_3 hby) (feq hP_2).1 (pc' := 6) rfl ?_
 refine w_iloadN X20 hx (d17_6 hby) rfl (pc' := 7) rfl ?_
 refine w_static X20 hx (y := yn_18) hown (mvT hZ (wd_105 hw)) (mvT hZ (wd_106 hw)) (mvT hZ (wd_107 hw)) (mvT hZ (wd_108 hw)) (by decide) (backOf (W := 0) (rm_m18_2 l Z aZ hw [] p0 h0 n0 Z0 hP_3) hZ (wd_108 hw) (wd_107 hw) (by decide) (by decide)) (by rw [hml]; rfl) [(.int p0)] (lenOf pd_0 rfl) rfl (Nat.le_of_eq rfl) (d17_7 hby) (fun _ _ => ⟨rfl, e20, (by decide : 0 + 0 ≤ _), (by decide : 0 + 0 ≤ _)⟩) (pc' := 10) rfl ?_
 rintro _ _ ⟨T21, L21, k21, n21⟩ X21 ⟨Lc21, hQ21, l21, y21, z21⟩
 dsimp only [Pt.U, Pt.locs, Pt.cells, Pt.slots] at X21 l21 y21 z21 hQ21 ⊢
 subst l21 y21 z21
 obtain ⟨rfl, N21q, e21⟩ := hQ21
 have N22 := Fr.app N0 N21q
 show Runs _ _ _ _ (T21.setTop (mkF m 10 #[.val (.int p0)] [(.int (1 : Int32))]))
 refine w_ifN X21 hx (d17_10 hby) (feq (by decide : ¬ ((1 : Int32) = (0 : Int32)))).1 (pc' := 13) rfl ?_
 refine w_new X21 hx hZ hown (wd_109 hw) (wd_73 hw) (wd_74 hw) e21 (d17_13 hby) (by decide) (by decide) (pc' := 16) rfl ?_
 intro T23 h23 b23 X23 e23 E23 g23 A23 D23
 have ge24 : n0 ≤ b23 := Nat.le_trans Z0 (Nat.le_of_eq g23.symm)
 have sz25 : h0.size ≤ b23 := Nat.le_trans (Nat.le_refl _) (Nat.le_of_eq g23.symm)
 have K26 : Keep h0 h23 [] := (Keep.refl h0 []).ext E23
 have f27 : Fld Z h23 b23 kc0 "coder" "B" (.int (0 : Int32)) := D23 (Or.inr (wd_96 hw)) (ty := .byte) (by decide)
 have f28 : Fld Z h23 b23 kc0 "value" "[B" .null := D23 (Or.inr (wd_98 hw)) (ty := (.array .byte)) (by decide)
 refine w_dup X23 hx (d17_16 hby) rfl (pc' := 17) rfl ?_
 refine w_iloadN X23 hx (d17_17 hby) rfl (pc' := 18) rfl ?_
 refine w_static X23 hx (y := yn_19) hown (mvT hZ (wd_110 hw)) (mvT hZ (wd_111 hw)) (mvT hZ (wd_107 hw)) (mvT hZ (wd_112 hw)) (by decide) (backOf (W := 2) (rm_m19_3 l Z aZ hw [] p0 h23 n0 (Nat.le_trans Z0 E23.1) ) hZ (wd_112 hw) (wd_107 hw) (by decide) (by decide)) (by rw [hml]; rfl) [(.int p0)] (lenOf pd_1 rfl) rfl (Nat.le_of_eq rfl) (d17_18 hby) (fun _ _ => ⟨rfl, e23, (by decide : 1 + 1 ≤ _), (by decide : 4 + 1 ≤ _)⟩) (pc' := 21) rfl ?_
 rintro _ _ ⟨T29, L29, k29, n29⟩ X29 ⟨Lc29, hQ29, l29, y29, z29⟩
 dsimp only [Pt.U, Pt.locs, Pt.cells, Pt.slots] at X29 l29 y29 z29 hQ29 ⊢
 subst l29 y29 z29
 obtain ⟨r0_29, c0_29, rfl, N29q, K29, g29_0, g29_1⟩ := hQ29
 have N30 := Fr.app N22 N29q
 have K31 : Keep h0 T29.heap [] := K26.trans K29 (all0 (P := fun x => x ∈ [] ∨ h0.size ≤ x))
 have ge32 : n0 ≤ r0_29 := Nat.le_trans (Nat.le_trans Z0 E23.1) g29_0
 have sz33 : h0.size ≤ r0_29 := Nat.le_trans E23.1 g29_0
 show Runs _ _ _ _ (T29.setTop (mkF m 21 #[.val (.int p0)] [(.ref r0_29), (.ref b23), (.ref b23)]))
 refine w_iconst X29 hx (d17_21 hby) (v := (0 : Int32)) rfl (pc' := 22) rfl ?_
 have f34 : Exa Z T29.heap b23 kc0 := (A23.keep K29)
 have f35 : Fld Z T29.heap b23 kc0 "value" "[B" .null := (f28.keep K29 nin0)
 have f36 : Fld Z T29.heap b23 kc0 "coder" "B" (.int (0 : Int32)) := (f27.keep K29 nin0)
 have le37 : h0.size ≤ T29.heap.size := (Nat.le_trans E23.1 K29.1)
 refine w_special X29 hx (y := yn_20) rfl hown (mvT hZ (wd_113 hw)) (mvT hZ (wd_114 hw)) (mvT hZ (wd_115 hw)) (by decide) (backOf (W := 1) (rm_m20_4 l Z aZ hw [] b23 r0_29 T29.heap n0 (Nat.le_trans Z0 le37) f34 f35 ge24 f36) hZ (wd_115 hw) (wd_74 hw) (by decide) (by decide)) (by rw [hml]; rfl) [(.ref r0_29), (.int (0 : Int32))] (lenOf pd_2 rfl) rfl (Nat.le_of_eq rfl) (d17_22 hby) (fun _ _ => ⟨rfl, rfl, (by decide : 2 + 0 ≤ _), (by decide : 5 + 0 ≤ _)⟩) (pc' := 25) rfl ?_
 rintro _ _ ⟨T38, L38, k38, n38⟩ X38 ⟨Lc38, hQ38, l38, y38, z38⟩
 dsimp only [Pt.U, Pt.locs, Pt.cells, Pt.slots] at X38 l38 y38 z38 hQ38 ⊢
 subst l38 y38 z38
 obtain ⟨rfl, N38q, K38, g38_0, g38_1, g38_2⟩ := hQ38
 have N39 := Fr.app N30 N38q
 have K40 : Keep h0 T38.heap [] := K31.trans K38 (allS (Or.inr sz25) (all0 (P := fun x => x ∈ [] ∨ h0.size ≤ x)))
 show Runs _ _ _ _ (T38.setTop (mkF m 25 #[.val (.int p0)] [(.ref b23)]))
 have ne41 : b23 ≠ r0_29 := (Nat.ne_of_lt (Nat.lt_of_lt_of_le A23.lt (Nat.le_trans (Nat.le_refl _) g29_0)))
 have f42 : Arv Z T38.heap r0_29 c0_29 .byte (1 : Int32) [(.int (p0.toInt8.toInt32))] (.int (0 : Int32)) := (g29_1.keep K38 (ninS (Ne.symm ne41) nin0))
 exact w_done X38 hlk (v := some (.ref b23)) rfl (fun h => by rw [hret] at h; cases h) (fun fs hr => retOut X38 hx hret rfl (Or.inr (Or.inr (Or.inr (Or.inr ⟨rfl, rfl, rfl⟩)))) (d17_25 hby) hr) (by decide) (by decide) (⟨b23, r0_29, c0_29, rfl, N39, K40, sz25, sz33, g38_0, g38_2, g38_1, f42⟩)
theorem ef_draw (m : MethodId) (p0 : Int32) (p1 : Int32)  : entryFrame m #[(.int p0), (.int p1)] 4 = mkF m 0 #[.val (.int p0), .val (.int p1), .unset, .unset] [] := by first | (simp [entryFrame, mkF, argsToLocals, Value.category]; done) | rfl
def Q_draw (Z : State) (p0 : Int32) (p1 : Int32) (jj0 : Int32) (h0 : Heap) (n0 : Nat) (v : Option Value) (h : Heap) (L : List Loc) (S : Addr → Prop) : Prop := ∃ (u : Value), v = some u ∧ Fr n0 L ∧ Keep h0 h [] ∧ u.isRef = true
theorem rm_draw (l : Launch) (Z : State) (aZ : Array Value) (hw : ∀ d ∈ tables_1, d.before aZ Z = true) (ws : List Jvm.Cond) (p0 : Int32) (p1 : Int32) (jj0 : Int32) (h0 : Heap) (n0 : Nat) (Z0 : n0 ≤ h0.size) (hP_0 : ¬ (jj0 = (0 : Int32))) (zz1 : Sta Z Z.heap kc0 "COMPACT_STRINGS" "Z" (.int jj0)) (O0 : Old Z n0 h0) :
    MetH l Z EL yn_1 method_2_code 4 (some (.object kc0)) ws ({ frames := 4, cells := 3, slots := 8, locals := 66 } : Room) #[(.int p0), (.int p1)] h0 (Q_draw Z p0 p1 jj0 h0 n0) [] := by
 refine MetH.of (plainFor_of_name pn_2) ?_
 intro p e s m below meth c s₁ hret hx hby hml hown hnm hlk hZ X0 e0 hh hH hsf hS0 C0
 have N0 := Fr.nil n0
 rw [ef_draw m p0 p1]
 refine w_iloadN X0 hx (d1_0 hby) rfl (pc' := 1) rfl ?_
 refine w_iconst X0 hx (d1_1 hby) (v := (3 : Int32)) rfl (pc' := 2) rfl ?_
 refine w_iand X0 hx (d1_2 hby) (pc' := 3) rfl ?_
 refine w_istoreN X0 hx (d1_3 hby) (L' := #[.val (.int p0), .val (.int p1), .val (.int (p1 &&& (3 : Int32))), .unset]) rfl (pc' := 4) rfl ?_
 refine w_iloadN X0 hx (d1_4 hby) rfl (pc' := 5) rfl ?_
 by_cases hc20 : (p1 &&& (3 : Int32)) = (0 : Int32)
 · refine w_ifN X0 hx (d1_5 hby) (teq hc20).2 (pc' := 8) rfl ?_
   refine w_null X0 hx (d1_8 hby) (pc' := 9) rfl ?_
   exact w_doneH X0 hlk (v := some .null) e0 hh hZ (own_EW hw) hS0 (Nat.le_refl _) C0 (fun h => by rw [hret] at h; cases h) (fun fs hr => retOut X0 hx hret rfl (Or.inr (Or.inr (Or.inr (Or.inr ⟨rfl, rfl, rfl⟩)))) (d1_9 hby) hr) (by decide) (by decide) (fun hsy => ⟨.null, rfl, N0, (Keep.refl h0 []), rfl⟩)
 · refine w_ifY X0 hx (d1_5 hby) (feq hc20).2 (pc' := 10) (by decide) (by decide) ?_
   refine w_iloadN X0 hx (d1_10 hby) rfl (pc' := 11) rfl ?_
   refine w_iconst X0 hx (d1_11 hby) (v := (1 : Int32)) rfl (pc' := 12) rfl ?_
   by_cases hc21 : (p1 &&& (3 : Int32)) = (1 : Int32)
   · refine w_icN X0 hx (d1_12 hby) (teq hc21).2 (pc' := 15) rfl ?_
     obtain ⟨a22, T22, h22, k22, X22, e22, E22, hS22, hk22, hZ22, hown22, A22, -, st22⟩ := ldcOH X0 hx hZ hown (wd_99 hw) (own_wS hw) e0 hS0 (Nat.le_refl _) (own_EW hw) C0.1 (g := (mkF m 15 #[.val (.int p0), .val (.int p1), .val (.int (p1 &&& (3 : Int32))), .unset] [])) rfl (d1_15 hby) (n := 0) (by decide +kernel) (by decide) (by decide) (by decide)
     refine Runs.by ?_ st22
     have C23 : CHr Z EL s.vm h0 T22.vm h22 := C0.trans A22
     have K24 : Keep h0 h22 [] := (Keep.refl h0 []).ext E22
     show Runs _ _ _ _ (T22.setTop (mkF m 17 #[.val (.int p0), .val (.int p1), .val (.int (p1 &&& (3 : Int32))), .unset] [(.ref a22)]))
     exact w_doneH X22 hlk (v := some (.ref a22)) e22 hh hZ22 (own_EW hw) hS22 hk22 C23 (fun h => by rw [hret] at h; cases h) (fun fs hr => retOut X22 hx hret rfl (Or.inr (Or.inr (Or.inr (Or.inr ⟨rfl, rfl, rfl⟩)))) (d1_17 hby) hr) (by decide) (by decide) (fun hsy => ⟨(.ref a22), rfl, N0, K24, rfl⟩)
   · refine w_icY X0 hx (d1_12 hby) (feq hc21).2 (pc' := 18) (by decide) (by decide) ?_
     refine w_iloadN X0 hx (d1_18 hby) rfl (pc' := 19) rfl ?_
     refine w_iconst X0 hx (d1_19 hby) (v := (2 : Int32)) rfl (pc' := 20) rfl ?_
     by_cases hc25 : (p1 &&& (3 : Int32)) = (2 : Int32)
     · refine w_icN X0 hx (d1_20 hby) (teq hc25).2 (pc' := 23) rfl ?_
       refine w_iloadN X0 hx (d1_23 hby) rfl (pc' := 24) rfl ?_
       refine w_sipush X0 hx (d1_24 hby) (v := (255 : Int32)) rfl (pc' := 27) rfl ?_
       refine w_iand X0 hx (d1_27 hby) (pc' := 28) rfl ?_
       refine w_i2c X0 hx (d1_28 hby) (pc' := 29) rfl ?_
       refine w_static X0 hx (y := yn_17) hown (mvT hZ (wd_102 hw)) (mvT hZ (wd_103 hw)) (mvT hZ (wd_74 hw)) (mvT hZ (wd_104 hw)) (by decide) (backOf (W := 0) (rm_m17_1 l Z aZ hw [] ((p0 &&& (255 : Int32)).toUInt32.toUInt16.toUInt32.toInt32) jj0 h0 n0 Z0 zz1 O0 hP_0 (own_and255 p0).2) hZ (wd_104 hw) (wd_74 hw) (by decide) (by decide)) (by rw [hml]; rfl) [(.int ((p0 &&& (255 : Int32)).toUInt32.toUInt16.toUInt32.toInt32))] (lenOf pd_3 rfl) rfl (Nat.le_of_eq rfl) (d1_29 hby) (fun _ _ => ⟨rfl, e0, (by decide : 0 + 2 ≤ _), (by decide : 0 + 5 ≤ _)⟩) (pc' := 32) rfl ?_
       rintro _ _ ⟨T26, L26, k26, n26⟩ X26 ⟨Lc26, hQ26, l26, y26, z26⟩
       dsimp only [Pt.U, Pt.locs, Pt.cells, Pt.slots] at X26 l26 y26 z26 hQ26 ⊢
       subst l26 y26 z26
       obtain ⟨r0_26, r1_26, c0_26, rfl, N26q, K26, g26_0, g26_1, g26_2, g26_3, g26_4, g26_5⟩ := hQ26
       have N27 := Fr.app N0 N26q
       have C28 : CHr Z EL s.vm h0 s.vm T26.heap := C0.trans (CHr.keep K26 sf0 C0.1)
       have K29 : Keep h0 T26.heap [] := (Keep.refl h0 []).trans K26 (all0 (P := fun x => x ∈ [] ∨ h0.size ≤ x))
       have ge30 : n0 ≤ r0_26 := Nat.le_trans Z0 g26_0
       have sz31 : h0.size ≤ r0_26 := Nat.le_trans (Nat.le_refl _) g26_0
       have ge32 : n0 ≤ r1_26 := Nat.le_trans Z0 g26_1
       have sz33 : h0.size ≤ r1_26 := Nat.le_trans (Nat.le_refl _) g26_1
       show Runs _ _ _ _ (T26.setTop (mkF m 32 #[.val (.int p0), .val (.int p1), .val (.int (p1 &&& (3 : Int32))), .unset] [(.ref r0_26)]))
       exact w_doneH X26 hlk (v := some (.ref r0_26)) rfl hh hZ (own_EW hw) hS0 (Nat.le_trans (Nat.le_refl _) K26.1) C28 (fun h => by rw [hret] at h; cases h) (fun fs hr => retOut X26 hx hret rfl (Or.inr (Or.inr (Or.inr (Or.inr ⟨rfl, rfl, rfl⟩)))) (d1_32 hby) hr) (by decide) (by decide) (fun hsy => ⟨(.ref r0_26), rfl, N27, K29, rfl⟩)
     · refine w_icY X0 hx (d1_20 hby) (feq hc25).2 (pc' := 33) (by decide) (by decide) ?_
       refine w_iconst X0 hx (d1_33 hby) (v := (2 : Int32)) rfl (pc' := 34) rfl ?_
       refine w_newP X0 hx .char .char 2 rfl hZ (wd_71 hw) e0 (d1_34 hby) (by decide) (by decide) (by decide) (by decide) (by decide) (pc' := 36) rfl ?_
       intro T34 h34 k34 b34 X34 e34 E34 g34 A34
       have ge35 : n0 ≤ b34 := Nat.le_trans Z0 (Nat.le_of_eq g34.symm)
       have sz36 : h0.size ≤ b34 := Nat.le_trans (Nat.le_refl _) (Nat.le_of_eq g34.symm)
       have C37 : CHr Z EL s.vm h0 s.vm h34 := C0.trans (CHr.ext E34 C0.1)
       have K38 : Keep h0 h34 [] := (Keep.refl h0 []).ext E34
       have V39 : Arv Z h34 b34 k34 .char (2 : Int32) [(.int (0 : Int32)), (.int (0 : Int32))] (.int (0 : Int32)) := (Arv.new A34 (by decide)).pad (pad_rep [] (.int (0 : Int32)) 2)
       refine w_astoreN X34 hx (d1_36 hby) rfl (L' := #[.val (.int p0), .val (.int p1), .val (.int (p1 &&& (3 : Int32))), .val (.ref b34)]) rfl (pc' := 37) rfl ?_
       refine w_aloadN X34 hx (d1_37 hby) rfl rfl (pc' := 38) rfl ?_
       refine w_iconst X34 hx (d1_38 hby) (v := (0 : Int32)) rfl (pc' := 39) rfl ?_
       refine w_iloadN X34 hx (d1_39 hby) rfl (pc' := 40) rfl ?_
       refine w_sipush X34 hx (d1_40 hby) (v := (255 : Int32)) rfl (pc' := 43) rfl ?_
       refine w_iand X34 hx (d1_43 hby) (pc' := 44) rfl ?_
       refine w_i2c X34 hx (d1_44 hby) (pc' := 45) rfl ?_
       obtain ⟨clu40, Aru40, qu40, Su40, Nu40, Hu40, Gu40⟩ := id V39
       have hinu40 := inb_of (j := (0 : Int32)) Su40 ⟨by decide, by decide⟩
       refine w_stC X34 hx hZ e34 Aru40 hinu40 (d1_45 hby) (pc' := 46) rfl ?_
       intro T41 h41 X41 e41 W41
       have C42 : CHr Z EL s.vm h0 s.vm h41 := C37.trans (CHr.wr W41 (Safe.arv hZ.alike V39 (by decide)) C37.1)
       have V43 : Arv Z h41 b34 k34 .char (2 : Int32) [(.int (nar .char ((p0 &&& (255 : Int32)).toUInt32.toUInt16.toUInt32.toInt32))), (.int (0 : Int32))] (.int (0 : Int32)) := Arv.set Aru40 qu40 Su40 Nu40 Hu40 Gu40 (fits_nar_char _) W41 0 rfl (Nat.le_of_ble_eq_true rfl)
       have V44 : Arv Z h41 b34 k34 .char (2 : Int32) [(.int ((p0 &&& (255 : Int32)).toUInt32.toUInt16.toUInt32.toInt32)), (.int (0 : Int32))] (.int (0 : Int32)) := by rw [nar_c] at V43; exact V43
       have K45 : Keep h0 h41 [] := K38.wr W41 (Or.inr sz36)
       have N46 := Fr.snoc X41 N0 ge35
       refine w_aloadN X41 hx (d1_46 hby) rfl rfl (pc' := 47) rfl ?_
       refine w_iconst X41 hx (d1_47 hby) (v := (1 : Int32)) rfl (pc' := 48) rfl ?_
       refine w_iloadN X41 hx (d1_48 hby) rfl (pc' := 49) rfl ?_
       refine w_bipush X41 hx (d1_49 hby) (v := (8 : Int32)) rfl (pc' := 51) rfl ?_
       refine w_iushr X41 hx (d1_51 hby) (pc' := 52) rfl ?_
       refine w_sipush X41 hx (d1_52 hby) (v := (255 : Int32)) rfl (pc' := 55) rfl ?_
       refine w_iand X41 hx (d1_55 hby) (pc' := 56) rfl ?_
       refine w_i2c X41 hx (d1_56 hby) (pc' := 57) rfl ?_
       obtain ⟨clu47, Aru47, qu47, Su47, Nu47, Hu47, Gu47⟩ := id V44
       have hinu47 := inb_of (j := (1 : Int32)) Su47 ⟨by decide, by decide⟩
       refine w_stC X41 hx hZ e41 Aru47 hinu47 (d1_57 hby) (pc' := 58) rfl ?_
       intro T48 h48 X48 e48 W48
       have C49 : CHr Z EL s.vm h0 s.vm h48 := C42.trans (CHr.wr W48 (Safe.arv hZ.alike V44 (by decide)) C42.1)
       have V50 : Arv Z h48 b34 k34 .char (2 : Int32) [(.int ((p0 &&& (255 : Int32)).toUInt32.toUInt16.toUInt32.toInt32)), (.int (nar .char ((((p0.toUInt32 >>> ((8 : Int32) &&& 31).toUInt32).toInt32) &&& (255 : Int32)).toUInt32.toUInt16.toUInt32.toInt32)))] (.int (0 : Int32)) := Arv.set Aru47 qu47 Su47 Nu47 Hu47 Gu47 (fits_nar_char _) W48 1 rfl (Nat.le_of_ble_eq_true rfl)
       have V51 : Arv Z h48 b34 k34 .char (2 : Int32) [(.int ((p0 &&& (255 : Int32)).toUInt32.toUInt16.toUInt32.toInt32)), (.int ((((p0.toUInt32 >>> ((8 : Int32) &&& 31).toUInt32).toInt32) &&& (255 : Int32)).toUInt32.toUInt16.toUInt32.toInt32))] (.int (0 : Int32)) := by rw [nar_c] at V50; exact V50
       have K52 : Keep h0 h48 [] := K45.wr W48 (Or.inr sz36)
       have N53 := Fr.snoc X48 N46 ge35
       refine w_new X48 hx hZ hown (wd_72 hw) (wd_73 hw) (wd_74 hw) e48 (d1_58 hby) (by decide) (by decide) (pc' := 61) rfl ?_
       intro T54 h54 b54 X54 e54 E54 g54 A54 D54
       have le56 : h0.size ≤ h41.size := (Nat.le_trans E34.1 (Keep.of_wr W41).1)
       have le57 : h0.size ≤ h48.size := (Nat.le_trans le56 (Keep.of_wr W48).1)
       have ge55 : n0 ≤ b54 := Nat.le_trans (Nat.le_trans Z0 le57) (Nat.le_of_eq g54.symm)
       have sz58 : h0.size ≤ b54 := Nat.le_trans le57 (Nat.le_of_eq g54.symm)
       have C59 : CHr Z EL s.vm h0 s.vm h54 := C49.trans (CHr.ext E54 C49.1)
       have K60 : Keep h0 h54 [] := K52.ext E54
       have f61 : Fld Z h54 b54 kc0 "coder" "B" (.int (0 : Int32)) := D54 (Or.inr (wd_96 hw)) (ty := .byte) (by decide)
       have f62 : Fld Z h54 b54 kc0 "value" "[B" .null := D54 (Or.inr (wd_98 hw)) (ty := (.array .byte)) (by decide)
       refine w_dup X54 hx (d1_61 hby) rfl (pc' := 62) rfl ?_
       refine w_aloadN X54 hx (d1_62 hby) rfl rfl (pc' := 63) rfl ?_
       have le63 : h0.size ≤ h54.size := (Nat.le_trans le57 E54.1)
       have f65 : Arv Z h54 b34 k34 .char (2 : Int32) [(.int ((p0 &&& (255 : Int32)).toUInt32.toUInt16.toUInt32.toInt32)), (.int ((((p0.toUInt32 >>> ((8 : Int32) &&& 31).toUInt32).toInt32) &&& (255 : Int32)).toUInt32.toUInt16.toUInt32.toInt32))] (.int (0 : Int32)) := (V51.ext E54)
       have f66 : Old Z n0 h54 := ((((O0.ext E34).wr W41 ge35).wr W48 ge35).ext E54)
       refine w_special X54 hx (y := yn_12) rfl hown (mvT hZ (wd_75 hw)) (mvT hZ (wd_76 hw)) (mvT hZ (wd_77 hw)) (by decide) (StrChars.Road.backV (W := 1) hZ (own_hws hw) (kI := 4) (wd_73 hw) (cs := ([((p0 &&& (255 : Int32)).toUInt32.toUInt16.toUInt32.toInt32), ((((p0.toUInt32 >>> ((8 : Int32) &&& 31).toUInt32).toInt32) &&& (255 : Int32)).toUInt32.toUInt16.toUInt32.toInt32)] : List Int32)) (bs := ([((p0 &&& (255 : Int32)).toUInt32.toUInt16.toUInt32.toInt32), ((((p0.toUInt32 >>> ((8 : Int32) &&& 31).toUInt32).toInt32) &&& (255 : Int32)).toUInt32.toUInt16.toUInt32.toInt32)] : List Int32).map (fun c => c.toInt8.toInt32)) (n := 2) ge55 (Nat.le_trans Z0 le63) A54 f62 f61 f65 (zz1.ext f66.2) hP_0 rfl rfl (by decide) (by decide) (List.forall_mem_cons.2 ⟨(own_and255 p0), (List.forall_mem_cons.2 ⟨(own_and255 ((p0.toUInt32 >>> ((8 : Int32) &&& 31).toUInt32).toInt32)), (fun _ h => nomatch h)⟩)⟩) rfl (by decide) (by decide)) (by rw [hml]; rfl) [(.ref b34)] (lenOf pd_4 rfl) rfl (Nat.le_of_eq rfl) (d1_63 hby) (fun _ _ => ⟨rfl, e54, (by decide : 2 + 1 ≤ _), (by decide : 6 + 2 ≤ _)⟩) (pc' := 66) rfl ?_
       rintro _ _ ⟨T64, L64, k64, n64⟩ X64 ⟨Lc64, hQ64, l64, y64, z64⟩
       dsimp only [Pt.U, Pt.locs, Pt.cells, Pt.slots] at X64 l64 y64 z64 hQ64 ⊢
       subst l64 y64 z64
       obtain ⟨rfl, N64q, K64, g64_0, g64_1, t_64, kb_64, g64_2, g64_3, g64_4, g64_5, g64_6⟩ := hQ64
       have N67 := Fr.app N53 N64q
       have y68 : Safe Z EL s.vm h54 b54 := (Safe.ext E54 C49.1 (Safe.new (Nat.le_of_eq g54.symm)))
       have C69 : CHr Z EL s.vm h0 s.vm T64.heap := C59.trans (CHr.keep K64 (sfS y68 sf0) C59.1)
       have K70 : Keep h0 T64.heap [] := K60.trans K64 (allS (Or.inr sz58) (all0 (P := fun x => x ∈ [] ∨ h0.size ≤ x)))
       have ge71 : n0 ≤ t_64 := Nat.le_trans (Nat.le_trans Z0 le63) g64_3
       have sz72 : h0.size ≤ t_64 := Nat.le_trans le63 g64_3
       show Runs _ _ _ _ (T64.setTop (mkF m 66 #[.val (.int p0), .val (.int p1), .val (.int (p1 &&& (3 : Int32))), .val (.ref b34)] [(.ref b54)]))
       have le73 : h0.size ≤ T64.heap.size := (Nat.le_trans le63 K64.1)
       exact w_doneH X64 hlk (v := some (.ref b54)) rfl hh hZ (own_EW hw) hS0 (Nat.le_trans (Nat.le_refl _) le73) C69 (fun h => by rw [hret] at h; cases h) (fun fs hr => retOut X64 hx hret rfl (Or.inr (Or.inr (Or.inr (Or.inr ⟨rfl, rfl, rfl⟩)))) (d1_66 hby) hr) (by decide) (by decide) (fun hsy => ⟨(.ref b54), rfl, N67, K70, rfl⟩)
theorem ef_m3_6 (m : MethodId) (a0 : Addr)  : entryFrame m #[(.ref a0)] 1 = mkF m 0 #[.val (.ref a0)] [] := by first | (simp [entryFrame, mkF, argsToLocals, Value.category]; done) | rfl
def Q_m3_6 (Z : State) (a0 : Addr) (h0 : Heap) (n0 : Nat) (v : Option Value) (h : Heap) (L : List Loc) : Prop := v = none ∧ Fr n0 L ∧ h = h0
theorem rm_m3_6 (l : Launch) (Z : State) (aZ : Array Value) (hw : ∀ d ∈ tables_1, d.before aZ Z = true) (ws : List Jvm.Cond) (a0 : Addr) (h0 : Heap) (n0 : Nat) (Z0 : n0 ≤ h0.size) :
    MetN l Z yn_3 jdk_30_method_1_code 1 none ws ({ frames := 1, cells := 0, slots := 0, locals := 12 } : Room) #[(.ref a0)] h0 (Q_m3_6 Z a0 h0 n0) := by
 refine MetN.of (plainFor_of_name pn_3) ?_
 intro p e s m below meth c s₁ hret hx hby hml hown hnm hlk hZ X0 e0
 have N0 := Fr.nil n0
 rw [ef_m3_6 m a0]
 refine w_aloadN X0 hx (d3_0 hby) rfl rfl (pc' := 1) rfl ?_
 refine w_initO X0 hx 0 hZ hown (wd_15 hw) (wd_16 hw) (wd_17 hw) e0 (by rw [hml]; rfl) (d3_1 hby) (by decide) (Nat.le_of_eq rfl) (by decide) (pc' := 4) rfl ?_
 intro T20 X20 e20
 exact w_done X20 hlk (v := none) e20 (fun _ => rfl) (fun fs hr => X20.returnOut hx hret (d3_4 hby) hr) (by decide) (by decide) (⟨rfl, N0, rfl⟩)
theorem ef_m2_5 (m : MethodId) (a0 : Addr) (v1 : Value) (v2 : Value) (p3 : Int32) (p4 : Int32) (p5 : Int32) (r_v1 : v1.isRef = true) (r_v2 : v2.isRef = true) : entryFrame m #[(.ref a0), v1, v2, (.int p3), (.int p4), (.int p5)] 6 = mkF m 0 #[.val (.ref a0), .val v1, .val v2, .val (.int p3), .val (.int p4), .val (.int p5)] [] := by
  rcases XT.refc r_v1 with rfl | ⟨z_v1, rfl⟩ <;> rcases XT.refc r_v2 with rfl | ⟨z_v2, rfl⟩ <;> first | (simp [entryFrame, mkF, argsToLocals, Value.category]; done) | rfl
def Q_m2_5 (Z : State) (a0 : Addr) (v1 : Value) (v2 : Value) (p3 : Int32) (p4 : Int32) (p5 : Int32) (h0 : Heap) (n0 : Nat) (v : Option Value) (h : Heap) (L : List Loc) : Prop := v = none ∧ Fr n0 L ∧ Keep h0 h [a0] ∧ Exa Z h a0 kc2 ∧ Fld Z h a0 kc2 "name" "Ljava/lang/String;" v1 ∧ Fld Z h a0 kc2 "side" "Ljava/lang/String;" v2 ∧ Fld Z h a0 kc2 "initiative" "I" (.int p3) ∧ Fld Z h a0 kc2 "player" "Z" (.int p4) ∧ Fld Z h a0 kc2 "actionDice" "I" (.int p5)
theorem rm_m2_5 (l : Launch) (Z : State) (aZ : Array Value) (hw : ∀ d ∈ tables_1, d.before aZ Z = true) (ws : List Jvm.Cond) (a0 : Addr) (v1 : Value) (v2 : Value) (p3 : Int32) (p4 : Int32) (p5 : Int32) (h0 : Heap) (n0 : Nat) (Z0 : n0 ≤ h0.size) (r_v1 : v1.isRef = true) (r_v2 : v2.isRef = true) (E_a0 : Exa Z h0 a0 kc2) (zz0 : Fld Z h0 a0 kc2 "name" "Ljava/lang/String;" .null) (zz1 : n0 ≤ a0) (zz2 : Fld Z h0 a0 kc2 "side" "Ljava/lang/String;" .null) (zz3 : Fld Z h0 a0 kc2 "initiative" "I" (.int (0 : Int32))) (zz4 : Fld Z h0 a0 kc2 "player" "Z" (.int (0 : Int32))) (zz5 : nar .boolean p4 = p4) (zz6 : Fld Z h0 a0 kc2 "actionDice" "I" (.int (0 : Int32))) :
    MetN l Z yn_2 prog_17_method_1_code 6 none ws ({ frames := 2, cells := 0, slots := 0, locals := 24 } : Room) #[(.ref a0), v1, v2, (.int p3), (.int p4), (.int p5)] h0 (Q_m2_5 Z a0 v1 v2 p3 p4 p5 h0 n0) := by
 refine MetN.of (plainFor_of_name pn_4) ?_
 intro p e s m below meth c s₁ hret hx hby hml hown hnm hlk hZ X0 e0
 have N0 := Fr.nil n0
 rw [ef_m2_5 m a0 v1 v2 p3 p4 p5 r_v1 r_v2]
 refine w_aloadN X0 hx (d2_0 hby) rfl rfl (pc' := 1) rfl ?_
 refine w_special X0 hx (y := yn_3) rfl hown (mvT hZ (wd_10 hw)) (mvT hZ (wd_11 hw)) (mvT hZ (wd_14 hw)) (by decide) (backOf (W := 0) (rm_m3_6 l Z aZ hw [] a0 h0 n0 Z0 ) hZ (wd_14 hw) (wd_13 hw) (by decide) (by decide)) (by rw [hml]; rfl) [] (lenOf pd_6 rfl) rfl (Nat.le_of_eq rfl) (d2_1 hby) (fun _ _ => ⟨rfl, e0, (by decide : 0 + 0 ≤ _), (by decide : 0 + 0 ≤ _)⟩) (pc' := 4) rfl ?_
 rintro _ _ ⟨T20, L20, k20, n20⟩ X20 ⟨Lc20, hQ20, l20, y20, z20⟩
 dsimp only [Pt.U, Pt.locs, Pt.cells, Pt.slots] at X20 l20 y20 z20 hQ20 ⊢
 subst l20 y20 z20
 obtain ⟨rfl, N20q, e20⟩ := hQ20
 have N21 := Fr.app N0 N20q
 show Runs _ _ _ _ (T20.setTop (mkF m 4 #[.val (.ref a0), .val v1, .val v2, .val (.int p3), .val (.int p4), .val (.int p5)] []))
 refine w_aloadN X20 hx (d2_4 hby) rfl rfl (pc' := 5) rfl ?_
 refine w_aloadN X20 hx (d2_5 hby) rfl r_v1 (pc' := 6) rfl ?_
 refine w_putF X20 hx "" hZ hown (Or.inl (wd_18 hw)) Via.refl e20 zz0 E_a0 (Or.inr ⟨(wd_19 hw), rfl, hnm⟩) (wd_5 hw) (ty := (.object kc0)) (by decide) (own_narref r_v1) (own_fitsref rfl r_v1) (d2_6 hby) (pc' := 9) rfl ?_
 intro T22 h22 X22 e22 W22
 have f23 : Fld Z h22 a0 kc2 "name" "Ljava/lang/String;" v1 := zz0.same W22
 have K24 : Keep h0 h22 [a0] := (Keep.refl h0 [a0]).wr W22 (Or.inl (by simp))
 have N25 := Fr.snoc X22 N21 zz1
 refine w_aloadN X22 hx (d2_9 hby) rfl rfl (pc' := 10) rfl ?_
 refine w_aloadN X22 hx (d2_10 hby) rfl r_v2 (pc' := 11) rfl ?_
 have f26 : Exa Z h22 a0 kc2 := (E_a0.wr W22)
 have f27 : Fld Z h22 a0 kc2 "side" "Ljava/lang/String;" .null := (zz2.other W22 (Or.inr (slot_ne (Or.inr (wd_21 hw)) (Or.inr (wd_19 hw)) (by decide) (t := (.object kc0)) (t' := (.object kc0)) (by decide) (by decide))))
 refine w_putF X22 hx "" hZ hown (Or.inl (wd_20 hw)) Via.refl e22 f27 f26 (Or.inr ⟨(wd_21 hw), rfl, hnm⟩) (wd_5 hw) (ty := (.object kc0)) (by decide) (own_narref r_v2) (own_fitsref rfl r_v2) (d2_11 hby) (pc' := 14) rfl ?_
 intro T28 h28 X28 e28 W28
 have f29 : Fld Z h28 a0 kc2 "side" "Ljava/lang/String;" v2 := f27.same W28
 have K30 : Keep h0 h28 [a0] := K24.wr W28 (Or.inl (by simp))
 have N31 := Fr.snoc X28 N25 zz1
 refine w_aloadN X28 hx (d2_14 hby) rfl rfl (pc' := 15) rfl ?_
 refine w_iloadN X28 hx (d2_15 hby) rfl (pc' := 16) rfl ?_
 have f32 : Exa Z h28 a0 kc2 := (f26.wr W28)
 have f33 : Fld Z h28 a0 kc2 "initiative" "I" (.int (0 : Int32)) := ((zz3.other W22 (Or.inr (slot_ne (Or.inr (wd_23 hw)) (Or.inr (wd_19 hw)) (by decide) (t := .int) (t' := (.object kc0)) (by decide) (by decide)))).other W28 (Or.inr (slot_ne (Or.inr (wd_23 hw)) (Or.inr (wd_21 hw)) (by decide) (t := .int) (t' := (.object kc0)) (by decide) (by decide))))
 refine w_putF X28 hx "" hZ hown (Or.inl (wd_22 hw)) Via.refl e28 f33 f32 (Or.inr ⟨(wd_23 hw), rfl, hnm⟩) (wd_5 hw) (ty := .int) (by decide) rfl rfl (d2_16 hby) (pc' := 19) rfl ?_
 intro T34 h34 X34 e34 W34
 have f35 : Fld Z h34 a0 kc2 "initiative" "I" (.int p3) := f33.same W34
 have K36 : Keep h0 h34 [a0] := K30.wr W34 (Or.inl (by simp))
 have N37 := Fr.snoc X34 N31 zz1
 refine w_aloadN X34 hx (d2_19 hby) rfl rfl (pc' := 20) rfl ?_
 refine w_iload X34 hx (d2_20 hby) rfl (pc' := 22) rfl ?_
 have f38 : Exa Z h34 a0 kc2 := (f32.wr W34)
 have f39 : Fld Z h34 a0 kc2 "player" "Z" (.int (0 : Int32)) := (((zz4.other W22 (Or.inr (slot_ne (Or.inr (wd_25 hw)) (Or.inr (wd_19 hw)) (by decide) (t := .boolean) (t' := (.object kc0)) (by decide) (by decide)))).other W28 (Or.inr (slot_ne (Or.inr (wd_25 hw)) (Or.inr (wd_21 hw)) (by decide) (t := .boolean) (t' := (.object kc0)) (by decide) (by decide)))).other W34 (Or.inr (slot_ne (Or.inr (wd_25 hw)) (Or.inr (wd_23 hw)) (by decide) (t := .boolean) (t' := .int) (by decide) (by decide))))
 refine w_putFN X34 hx hZ hown (wd_24 hw) Via.refl e34 f39 f38 (Or.inr ⟨(wd_25 hw), rfl, hnm⟩) (wd_5 hw) (ty := .boolean) (by decide) (v' := (.int (nar .boolean p4))) rfl (fits_nar_bool _) (d2_22 hby) (pc' := 25) rfl ?_
 intro T40 h40 X40 e40 W40
 have f41 : Fld Z h40 a0 kc2 "player" "Z" (.int (nar .boolean p4)) := f39.same W40
 have f42 : Fld Z h40 a0 kc2 "player" "Z" (.int p4) := by rw [zz5] at f41; exact f41
 have K43 : Keep h0 h40 [a0] := K36.wr W40 (Or.inl (by simp))
 have N44 := Fr.snoc X40 N37 zz1
 refine w_aloadN X40 hx (d2_25 hby) rfl rfl (pc' := 26) rfl ?_
 refine w_iload X40 hx (d2_26 hby) rfl (pc' := 28) rfl ?_
 have f45 : Exa Z h40 a0 kc2 := (f38.wr W40)
 have f46 : Fld Z h40 a0 kc2 "actionDice" "I" (.int (0 : Int32)) := ((((zz6.other W22 (Or.inr (slot_ne (Or.inr (wd_27 hw)) (Or.inr (wd_19 hw)) (by decide) (t := .int) (t' := (.object kc0)) (by decide) (by decide)))).other W28 (Or.inr (slot_ne (Or.inr (wd_27 hw)) (Or.inr (wd_21 hw)) (by decide) (t := .int) (t' := (.object kc0)) (by decide) (by decide)))).other W34 (Or.inr (slot_ne (Or.inr (wd_27 hw)) (Or.inr (wd_23 hw)) (by decide) (t := .int) (t' := .int) (by decide) (by decide)))).other W40 (Or.inr (slot_ne (Or.inr (wd_27 hw)) (Or.inr (wd_25 hw)) (by decide) (t := .int) (t' := .boolean) (by decide) (by decide))))
 refine w_putF X40 hx "" hZ hown (Or.inl (wd_26 hw)) Via.refl e40 f46 f45 (Or.inr ⟨(wd_27 hw), rfl, hnm⟩) (wd_5 hw) (ty := .int) (by decide) rfl rfl (d2_28 hby) (pc' := 31) rfl ?_
 intro T47 h47 X47 e47 W47
 have f48 : Fld Z h47 a0 kc2 "actionDice" "I" (.int p5) := f46.same W47
 have K49 : Keep h0 h47 [a0] := K43.wr W47 (Or.inl (by simp))
 have N50 := Fr.snoc X47 N44 zz1
 have f51 : Exa Z h47 a0 kc2 := (f45.wr W47)
 have f52 : Fld Z h47 a0 kc2 "name" "Ljava/lang/String;" v1 := ((((f23.other W28 (Or.inr (slot_ne (Or.inr (wd_19 hw)) (Or.inr (wd_21 hw)) (by decide) (t := (.object kc0)) (t' := (.object kc0)) (by decide) (by decide)))).other W34 (Or.inr (slot_ne (Or.inr (wd_19 hw)) (Or.inr (wd_23 hw)) (by decide) (t := (.object kc0)) (t' := .int) (by decide) (by decide)))).other W40 (Or.inr (slot_ne (Or.inr (wd_19 hw)) (Or.inr (wd_25 hw)) (by decide) (t := (.object kc0)) (t' := .boolean) (by decide) (by decide)))).other W47 (Or.inr (slot_ne (Or.inr (wd_19 hw)) (Or.inr (wd_27 hw)) (by decide) (t := (.object kc0)) (t' := .int) (by decide) (by decide))))
 have f53 : Fld Z h47 a0 kc2 "side" "Ljava/lang/String;" v2 := (((f29.other W34 (Or.inr (slot_ne (Or.inr (wd_21 hw)) (Or.inr (wd_23 hw)) (by decide) (t := (.object kc0)) (t' := .int) (by decide) (by decide)))).other W40 (Or.inr (slot_ne (Or.inr (wd_21 hw)) (Or.inr (wd_25 hw)) (by decide) (t := (.object kc0)) (t' := .boolean) (by decide) (by decide)))).other W47 (Or.inr (slot_ne (Or.inr (wd_21 hw)) (Or.inr (wd_27 hw)) (by decide) (t := (.object kc0)) (t' := .int) (by decide) (by decide))))
 have f54 : Fld Z h47 a0 kc2 "initiative" "I" (.int p3) := ((f35.other W40 (Or.inr (slot_ne (Or.inr (wd_23 hw)) (Or.inr (wd_25 hw)) (by decide) (t := .int) (t' := .boolean) (by decide) (by decide)))).other W47 (Or.inr (slot_ne (Or.inr (wd_23 hw)) (Or.inr (wd_27 hw)) (by decide) (t := .int) (t' := .int) (by decide) (by decide))))
 have f55 : Fld Z h47 a0 kc2 "player" "Z" (.int p4) := (f42.other W47 (Or.inr (slot_ne (Or.inr (wd_25 hw)) (Or.inr (wd_27 hw)) (by decide) (t := .boolean) (t' := .int) (by decide) (by decide))))
 exact w_done X47 hlk (v := none) e47 (fun _ => rfl) (fun fs hr => X47.returnOut hx hret (d2_31 hby) hr) (by decide) (by decide) (⟨rfl, N50, K49, f51, f52, f53, f54, f55, f48⟩)
theorem ef_m7_9 (m : MethodId) (a0 : Addr) (v1 : Value) (v2 : Value) (p3 : Int32) (r_v1 : v1.isRef = true) (r_v2 : v2.isRef = true) : entryFrame m #[(.ref a0), v1, v2, (.int p3), (.int (0 : Int32))] 5 = mkF m 0 #[.val (.ref a0), .val v1, .val v2, .val (.int p3), .val (.int (0 : Int32))] [] := by
  rcases XT.refc r_v1 with rfl | ⟨z_v1, rfl⟩ <;> rcases XT.refc r_v2 with rfl | ⟨z_v2, rfl⟩ <;> first | (simp [entryFrame, mkF, argsToLocals, Value.category]; done) | rfl
def Q_m7_9 (Z : State) (a0 : Addr) (v1 : Value) (v2 : Value) (p3 : Int32) (h0 : Heap) (n0 : Nat) (v : Option Value) (h : Heap) (L : List Loc) : Prop := v = none ∧ Fr n0 L ∧ Keep h0 h [a0] ∧ Exa Z h a0 kc1 ∧ Fld Z h a0 kc1 "name" "Ljava/lang/String;" v1 ∧ Fld Z h a0 kc1 "side" "Ljava/lang/String;" v2 ∧ Fld Z h a0 kc1 "initiative" "I" (.int p3) ∧ Fld Z h a0 kc1 "simultaneous" "Z" (.int (0 : Int32))
theorem rm_m7_9 (l : Launch) (Z : State) (aZ : Array Value) (hw : ∀ d ∈ tables_1, d.before aZ Z = true) (ws : List Jvm.Cond) (a0 : Addr) (v1 : Value) (v2 : Value) (p3 : Int32) (h0 : Heap) (n0 : Nat) (Z0 : n0 ≤ h0.size) (r_v1 : v1.isRef = true) (r_v2 : v2.isRef = true) (E_a0 : Exa Z h0 a0 kc1) (zz0 : Fld Z h0 a0 kc1 "name" "Ljava/lang/String;" .null) (zz1 : n0 ≤ a0) (zz2 : Fld Z h0 a0 kc1 "side" "Ljava/lang/String;" .null) (zz3 : Fld Z h0 a0 kc1 "initiative" "I" (.int (0 : Int32))) (zz4 : Fld Z h0 a0 kc1 "simultaneous" "Z" (.int (0 : Int32))) :
    MetN l Z yn_7 prog_3_method_2_code 5 none ws ({ frames := 2, cells := 0, slots := 0, locals := 24 } : Room) #[(.ref a0), v1, v2, (.int p3), (.int (0 : Int32))] h0 (Q_m7_9 Z a0 v1 v2 p3 h0 n0) := by
 refine MetN.of (plainFor_of_name pn_5) ?_
 intro p e s m below meth c s₁ hret hx hby hml hown hnm hlk hZ X0 e0
 have N0 := Fr.nil n0
 rw [ef_m7_9 m a0 v1 v2 p3 r_v1 r_v2]
 refine w_aloadN X0 hx (d7_0 hby) rfl rfl (pc' := 1) rfl ?_
 refine w_special X0 hx (y := yn_3) rfl hown (mvT hZ (wd_42 hw)) (mvT hZ (wd_11 hw)) (mvT hZ (wd_14 hw)) (by decide) (backOf (W := 0) (rm_m3_6 l Z aZ hw [] a0 h0 n0 Z0 ) hZ (wd_14 hw) (wd_13 hw) (by decide) (by decide)) (by rw [hml]; rfl) [] (lenOf pd_6 rfl) rfl (Nat.le_of_eq rfl) (d7_1 hby) (fun _ _ => ⟨rfl, e0, (by decide : 0 + 0 ≤ _), (by decide : 0 + 0 ≤ _)⟩) (pc' := 4) rfl ?_
 rintro _ _ ⟨T20, L20, k20, n20⟩ X20 ⟨Lc20, hQ20, l20, y20, z20⟩
 dsimp only [Pt.U, Pt.locs, Pt.cells, Pt.slots] at X20 l20 y20 z20 hQ20 ⊢
 subst l20 y20 z20
 obtain ⟨rfl, N20q, e20⟩ := hQ20
 have N21 := Fr.app N0 N20q
 show Runs _ _ _ _ (T20.setTop (mkF m 4 #[.val (.ref a0), .val v1, .val v2, .val (.int p3), .val (.int (0 : Int32))] []))
 refine w_aloadN X20 hx (d7_4 hby) rfl rfl (pc' := 5) rfl ?_
 refine w_aloadN X20 hx (d7_5 hby) rfl r_v1 (pc' := 6) rfl ?_
 refine w_putF X20 hx "" hZ hown (Or.inl (wd_43 hw)) Via.refl e20 zz0 E_a0 (Or.inr ⟨(wd_44 hw), rfl, hnm⟩) (wd_34 hw) (ty := (.object kc0)) (by decide) (own_narref r_v1) (own_fitsref rfl r_v1) (d7_6 hby) (pc' := 9) rfl ?_
 intro T22 h22 X22 e22 W22
 have f23 : Fld Z h22 a0 kc1 "name" "Ljava/lang/String;" v1 := zz0.same W22
 have K24 : Keep h0 h22 [a0] := (Keep.refl h0 [a0]).wr W22 (Or.inl (by simp))
 have N25 := Fr.snoc X22 N21 zz1
 refine w_aloadN X22 hx (d7_9 hby) rfl rfl (pc' := 10) rfl ?_
 refine w_aloadN X22 hx (d7_10 hby) rfl r_v2 (pc' := 11) rfl ?_
 have f26 : Exa Z h22 a0 kc1 := (E_a0.wr W22)
 have f27 : Fld Z h22 a0 kc1 "side" "Ljava/lang/String;" .null := (zz2.other W22 (Or.inr (slot_ne (Or.inr (wd_46 hw)) (Or.inr (wd_44 hw)) (by decide) (t := (.object kc0)) (t' := (.object kc0)) (by decide) (by decide))))
 refine w_putF X22 hx "" hZ hown (Or.inl (wd_45 hw)) Via.refl e22 f27 f26 (Or.inr ⟨(wd_46 hw), rfl, hnm⟩) (wd_34 hw) (ty := (.object kc0)) (by decide) (own_narref r_v2) (own_fitsref rfl r_v2) (d7_11 hby) (pc' := 14) rfl ?_
 intro T28 h28 X28 e28 W28
 have f29 : Fld Z h28 a0 kc1 "side" "Ljava/lang/String;" v2 := f27.same W28
 have K30 : Keep h0 h28 [a0] := K24.wr W28 (Or.inl (by simp))
 have N31 := Fr.snoc X28 N25 zz1
 refine w_aloadN X28 hx (d7_14 hby) rfl rfl (pc' := 15) rfl ?_
 refine w_iloadN X28 hx (d7_15 hby) rfl (pc' := 16) rfl ?_
 have f32 : Exa Z h28 a0 kc1 := (f26.wr W28)
 have f33 : Fld Z h28 a0 kc1 "initiative" "I" (.int (0 : Int32)) := ((zz3.other W22 (Or.inr (slot_ne (Or.inr (wd_48 hw)) (Or.inr (wd_44 hw)) (by decide) (t := .int) (t' := (.object kc0)) (by decide) (by decide)))).other W28 (Or.inr (slot_ne (Or.inr (wd_48 hw)) (Or.inr (wd_46 hw)) (by decide) (t := .int) (t' := (.object kc0)) (by decide) (by decide))))
 refine w_putF X28 hx "" hZ hown (Or.inl (wd_47 hw)) Via.refl e28 f33 f32 (Or.inr ⟨(wd_48 hw), rfl, hnm⟩) (wd_34 hw) (ty := .int) (by decide) rfl rfl (d7_16 hby) (pc' := 19) rfl ?_
 intro T34 h34 X34 e34 W34
 have f35 : Fld Z h34 a0 kc1 "initiative" "I" (.int p3) := f33.same W34
 have K36 : Keep h0 h34 [a0] := K30.wr W34 (Or.inl (by simp))
 have N37 := Fr.snoc X34 N31 zz1
 refine w_aloadN X34 hx (d7_19 hby) rfl rfl (pc' := 20) rfl ?_
 refine w_iload X34 hx (d7_20 hby) rfl (pc' := 22) rfl ?_
 have f38 : Exa Z h34 a0 kc1 := (f32.wr W34)
 have f39 : Fld Z h34 a0 kc1 "simultaneous" "Z" (.int (0 : Int32)) := (((zz4.other W22 (Or.inr (slot_ne (Or.inr (wd_50 hw)) (Or.inr (wd_44 hw)) (by decide) (t := .boolean) (t' := (.object kc0)) (by decide) (by decide)))).other W28 (Or.inr (slot_ne (Or.inr (wd_50 hw)) (Or.inr (wd_46 hw)) (by decide) (t := .boolean) (t' := (.object kc0)) (by decide) (by decide)))).other W34 (Or.inr (slot_ne (Or.inr (wd_50 hw)) (Or.inr (wd_48 hw)) (by decide) (t := .boolean) (t' := .int) (by decide) (by decide))))
 refine w_putF X34 hx "" hZ hown (Or.inl (wd_49 hw)) Via.refl e34 f39 f38 (Or.inr ⟨(wd_50 hw), rfl, hnm⟩) (wd_34 hw) (ty := .boolean) (by decide) rfl rfl (d7_22 hby) (pc' := 25) rfl ?_
 intro T40 h40 X40 e40 W40
 have f41 : Fld Z h40 a0 kc1 "simultaneous" "Z" (.int (0 : Int32)) := f39.same W40
 have K42 : Keep h0 h40 [a0] := K36.wr W40 (Or.inl (by simp))
 have N43 := Fr.snoc X40 N37 zz1
 have f44 : Exa Z h40 a0 kc1 := (f38.wr W40)
 have f45 : Fld Z h40 a0 kc1 "name" "Ljava/lang/String;" v1 := (((f23.other W28 (Or.inr (slot_ne (Or.inr (wd_44 hw)) (Or.inr (wd_46 hw)) (by decide) (t := (.object kc0)) (t' := (.object kc0)) (by decide) (by decide)))).other W34 (Or.inr (slot_ne (Or.inr (wd_44 hw)) (Or.inr (wd_48 hw)) (by decide) (t := (.object kc0)) (t' := .int) (by decide) (by decide)))).other W40 (Or.inr (slot_ne (Or.inr (wd_44 hw)) (Or.inr (wd_50 hw)) (by decide) (t := (.object kc0)) (t' := .boolean) (by decide) (by decide))))
 have f46 : Fld Z h40 a0 kc1 "side" "Ljava/lang/String;" v2 := ((f29.other W34 (Or.inr (slot_ne (Or.inr (wd_46 hw)) (Or.inr (wd_48 hw)) (by decide) (t := (.object kc0)) (t' := .int) (by decide) (by decide)))).other W40 (Or.inr (slot_ne (Or.inr (wd_46 hw)) (Or.inr (wd_50 hw)) (by decide) (t := (.object kc0)) (t' := .boolean) (by decide) (by decide))))
 have f47 : Fld Z h40 a0 kc1 "initiative" "I" (.int p3) := (f35.other W40 (Or.inr (slot_ne (Or.inr (wd_48 hw)) (Or.inr (wd_50 hw)) (by decide) (t := .int) (t' := .boolean) (by decide) (by decide))))
 exact w_done X40 hlk (v := none) e40 (fun _ => rfl) (fun fs hr => X40.returnOut hx hret (d7_25 hby) hr) (by decide) (by decide) (⟨rfl, N43, K42, f44, f45, f46, f47, f41⟩)
theorem ef_m6_8 (m : MethodId) (a0 : Addr) (v1 : Value) (v2 : Value) (p3 : Int32) (r_v1 : v1.isRef = true) (r_v2 : v2.isRef = true) : entryFrame m #[(.ref a0), v1, v2, (.int p3)] 4 = mkF m 0 #[.val (.ref a0), .val v1, .val v2, .val (.int p3)] [] := by
  rcases XT.refc r_v1 with rfl | ⟨z_v1, rfl⟩ <;> rcases XT.refc r_v2 with rfl | ⟨z_v2, rfl⟩ <;> first | (simp [entryFrame, mkF, argsToLocals, Value.category]; done) | rfl
def Q_m6_8 (Z : State) (a0 : Addr) (v1 : Value) (v2 : Value) (p3 : Int32) (h0 : Heap) (n0 : Nat) (v : Option Value) (h : Heap) (L : List Loc) : Prop := v = none ∧ Fr n0 L ∧ Keep h0 h [a0] ∧ Exa Z h a0 kc1 ∧ Fld Z h a0 kc1 "name" "Ljava/lang/String;" v1 ∧ Fld Z h a0 kc1 "side" "Ljava/lang/String;" v2 ∧ Fld Z h a0 kc1 "initiative" "I" (.int p3) ∧ Fld Z h a0 kc1 "simultaneous" "Z" (.int (0 : Int32))
theorem rm_m6_8 (l : Launch) (Z : State) (aZ : Array Value) (hw : ∀ d ∈ tables_1, d.before aZ Z = true) (ws : List Jvm.Cond) (a0 : Addr) (v1 : Value) (v2 : Value) (p3 : Int32) (h0 : Heap) (n0 : Nat) (Z0 : n0 ≤ h0.size) (r_v1 : v1.isRef = true) (r_v2 : v2.isRef = true) (E_a0 : Exa Z h0 a0 kc1) (zz0 : Fld Z h0 a0 kc1 "name" "Ljava/lang/String;" .null) (zz1 : Fld Z h0 a0 kc1 "side" "Ljava/lang/String;" .null) (zz2 : Fld Z h0 a0 kc1 "initiative" "I" (.int (0 : Int32))) (zz3 : Fld Z h0 a0 kc1 "simultaneous" "Z" (.int (0 : Int32))) (zz4 : n0 ≤ a0) :
    MetN l Z yn_6 prog_3_method_1_code 4 none ws ({ frames := 3, cells := 0, slots := 0, locals := 40 } : Room) #[(.ref a0), v1, v2, (.int p3)] h0 (Q_m6_8 Z a0 v1 v2 p3 h0 n0) := by
 refine MetN.of (plainFor_of_name pn_5) ?_
 intro p e s m below meth c s₁ hret hx hby hml hown hnm hlk hZ X0 e0
 have N0 := Fr.nil n0
 rw [ef_m6_8 m a0 v1 v2 p3 r_v1 r_v2]
 refine w_aloadN X0 hx (d6_0 hby) rfl rfl (pc' := 1) rfl ?_
 refine w_aloadN X0 hx (d6_1 hby) rfl r_v1 (pc' := 2) rfl ?_
 refine w_aloadN X0 hx (d6_2 hby) rfl r_v2 (pc' := 3) rfl ?_
 refine w_iloadN X0 hx (d6_3 hby) rfl (pc' := 4) rfl ?_
 refine w_iconst X0 hx (d6_4 hby) (v := (0 : Int32)) rfl (pc' := 5) rfl ?_
 refine w_special X0 hx (y := yn_7) rfl hown (mvT hZ (wd_39 hw)) (mvT hZ (wd_40 hw)) (mvT hZ (wd_41 hw)) (by decide) (backOf (W := 0) (rm_m7_9 l Z aZ hw [] a0 v1 v2 p3 h0 n0 Z0 r_v1 r_v2 E_a0 zz0 zz4 zz1 zz2 zz3) hZ (wd_41 hw) (wd_35 hw) (by decide) (by decide)) (by rw [hml]; rfl) [v1, v2, (.int p3), (.int (0 : Int32))] (lenOf pd_8 rfl) rfl (Nat.le_of_eq rfl) (d6_5 hby) (fun _ _ => ⟨rfl, e0, (by decide : 0 + 0 ≤ _), (by decide : 0 + 0 ≤ _)⟩) (pc' := 8) rfl ?_
 rintro _ _ ⟨T20, L20, k20, n20⟩ X20 ⟨Lc20, hQ20, l20, y20, z20⟩
 dsimp only [Pt.U, Pt.locs, Pt.cells, Pt.slots] at X20 l20 y20 z20 hQ20 ⊢
 subst l20 y20 z20
 obtain ⟨rfl, N20q, K20, g20_0, g20_1, g20_2, g20_3, g20_4⟩ := hQ20
 have N21 := Fr.app N0 N20q
 have K22 : Keep h0 T20.heap [a0] := (Keep.refl h0 [a0]).trans K20 (allS (Or.inl (by simp)) (all0 (P := fun x => x ∈ [a0] ∨ h0.size ≤ x)))
 show Runs _ _ _ _ (T20.setTop (mkF m 8 #[.val (.ref a0), .val v1, .val v2, .val (.int p3)] []))
 exact w_done X20 hlk (v := none) rfl (fun _ => rfl) (fun fs hr => X20.returnOut hx hret (d6_8 hby) hr) (by decide) (by decide) (⟨rfl, N21, K22, g20_0, g20_1, g20_2, g20_3, g20_4⟩)
theorem ef_m5_7 (m : MethodId) (a0 : Addr)  : entryFrame m #[(.ref a0)] 1 = mkF m 0 #[.val (.ref a0)] [] := by first | (simp [entryFrame, mkF, argsToLocals, Value.category]; done) | rfl
def Q_m5_7 (Z : State) (a0 : Addr) (jj0 : Value) (jj1 : Value) (jj2 : Int32) (h0 : Heap) (n0 : Nat) (v : Option Value) (h : Heap) (L : List Loc) : Prop := ∃ (r0 : Addr), v = some (.ref r0) ∧ Fr n0 L ∧ Keep h0 h [] ∧ h0.size ≤ r0 ∧ Exa Z h r0 kc1 ∧ Fld Z h r0 kc1 "name" "Ljava/lang/String;" jj0 ∧ Fld Z h r0 kc1 "side" "Ljava/lang/String;" jj1 ∧ Fld Z h r0 kc1 "initiative" "I" (.int jj2) ∧ Fld Z h r0 kc1 "simultaneous" "Z" (.int (0 : Int32))
theorem rm_m5_7 (l : Launch) (Z : State) (aZ : Array Value) (hw : ∀ d ∈ tables_1, d.before aZ Z = true) (ws : List Jvm.Cond) (a0 : Addr) (jj0 : Value) (jj1 : Value) (jj2 : Int32) (h0 : Heap) (n0 : Nat) (Z0 : n0 ≤ h0.size) (zz3 : jj0.isRef = true) (zz4 : Fld Z h0 a0 kc2 "name" "Ljava/lang/String;" jj0) (zz5 : jj1.isRef = true) (zz6 : Fld Z h0 a0 kc2 "side" "Ljava/lang/String;" jj1) (zz7 : Fld Z h0 a0 kc2 "initiative" "I" (.int jj2)) :
    MetN l Z yn_5 prog_17_method_2_code 1 (some (.object kc1)) ws ({ frames := 4, cells := 1, slots := 4, locals := 56 } : Room) #[(.ref a0)] h0 (Q_m5_7 Z a0 jj0 jj1 jj2 h0 n0) := by
 refine MetN.of (plainFor_of_name pn_4) ?_
 intro p e s m below meth c s₁ hret hx hby hml hown hnm hlk hZ X0 e0
 have N0 := Fr.nil n0
 rw [ef_m5_7 m a0]
 refine w_new X0 hx hZ hown (wd_33 hw) (wd_34 hw) (wd_35 hw) e0 (d5_0 hby) (by decide) (by decide) (pc' := 3) rfl ?_
 intro T20 h20 b20 X20 e20 E20 g20 A20 D20
 have ge21 : n0 ≤ b20 := Nat.le_trans Z0 (Nat.le_of_eq g20.symm)
 have sz22 : h0.size ≤ b20 := Nat.le_trans (Nat.le_refl _) (Nat.le_of_eq g20.symm)
 have K23 : Keep h0 h20 [] := (Keep.refl h0 []).ext E20
 have f24 : Fld Z h20 b20 kc1 "name" "Ljava/lang/String;" .null := D20 (Or.inr (wd_44 hw)) (ty := (.object kc0)) (by decide)
 have f25 : Fld Z h20 b20 kc1 "side" "Ljava/lang/String;" .null := D20 (Or.inr (wd_46 hw)) (ty := (.object kc0)) (by decide)
 have f26 : Fld Z h20 b20 kc1 "initiative" "I" (.int (0 : Int32)) := D20 (Or.inr (wd_48 hw)) (ty := .int) (by decide)
 have f27 : Fld Z h20 b20 kc1 "simultaneous" "Z" (.int (0 : Int32)) := D20 (Or.inr (wd_50 hw)) (ty := .boolean) (by decide)
 refine w_dup X20 hx (d5_3 hby) rfl (pc' := 4) rfl ?_
 refine w_aloadN X20 hx (d5_4 hby) rfl rfl (pc' := 5) rfl ?_
 have f28 : Fld Z h20 a0 kc2 "name" "Ljava/lang/String;" jj0 := (zz4.ext E20)
 refine w_getF X20 hx "" hZ hown (Or.inl (wd_18 hw)) Via.refl e20 f28 (d5_5 hby) (pc' := 8) rfl ?_
 intro T29 X29 e29
 refine w_aloadN X29 hx (d5_8 hby) rfl rfl (pc' := 9) rfl ?_
 have f30 : Fld Z h20 a0 kc2 "side" "Ljava/lang/String;" jj1 := (zz6.ext E20)
 refine w_getF X29 hx "" hZ hown (Or.inl (wd_20 hw)) Via.refl e29 f30 (d5_9 hby) (pc' := 12) rfl ?_
 intro T31 X31 e31
 refine w_aloadN X31 hx (d5_12 hby) rfl rfl (pc' := 13) rfl ?_
 have f32 : Fld Z h20 a0 kc2 "initiative" "I" (.int jj2) := (zz7.ext E20)
 refine w_getF X31 hx "" hZ hown (Or.inl (wd_22 hw)) Via.refl e31 f32 (d5_13 hby) (pc' := 16) rfl ?_
 intro T33 X33 e33
 refine w_special X33 hx (y := yn_6) rfl hown (mvT hZ (wd_36 hw)) (mvT hZ (wd_37 hw)) (mvT hZ (wd_38 hw)) (by decide) (backOf (W := 1) (rm_m6_8 l Z aZ hw [] b20 jj0 jj1 jj2 h20 n0 (Nat.le_trans Z0 E20.1) zz3 zz5 A20 f24 f25 f26 f27 ge21) hZ (wd_38 hw) (wd_35 hw) (by decide) (by decide)) (by rw [hml]; rfl) [jj0, jj1, (.int jj2)] (lenOf pd_9 rfl) rfl (Nat.le_of_eq rfl) (d5_16 hby) (fun _ _ => ⟨rfl, e33, (by decide : 1 + 0 ≤ _), (by decide : 4 + 0 ≤ _)⟩) (pc' := 19) rfl ?_
 rintro _ _ ⟨T34, L34, k34, n34⟩ X34 ⟨Lc34, hQ34, l34, y34, z34⟩
 dsimp only [Pt.U, Pt.locs, Pt.cells, Pt.slots] at X34 l34 y34 z34 hQ34 ⊢
 subst l34 y34 z34
 obtain ⟨rfl, N34q, K34, g34_0, g34_1, g34_2, g34_3, g34_4⟩ := hQ34
 have N35 := Fr.app N0 N34q
 have K36 : Keep h0 T34.heap [] := K23.trans K34 (allS (Or.inr sz22) (all0 (P := fun x => x ∈ [] ∨ h0.size ≤ x)))
 show Runs _ _ _ _ (T34.setTop (mkF m 19 #[.val (.ref a0)] [(.ref b20)]))
 exact w_done X34 hlk (v := some (.ref b20)) rfl (fun h => by rw [hret] at h; cases h) (fun fs hr => retOut X34 hx hret rfl (Or.inr (Or.inr (Or.inr (Or.inr ⟨rfl, rfl, rfl⟩)))) (d5_19 hby) hr) (by decide) (by decide) (⟨b20, rfl, N35, K36, sz22, g34_0, g34_1, g34_2, g34_3, g34_4⟩)
theorem ef_m8_10 (m : MethodId) (a0 : Addr)  : entryFrame m #[(.ref a0)] 1 = mkF m 0 #[.val (.ref a0)] [] := by first | (simp [entryFrame, mkF, argsToLocals, Value.category]; done) | rfl
def Q_m8_10 (Z : State) (a0 : Addr) (jj0 : Value) (h0 : Heap) (n0 : Nat) (v : Option Value) (h : Heap) (L : List Loc) : Prop := v = some jj0 ∧ Fr n0 L ∧ h = h0
theorem rm_m8_10 (l : Launch) (Z : State) (aZ : Array Value) (hw : ∀ d ∈ tables_1, d.before aZ Z = true) (ws : List Jvm.Cond) (a0 : Addr) (jj0 : Value) (h0 : Heap) (n0 : Nat) (Z0 : n0 ≤ h0.size) (zz1 : jj0.isRef = true) (zz2 : Fld Z h0 a0 kc1 "name" "Ljava/lang/String;" jj0) :
    MetN l Z yn_8 prog_3_method_6_code 1 (some (.object kc0)) ws ({ frames := 0, cells := 0, slots := 0, locals := 0 } : Room) #[(.ref a0)] h0 (Q_m8_10 Z a0 jj0 h0 n0) := by
 refine MetN.of (plainFor_of_name pn_5) ?_
 intro p e s m below meth c s₁ hret hx hby hml hown hnm hlk hZ X0 e0
 have N0 := Fr.nil n0
 rw [ef_m8_10 m a0]
 refine w_aloadN X0 hx (d8_0 hby) rfl rfl (pc' := 1) rfl ?_
 refine w_getF X0 hx "" hZ hown (Or.inl (wd_43 hw)) Via.refl e0 zz2 (d8_1 hby) (pc' := 4) rfl ?_
 intro T20 X20 e20
 exact w_done X20 hlk (v := some jj0) e20 (fun h => by rw [hret] at h; cases h) (fun fs hr => retOut X20 hx hret (own_narref zz1) (Or.inr (Or.inr (Or.inr (Or.inr ⟨rfl, rfl, zz1⟩)))) (d8_4 hby) hr) (by decide) (by decide) (⟨rfl, N0, rfl⟩)
theorem ef_m9_11 (m : MethodId) (a0 : Addr)  : entryFrame m #[(.ref a0)] 1 = mkF m 0 #[.val (.ref a0)] [] := by first | (simp [entryFrame, mkF, argsToLocals, Value.category]; done) | rfl
def Q_m9_11 (Z : State) (a0 : Addr) (jj0 : Value) (h0 : Heap) (n0 : Nat) (v : Option Value) (h : Heap) (L : List Loc) : Prop := v = some jj0 ∧ Fr n0 L ∧ h = h0
theorem rm_m9_11 (l : Launch) (Z : State) (aZ : Array Value) (hw : ∀ d ∈ tables_1, d.before aZ Z = true) (ws : List Jvm.Cond) (a0 : Addr) (jj0 : Value) (h0 : Heap) (n0 : Nat) (Z0 : n0 ≤ h0.size) (zz1 : jj0.isRef = true) (zz2 : Fld Z h0 a0 kc1 "side" "Ljava/lang/String;" jj0) :
    MetN l Z yn_9 prog_3_method_7_code 1 (some (.object kc0)) ws ({ frames := 0, cells := 0, slots := 0, locals := 0 } : Room) #[(.ref a0)] h0 (Q_m9_11 Z a0 jj0 h0 n0) := by
 refine MetN.of (plainFor_of_name pn_5) ?_
 intro p e s m below meth c s₁ hret hx hby hml hown hnm hlk hZ X0 e0
 have N0 := Fr.nil n0
 rw [ef_m9_11 m a0]
 refine w_aloadN X0 hx (d9_0 hby) rfl rfl (pc' := 1) rfl ?_
 refine w_getF X0 hx "" hZ hown (Or.inl (wd_45 hw)) Via.refl e0 zz2 (d9_1 hby) (pc' := 4) rfl ?_
 intro T20 X20 e20
 exact w_done X20 hlk (v := some jj0) e20 (fun h => by rw [hret] at h; cases h) (fun fs hr => retOut X20 hx hret (own_narref zz1) (Or.inr (Or.inr (Or.inr (Or.inr ⟨rfl, rfl, zz1⟩)))) (d9_4 hby) hr) (by decide) (by decide) (⟨rfl, N0, rfl⟩)
theorem ef_m10_12 (m : MethodId) (a0 : Addr)  : entryFrame m #[(.ref a0)] 1 = mkF m 0 #[.val (.ref a0)] [] := by first | (simp [entryFrame, mkF, argsToLocals, Value.category]; done) | rfl
def Q_m10_12 (Z : State) (a0 : Addr) (jj0 : Int32) (h0 : Heap) (n0 : Nat) (v : Option Value) (h : Heap) (L : List Loc) : Prop := v = some (.int jj0) ∧ Fr n0 L ∧ h = h0
theorem rm_m10_12 (l : Launch) (Z : State) (aZ : Array Value) (hw : ∀ d ∈ tables_1, d.before aZ Z = true) (ws : List Jvm.Cond) (a0 : Addr) (jj0 : Int32) (h0 : Heap) (n0 : Nat) (Z0 : n0 ≤ h0.size) (zz1 : Fld Z h0 a0 kc1 "initiative" "I" (.int jj0)) :
    MetN l Z yn_10 prog_3_method_8_code 1 (some .int) ws ({ frames := 0, cells := 0, slots := 0, locals := 0 } : Room) #[(.ref a0)] h0 (Q_m10_12 Z a0 jj0 h0 n0) := by
 refine MetN.of (plainFor_of_name pn_5) ?_
 intro p e s m below meth c s₁ hret hx hby hml hown hnm hlk hZ X0 e0
 have N0 := Fr.nil n0
 rw [ef_m10_12 m a0]
 refine w_aloadN X0 hx (d10_0 hby) rfl rfl (pc' := 1) rfl ?_
 refine w_getF X0 hx "" hZ hown (Or.inl (wd_47 hw)) Via.refl e0 zz1 (d10_1 hby) (pc' := 4) rfl ?_
 intro T20 X20 e20
 exact w_done X20 hlk (v := some (.int jj0)) e20 (fun h => by rw [hret] at h; cases h) (fun fs hr => retI X20 hx hret (d10_4 hby) hr) (by decide) (by decide) (⟨rfl, N0, rfl⟩)
theorem ef_m11_13 (m : MethodId) (a0 : Addr)  : entryFrame m #[(.ref a0)] 1 = mkF m 0 #[.val (.ref a0)] [] := by first | (simp [entryFrame, mkF, argsToLocals, Value.category]; done) | rfl
def Q_m11_13 (Z : State) (a0 : Addr) (h0 : Heap) (n0 : Nat) (v : Option Value) (h : Heap) (L : List Loc) : Prop := v = some (.int (0 : Int32)) ∧ Fr n0 L ∧ h = h0
theorem rm_m11_13 (l : Launch) (Z : State) (aZ : Array Value) (hw : ∀ d ∈ tables_1, d.before aZ Z = true) (ws : List Jvm.Cond) (a0 : Addr) (h0 : Heap) (n0 : Nat) (Z0 : n0 ≤ h0.size) (zz0 : Fld Z h0 a0 kc1 "simultaneous" "Z" (.int (0 : Int32))) :
    MetN l Z yn_11 prog_3_method_9_code 1 (some .boolean) ws ({ frames := 0, cells := 0, slots := 0, locals := 0 } : Room) #[(.ref a0)] h0 (Q_m11_13 Z a0 h0 n0) := by
 refine MetN.of (plainFor_of_name pn_5) ?_
 intro p e s m below meth c s₁ hret hx hby hml hown hnm hlk hZ X0 e0
 have N0 := Fr.nil n0
 rw [ef_m11_13 m a0]
 refine w_aloadN X0 hx (d11_0 hby) rfl rfl (pc' := 1) rfl ?_
 refine w_getF X0 hx "" hZ hown (Or.inl (wd_49 hw)) Via.refl e0 zz0 (d11_1 hby) (pc' := 4) rfl ?_
 intro T20 X20 e20
 exact w_done X20 hlk (v := some (.int (0 : Int32))) e20 (fun h => by rw [hret] at h; cases h) (fun fs hr => retN X20 hx (t := .boolean) hret (by simp) (d11_4 hby) hr) (by decide) (by decide) (⟨rfl, N0, rfl⟩)
theorem ef_law (m : MethodId) (p0 : Int32) (p1 : Int32) (p2 : Int32) (p3 : Int32) (p4 : Int32)  : entryFrame m #[(.int p0), (.int p1), (.int p2), (.int p3), (.int p4)] maxLocals = mkF m 0 #[.val (.int p0), .val (.int p1), .val (.int p2), .val (.int p3), .val (.int p4), .unset, .unset, .unset, .unset, .unset] [] := by first | (simp [entryFrame, mkF, argsToLocals, Value.category, maxLocals]; done) | rfl
def Q_law (Z : State) (p0 : Int32) (p1 : Int32) (p2 : Int32) (p3 : Int32) (p4 : Int32) (G_COMPACT_STRINGS : Int32) (h0 : Heap) (n0 : Nat) (v : Option Value) (h : Heap) (L : List Loc) (S : Addr → Prop) : Prop := v = some (.int (1 : Int32)) ∧ Fr n0 L
theorem rm_law (l : Launch) (Z : State) (aZ : Array Value) (hw : ∀ d ∈ tables_1, d.before aZ Z = true) (ws : List Jvm.Cond) (p0 : Int32) (p1 : Int32) (p2 : Int32) (p3 : Int32) (p4 : Int32) (G_COMPACT_STRINGS : Int32) (h0 : Heap) (n0 : Nat) (Z0 : n0 ≤ h0.size) (S_COMPACT_STRINGS : Sta Z Z.heap kc0 "COMPACT_STRINGS" "Z" (.int G_COMPACT_STRINGS)) (O0 : Old Z n0 h0) (hP_2 : ¬ (G_COMPACT_STRINGS = (0 : Int32))) :
    MetH l Z EL x code maxLocals ret ws room_1 #[(.int p0), (.int p1), (.int p2), (.int p3), (.int p4)] h0 (Q_law Z p0 p1 p2 p3 p4 G_COMPACT_STRINGS h0 n0) [] := by
 refine MetH.of (plainFor_of_name pn_2) ?_
 intro p e s m below meth c s₁ hret hx hby hml hown hnm hlk hZ X0 e0 hh hH hsf hS0 C0
 have N0 := Fr.nil n0
 rw [ef_law m p0 p1 p2 p3 p4]
 refine w_iloadN X0 hx (hb hby at_0) rfl (pc' := 1) rfl ?_
 refine w_iconst X0 hx (hb hby at_1) (v := (1 : Int32)) rfl (pc' := 2) rfl ?_
 refine w_iand X0 hx (hb hby at_2) (pc' := 3) rfl ?_
 suffices key21 : Runs p e below (EndH s Z EL (Q_law Z p0 p1 p2 p3 p4 G_COMPACT_STRINGS h0 n0) room_1.cells room_1.slots) (s₁.setTop (mkF m 11 #[.val (.int p0), .val (.int p1), .val (.int p2), .val (.int p3), .val (.int p4), .unset, .unset, .unset, .unset, .unset] [(.int (if (p3 &&& (1 : Int32)) = (0 : Int32) then (0 : Int32) else (1 : Int32)))])) by
  by_cases hc20 : (p3 &&& (1 : Int32)) = (0 : Int32)
  · rw [if_pos hc20] at key21
    refine w_ifY X0 hx (hb hby at_3) (teq hc20).1 (pc' := 10) (by decide) (by decide) ?_
    refine w_iconst X0 hx (hb hby at_10) (v := (0 : Int32)) rfl (pc' := 11) rfl ?_
    exact key21
  · rw [if_neg hc20] at key21
    refine w_ifN X0 hx (hb hby at_3) (feq hc20).1 (pc' := 6) rfl ?_
    refine w_iconst X0 hx (hb hby at_6) (v := (1 : Int32)) rfl (pc' := 7) rfl ?_
    refine w_goto X0 hx (hb hby at_7) (pc' := 11) (by decide) (by decide) ?_
    exact key21
 refine w_istore X0 hx (hb hby at_11) (L' := #[.val (.int p0), .val (.int p1), .val (.int p2), .val (.int p3), .val (.int p4), .val (.int (if (p3 &&& (1 : Int32)) = (0 : Int32) then (0 : Int32) else (1 : Int32))), .unset, .unset, .unset, .unset]) rfl (pc' := 13) rfl ?_
 refine w_iloadN X0 hx (hb hby at_13) rfl (pc' := 14) rfl ?_
 refine w_iloadN X0 hx (hb hby at_14) rfl (pc' := 15) rfl ?_
 refine w_iconst X0 hx (hb hby at_15) (v := (1 : Int32)) rfl (pc' := 16) rfl ?_
 refine w_iushr X0 hx (hb hby at_16) (pc' := 17) rfl ?_
 refine w_staticS X0 hx (y := yn_1) hown (mvT hZ (wd_0 hw)) (mvT hZ (wd_1 hw)) (mvT hZ (wd_2 hw)) (mvT hZ (wd_3 hw)) (by decide) (backOfY (W := 0) (rm_draw l Z aZ hw [] p0 ((p3.toUInt32 >>> ((1 : Int32) &&& 31).toUInt32).toInt32) G_COMPACT_STRINGS h0 n0 Z0 hP_2 S_COMPACT_STRINGS O0) hZ (wd_3 hw) (wd_2 hw) (by decide) (by decide) (own_EW hw) C0.1 sf0 all0) (by rw [hml]; rfl) [(.int p0), (.int ((p3.toUInt32 >>> ((1 : Int32) &&& 31).toUInt32).toInt32))] (lenOf pd_5 rfl) rfl (Nat.le_of_eq rfl) (hb hby at_17) (fun _ _ => ⟨rfl, e0, (by decide : 0 + 3 ≤ _), (by decide : 0 + 8 ≤ _)⟩) (pc' := 20) rfl ?_
 rintro _ _ ⟨T22, L22, k22, n22⟩ XX22 hSS22 hg22 ⟨Lc22, hQ22, l22, y22, z22, A22⟩
 dsimp only [Pt.U, Pt.locs, Pt.cells, Pt.slots] at XX22 l22 y22 z22 hQ22 hSS22 hg22 A22 ⊢
 subst l22 y22 z22
 obtain ⟨X22, hS22, hZ22, hown22⟩ := rebS hS0 (Nat.le_refl _) XX22 hSS22 (e0 ▸ hg22) hZ hown
 obtain ⟨u_22, rfl, N22q, K22, g22_0⟩ := hQ22
 have N23 := Fr.app N0 N22q
 have C24 : CHr Z EL s.vm h0 T22.vm T22.heap := C0.trans A22
 have K25 : Keep h0 T22.heap [] := (Keep.refl h0 []).trans K22 (all0 (P := fun x => x ∈ [] ∨ h0.size ≤ x))
 show Runs _ _ _ _ (T22.setTop (mkF m 20 #[.val (.int p0), .val (.int p1), .val (.int p2), .val (.int p3), .val (.int p4), .val (.int (if (p3 &&& (1 : Int32)) = (0 : Int32) then (0 : Int32) else (1 : Int32))), .unset, .unset, .unset, .unset] [u_22]))
 refine w_astore X22 hx (hb hby at_20) g22_0 (L' := #[.val (.int p0), .val (.int p1), .val (.int p2), .val (.int p3), .val (.int p4), .val (.int (if (p3 &&& (1 : Int32)) = (0 : Int32) then (0 : Int32) else (1 : Int32))), .val u_22, .unset, .unset, .unset]) ((XS.store1 rfl (Or.inl rfl) (XT.cat1 g22_0)).trans rfl) (pc' := 22) rfl ?_
 refine w_iloadN X22 hx (hb hby at_22) rfl (pc' := 23) rfl ?_
 refine w_iloadN X22 hx (hb hby at_23) rfl (pc' := 24) rfl ?_
 refine w_iconst X22 hx (hb hby at_24) (v := (3 : Int32)) rfl (pc' := 25) rfl ?_
 refine w_iushr X22 hx (hb hby at_25) (pc' := 26) rfl ?_
 have f26 : Old Z n0 T22.heap := (O0.keep K22 all0)
 refine w_staticS X22 hx (y := yn_1) hown22 (mvT hZ22 (wd_0 hw)) (mvT hZ22 (wd_1 hw)) (mvT hZ22 (wd_2 hw)) (mvT hZ22 (wd_3 hw)) (by decide) (backOfY (W := 0) (rm_draw l Z aZ hw [] p1 ((p3.toUInt32 >>> ((3 : Int32) &&& 31).toUInt32).toInt32) G_COMPACT_STRINGS T22.heap n0 (Nat.le_trans Z0 K22.1) hP_2 S_COMPACT_STRINGS f26) hZ22 (wd_3 hw) (wd_2 hw) (by decide) (by decide) (own_EW hw) C24.1 sf0 all0) (by rw [hml]; rfl) [(.int p1), (.int ((p3.toUInt32 >>> ((3 : Int32) &&& 31).toUInt32).toInt32))] (lenOf pd_5 rfl) rfl (Nat.le_of_eq rfl) (hb hby at_26) (fun _ _ => ⟨rfl, rfl, (by decide : 3 + 3 ≤ _), (by decide : 8 + 8 ≤ _)⟩) (pc' := 29) rfl ?_
 rintro _ _ ⟨T27, L27, k27, n27⟩ XX27 hSS27 hg27 ⟨Lc27, hQ27, l27, y27, z27, A27⟩
 dsimp only [Pt.U, Pt.locs, Pt.cells, Pt.slots] at XX27 l27 y27 z27 hQ27 hSS27 hg27 A27 ⊢
 subst l27 y27 z27
 obtain ⟨X27, hS27, hZ27, hown27⟩ := rebS hS22 (Nat.le_refl _) XX27 hSS27 hg27 hZ22 hown22
 obtain ⟨u_27, rfl, N27q, K27, g27_0⟩ := hQ27
 have N28 := Fr.app N23 N27q
 have C29 : CHr Z EL s.vm h0 T27.vm T27.heap := C24.trans A27
 have K30 : Keep h0 T27.heap [] := K25.trans K27 (all0 (P := fun x => x ∈ [] ∨ h0.size ≤ x))
 show Runs _ _ _ _ (T27.setTop (mkF m 29 #[.val (.int p0), .val (.int p1), .val (.int p2), .val (.int p3), .val (.int p4), .val (.int (if (p3 &&& (1 : Int32)) = (0 : Int32) then (0 : Int32) else (1 : Int32))), .val u_22, .unset, .unset, .unset] [u_27]))
 refine w_astore X27 hx (hb hby at_29) g27_0 (L' := #[.val (.int p0), .val (.int p1), .val (.int p2), .val (.int p3), .val (.int p4), .val (.int (if (p3 &&& (1 : Int32)) = (0 : Int32) then (0 : Int32) else (1 : Int32))), .val u_22, .val u_27, .unset, .unset]) ((XS.store1 rfl (Or.inl rfl) (XT.cat1 g27_0)).trans rfl) (pc' := 31) rfl ?_
 refine w_new X27 hx hZ27 hown27 (wd_4 hw) (wd_5 hw) (wd_6 hw) rfl (hb hby at_31) (by decide) (by decide) (pc' := 34) rfl ?_
 intro T31 h31 b31 X31 e31 E31 g31 A31 D31
 have le33 : h0.size ≤ T27.heap.size := (Nat.le_trans K22.1 K27.1)
 have ge32 : n0 ≤ b31 := Nat.le_trans (Nat.le_trans Z0 le33) (Nat.le_of_eq g31.symm)
 have sz34 : h0.size ≤ b31 := Nat.le_trans le33 (Nat.le_of_eq g31.symm)
 have C35 : CHr Z EL s.vm h0 T27.vm h31 := C29.trans (CHr.ext E31 C29.1)
 have K36 : Keep h0 h31 [] := K30.ext E31
 have f37 : Fld Z h31 b31 kc2 "name" "Ljava/lang/String;" .null := D31 (Or.inr (wd_19 hw)) (ty := (.object kc0)) (by decide)
 have f38 : Fld Z h31 b31 kc2 "side" "Ljava/lang/String;" .null := D31 (Or.inr (wd_21 hw)) (ty := (.object kc0)) (by decide)
 have f39 : Fld Z h31 b31 kc2 "initiative" "I" (.int (0 : Int32)) := D31 (Or.inr (wd_23 hw)) (ty := .int) (by decide)
 have f40 : Fld Z h31 b31 kc2 "player" "Z" (.int (0 : Int32)) := D31 (Or.inr (wd_25 hw)) (ty := .boolean) (by decide)
 have f41 : Fld Z h31 b31 kc2 "actionDice" "I" (.int (0 : Int32)) := D31 (Or.inr (wd_27 hw)) (ty := .int) (by decide)
 refine w_dup X31 hx (hb hby at_34) rfl (pc' := 35) rfl ?_
 refine w_aload X31 hx (hb hby at_35) rfl g22_0 (pc' := 37) rfl ?_
 refine w_aload X31 hx (hb hby at_37) rfl g27_0 (pc' := 39) rfl ?_
 refine w_iloadN X31 hx (hb hby at_39) rfl (pc' := 40) rfl ?_
 refine w_iload X31 hx (hb hby at_40) rfl (pc' := 42) rfl ?_
 refine w_iload X31 hx (hb hby at_42) rfl (pc' := 44) rfl ?_
 have le42 : h0.size ≤ h31.size := (Nat.le_trans le33 E31.1)
 refine w_special X31 hx (y := yn_2) rfl hown27 (mvT hZ27 (wd_7 hw)) (mvT hZ27 (wd_8 hw)) (mvT hZ27 (wd_9 hw)) (by decide) (backOf (W := 1) (rm_m2_5 l Z aZ hw [] b31 u_22 u_27 p2 (if (p3 &&& (1 : Int32)) = (0 : Int32) then (0 : Int32) else (1 : Int32)) p4 h31 n0 (Nat.le_trans Z0 le42) g22_0 g27_0 A31 f37 ge32 f38 f39 f40 nar_ite' f41) hZ27 (wd_9 hw) (wd_6 hw) (by decide) (by decide)) (by rw [hml]; rfl) [u_22, u_27, (.int p2), (.int (if (p3 &&& (1 : Int32)) = (0 : Int32) then (0 : Int32) else (1 : Int32))), (.int p4)] (lenOf pd_7 rfl) rfl (Nat.le_of_eq rfl) (hb hby at_44) (fun _ _ => ⟨rfl, e31, (by decide : 7 + 0 ≤ _), (by decide : 21 + 0 ≤ _)⟩) (pc' := 47) rfl ?_
 rintro _ _ ⟨T43, L43, k43, n43⟩ X43 ⟨Lc43, hQ43, l43, y43, z43⟩
 dsimp only [Pt.U, Pt.locs, Pt.cells, Pt.slots] at X43 l43 y43 z43 hQ43 ⊢
 subst l43 y43 z43
 obtain ⟨rfl, N43q, K43, g43_0, g43_1, g43_2, g43_3, g43_4, g43_5⟩ := hQ43
 have N44 := Fr.app N28 N43q
 have C45 : CHr Z EL s.vm h0 T27.vm T43.heap := C35.trans (CHr.keep K43 (sfS (Safe.exa hZ27.alike A31 (by decide) (by decide)) sf0) C35.1)
 have K46 : Keep h0 T43.heap [] := K36.trans K43 (allS (Or.inr sz34) (all0 (P := fun x => x ∈ [] ∨ h0.size ≤ x)))
 show Runs _ _ _ _ (T43.setTop (mkF m 47 #[.val (.int p0), .val (.int p1), .val (.int p2), .val (.int p3), .val (.int p4), .val (.int (if (p3 &&& (1 : Int32)) = (0 : Int32) then (0 : Int32) else (1 : Int32))), .val u_22, .val u_27, .unset, .unset] [(.ref b31)]))
 refine w_astore X43 hx (hb hby at_47) rfl (L' := #[.val (.int p0), .val (.int p1), .val (.int p2), .val (.int p3), .val (.int p4), .val (.int (if (p3 &&& (1 : Int32)) = (0 : Int32) then (0 : Int32) else (1 : Int32))), .val u_22, .val u_27, .val (.ref b31), .unset]) rfl (pc' := 49) rfl ?_
 refine w_aload X43 hx (hb hby at_49) rfl rfl (pc' := 51) rfl ?_
 have le47 : h0.size ≤ T43.heap.size := (Nat.le_trans le42 K43.1)
 obtain ⟨cq48, kq48, q48a, q48b, q48c⟩ := isOf hZ27 rfl g43_0
 refine w_virtual X43 hx (y := yn_5) (z := yn_5) hown27 (mvT hZ27 (wd_28 hw)) (mvT hZ27 (wd_29 hw)) (notFace_of_selects (args := #[]) (mvT hZ27 (wd_31 hw))) (mvT hZ27 (wd_31 hw)) (mvT hZ27 (wd_30 hw)) (by decide) (backOf (W := 0) (rm_m5_7 l Z aZ hw [] b31 u_22 u_27 p2 T43.heap n0 (Nat.le_trans Z0 le47) g22_0 g43_1 g27_0 g43_2 g43_3) hZ27 (wd_32 hw) (wd_6 hw) (by decide) (by decide)) q48a q48c (by rw [hml]; rfl) [] (lenOf pd_10 rfl) rfl (Nat.le_of_eq rfl) (hb hby at_51) (fun _ _ => ⟨rfl, rfl, (by decide : 7 + 1 ≤ _), (by decide : 21 + 4 ≤ _)⟩) (pc' := 54) rfl ?_
 rintro _ _ ⟨T48, L48, k48, n48⟩ X48 ⟨Lc48, hQ48, l48, y48, z48⟩
 dsimp only [Pt.U, Pt.locs, Pt.cells, Pt.slots] at X48 l48 y48 z48 hQ48 ⊢
 subst l48 y48 z48
 obtain ⟨r0_48, rfl, N48q, K48, g48_0, g48_1, g48_2, g48_3, g48_4, g48_5⟩ := hQ48
 have N49 := Fr.app N44 N48q
 have C50 : CHr Z EL s.vm h0 T27.vm T48.heap := C45.trans (CHr.keep K48 sf0 C45.1)
 have K51 : Keep h0 T48.heap [] := K46.trans K48 (all0 (P := fun x => x ∈ [] ∨ h0.size ≤ x))
 have ge52 : n0 ≤ r0_48 := Nat.le_trans (Nat.le_trans Z0 le47) g48_0
 have sz53 : h0.size ≤ r0_48 := Nat.le_trans le47 g48_0
 show Runs _ _ _ _ (T48.setTop (mkF m 54 #[.val (.int p0), .val (.int p1), .val (.int p2), .val (.int p3), .val (.int p4), .val (.int (if (p3 &&& (1 : Int32)) = (0 : Int32) then (0 : Int32) else (1 : Int32))), .val u_22, .val u_27, .val (.ref b31), .unset] [(.ref r0_48)]))
 refine w_astore X48 hx (hb hby at_54) rfl (L' := #[.val (.int p0), .val (.int p1), .val (.int p2), .val (.int p3), .val (.int p4), .val (.int (if (p3 &&& (1 : Int32)) = (0 : Int32) then (0 : Int32) else (1 : Int32))), .val u_22, .val u_27, .val (.ref b31), .val (.ref r0_48)]) rfl (pc' := 56) rfl ?_
 refine w_aload X48 hx (hb hby at_56) rfl rfl (pc' := 58) rfl ?_
 have le54 : h0.size ≤ T48.heap.size := (Nat.le_trans le47 K48.1)
 obtain ⟨cq55, kq55, q55a, q55b, q55c⟩ := isOf hZ27 rfl g48_1
 refine w_virtual X48 hx (y := yn_8) (z := yn_8) hown27 (mvT hZ27 (wd_51 hw)) (mvT hZ27 (wd_52 hw)) (notFace_of_selects (args := #[]) (mvT hZ27 (wd_54 hw))) (mvT hZ27 (wd_54 hw)) (mvT hZ27 (wd_53 hw)) (by decide) (backOf (W := 0) (rm_m8_10 l Z aZ hw [] r0_48 u_22 T48.heap n0 (Nat.le_trans Z0 le54) g22_0 g48_2) hZ27 (wd_55 hw) (wd_35 hw) (by decide) (by decide)) q55a q55c (by rw [hml]; rfl) [] (lenOf pd_11 rfl) rfl (Nat.le_of_eq rfl) (hb hby at_58) (fun _ _ => ⟨rfl, rfl, (by decide : 8 + 0 ≤ _), (by decide : 25 + 0 ≤ _)⟩) (pc' := 61) rfl ?_
 rintro _ _ ⟨T55, L55, k55, n55⟩ X55 ⟨Lc55, hQ55, l55, y55, z55⟩
 dsimp only [Pt.U, Pt.locs, Pt.cells, Pt.slots] at X55 l55 y55 z55 hQ55 ⊢
 subst l55 y55 z55
 obtain ⟨rfl, N55q, e55⟩ := hQ55
 have N56 := Fr.app N49 N55q
 show Runs _ _ _ _ (T55.setTop (mkF m 61 #[.val (.int p0), .val (.int p1), .val (.int p2), .val (.int p3), .val (.int p4), .val (.int (if (p3 &&& (1 : Int32)) = (0 : Int32) then (0 : Int32) else (1 : Int32))), .val u_22, .val u_27, .val (.ref b31), .val (.ref r0_48)] [u_22]))
 refine w_aload X55 hx (hb hby at_61) rfl g22_0 (pc' := 63) rfl ?_
 refine w_acmp X55 hx (hb hby at_63) (same := true) g22_0 g22_0 (decide_eq_true rfl) (pc' := 66) (by decide) (by decide) ?_
 refine w_aload X55 hx (hb hby at_66) rfl rfl (pc' := 68) rfl ?_
 obtain ⟨cq57, kq57, q57a, q57b, q57c⟩ := isOf hZ27 e55 g48_1
 refine w_virtual X55 hx (y := yn_9) (z := yn_9) hown27 (mvT hZ27 (wd_56 hw)) (mvT hZ27 (wd_57 hw)) (notFace_of_selects (args := #[]) (mvT hZ27 (wd_59 hw))) (mvT hZ27 (wd_59 hw)) (mvT hZ27 (wd_58 hw)) (by decide) (backOf (W := 0) (rm_m9_11 l Z aZ hw [] r0_48 u_27 T48.heap n0 (Nat.le_trans Z0 le54) g27_0 g48_3) hZ27 (wd_60 hw) (wd_35 hw) (by decide) (by decide)) q57a q57c (by rw [hml]; rfl) [] (lenOf pd_11 rfl) rfl (Nat.le_of_eq rfl) (hb hby at_68) (fun _ _ => ⟨rfl, e55, (by decide : 8 + 0 ≤ _), (by decide : 25 + 0 ≤ _)⟩) (pc' := 71) rfl ?_
 rintro _ _ ⟨T57, L57, k57, n57⟩ X57 ⟨Lc57, hQ57, l57, y57, z57⟩
 dsimp only [Pt.U, Pt.locs, Pt.cells, Pt.slots] at X57 l57 y57 z57 hQ57 ⊢
 subst l57 y57 z57
 obtain ⟨rfl, N57q, e57⟩ := hQ57
 have N58 := Fr.app N56 N57q
 show Runs _ _ _ _ (T57.setTop (mkF m 71 #[.val (.int p0), .val (.int p1), .val (.int p2), .val (.int p3), .val (.int p4), .val (.int (if (p3 &&& (1 : Int32)) = (0 : Int32) then (0 : Int32) else (1 : Int32))), .val u_22, .val u_27, .val (.ref b31), .val (.ref r0_48)] [u_27]))
 refine w_aload X57 hx (hb hby at_71) rfl g27_0 (pc' := 73) rfl ?_
 refine w_acmp X57 hx (hb hby at_73) (same := true) g27_0 g27_0 (decide_eq_true rfl) (pc' := 76) (by decide) (by decide) ?_
 refine w_aload X57 hx (hb hby at_76) rfl rfl (pc' := 78) rfl ?_
 obtain ⟨cq59, kq59, q59a, q59b, q59c⟩ := isOf hZ27 e57 g48_1
 refine w_virtual X57 hx (y := yn_10) (z := yn_10) hown27 (mvT hZ27 (wd_61 hw)) (mvT hZ27 (wd_62 hw)) (notFace_of_selects (args := #[]) (mvT hZ27 (wd_64 hw))) (mvT hZ27 (wd_64 hw)) (mvT hZ27 (wd_63 hw)) (by decide) (backOf (W := 0) (rm_m10_12 l Z aZ hw [] r0_48 p2 T48.heap n0 (Nat.le_trans Z0 le54) g48_4) hZ27 (wd_65 hw) (wd_35 hw) (by decide) (by decide)) q59a q59c (by rw [hml]; rfl) [] (lenOf pd_12 rfl) rfl (Nat.le_of_eq rfl) (hb hby at_78) (fun _ _ => ⟨rfl, e57, (by decide : 8 + 0 ≤ _), (by decide : 25 + 0 ≤ _)⟩) (pc' := 81) rfl ?_
 rintro _ _ ⟨T59, L59, k59, n59⟩ X59 ⟨Lc59, hQ59, l59, y59, z59⟩
 dsimp only [Pt.U, Pt.locs, Pt.cells, Pt.slots] at X59 l59 y59 z59 hQ59 ⊢
 subst l59 y59 z59
 obtain ⟨rfl, N59q, e59⟩ := hQ59
 have N60 := Fr.app N58 N59q
 show Runs _ _ _ _ (T59.setTop (mkF m 81 #[.val (.int p0), .val (.int p1), .val (.int p2), .val (.int p3), .val (.int p4), .val (.int (if (p3 &&& (1 : Int32)) = (0 : Int32) then (0 : Int32) else (1 : Int32))), .val u_22, .val u_27, .val (.ref b31), .val (.ref r0_48)] [(.int p2)]))
 refine w_iloadN X59 hx (hb hby at_81) rfl (pc' := 82) rfl ?_
 refine w_icN X59 hx (hb hby at_82) (teq (rfl : p2 = p2)).2 (pc' := 85) rfl ?_
 refine w_aload X59 hx (hb hby at_85) rfl rfl (pc' := 87) rfl ?_
 obtain ⟨cq61, kq61, q61a, q61b, q61c⟩ := isOf hZ27 e59 g48_1
 refine w_virtual X59 hx (y := yn_11) (z := yn_11) hown27 (mvT hZ27 (wd_66 hw)) (mvT hZ27 (wd_67 hw)) (notFace_of_selects (args := #[]) (mvT hZ27 (wd_69 hw))) (mvT hZ27 (wd_69 hw)) (mvT hZ27 (wd_68 hw)) (by decide) (backOf (W := 0) (rm_m11_13 l Z aZ hw [] r0_48 T48.heap n0 (Nat.le_trans Z0 le54) g48_5) hZ27 (wd_70 hw) (wd_35 hw) (by decide) (by decide)) q61a q61c (by rw [hml]; rfl) [] (lenOf pd_13 rfl) rfl (Nat.le_of_eq rfl) (hb hby at_87) (fun _ _ => ⟨rfl, e59, (by decide : 8 + 0 ≤ _), (by decide : 25 + 0 ≤ _)⟩) (pc' := 90) rfl ?_
 rintro _ _ ⟨T61, L61, k61, n61⟩ X61 ⟨Lc61, hQ61, l61, y61, z61⟩
 dsimp only [Pt.U, Pt.locs, Pt.cells, Pt.slots] at X61 l61 y61 z61 hQ61 ⊢
 subst l61 y61 z61
 obtain ⟨rfl, N61q, e61⟩ := hQ61
 have N62 := Fr.app N60 N61q
 show Runs _ _ _ _ (T61.setTop (mkF m 90 #[.val (.int p0), .val (.int p1), .val (.int p2), .val (.int p3), .val (.int p4), .val (.int (if (p3 &&& (1 : Int32)) = (0 : Int32) then (0 : Int32) else (1 : Int32))), .val u_22, .val u_27, .val (.ref b31), .val (.ref r0_48)] [(.int (0 : Int32))]))
 refine w_ifN X61 hx (hb hby at_90) (teq (by decide : (0 : Int32) = (0 : Int32))).2 (pc' := 93) rfl ?_
 refine w_iconst X61 hx (hb hby at_93) (v := (1 : Int32)) rfl (pc' := 94) rfl ?_
 refine w_goto X61 hx (hb hby at_94) (pc' := 98) (by decide) (by decide) ?_
 have le63 : T27.heap.size ≤ T43.heap.size := (Nat.le_trans E31.1 K43.1)
 have le64 : T27.heap.size ≤ T48.heap.size := (Nat.le_trans le63 K48.1)
 exact w_doneH X61 hlk (v := some (.int (1 : Int32))) e61 hh hZ27 (own_EW hw) hS27 (Nat.le_trans (Nat.le_refl _) le64) C50 (fun h => by rw [hret] at h; cases h) (fun fs hr => retN X61 hx (t := .boolean) hret (by simp) (hb hby at_98) hr) (by decide) (by decide) (fun hsy => ⟨rfl, N62⟩)
set_option maxRecDepth 65536 in
set_option maxHeartbeats 40000000 in
theorem comes_1 {Post : Tables → Env → Array Value → State → Outcome → State → Prop} (hpost : ∀ tb e args s v u, (limb_1_1.after args s (.returned v) u = true ∧ limb_1_2.after args s (.returned v) u = true ∧ True) → ReturnedEndW s (.returned v) u (Jvm.fieldLocs frame_1_writes args s ++ Jvm.arrayLocs frame_1_arrays args s ++ Jvm.staticLocs frame_1_statics s) 32 1152 → Post tb e args s (.returned v) u) :
    ArmFor flags0 classFile x code maxLocals ret World_1 tables_1 room_1 Calls_1 rest_1 Pre_1 Post := by
  intro l hfl _ _ p e ha hc hk s m args below hf hA hF happ hP
  obtain ⟨hcalls, hrest, hpre⟩ := hP
  obtain ⟨-, -, -, hnamed, -, -, -, hat⟩ := (Spec.applies_iff hf).mp happ
  obtain ⟨hg, hn⟩ := and_e (Cond.before_iff.mp (show (Jvm.Cond.and given_1 narrow_1).before args s = true from hpre))
  obtain ⟨gv1, gv2⟩ := and_e hg
  obtain ⟨gv3, gv4⟩ := and_e gv2
  obtain ⟨gv5, gv6⟩ := and_e gv4
  obtain ⟨gv7, gv8⟩ := and_e gv6
  obtain ⟨gv9, gv10⟩ := and_e gv8
  obtain ⟨w0, w1, w2, w3, w4, rfl⟩ : ∃ w0 w1 w2 w3 w4 : Value, args = #[w0, w1, w2, w3, w4] := by
    have hs : args.size = 5 := by simpa [Cond.value, given_1] using gv1
    obtain ⟨L⟩ := args
    match L, hs with
    | [w0, w1, w2, w3, w4], _ => exact ⟨w0, w1, w2, w3, w4, rfl⟩
  have hw := fun d (hd : d ∈ tables_1) => atoms_spec (ws := Jvm.Cond.code x code maxLocals ret :: tables_1) hat d (List.mem_cons_of_mem _ hd)
  have hfit : Fit s := fun {y c} hc i hi => by
    obtain ⟨ha, rfl⟩ := Array.getElem?_eq_some_iff.mp hc
    have q := List.all_eq_true.mp ((Array.all_eq_true_iff_forall_mem.mp hF) _ (Array.getElem_mem ha)) i (List.mem_range.mpr hi)
    simpa [Array.getElem?_eq_getElem hi] using q
  obtain ⟨hsets, hown0⟩ := atoms_of _ (rest_1_c_eq ▸ (show rest_1_c.before _ s = true from hrest))
  have hr0 := Cond.before_iff.mp hown0
  obtain ⟨i0, ei0⟩ := is_v gv3
  obtain rfl : w0 = (.int i0) := Option.some.inj ei0
  obtain ⟨i1, ei1⟩ := is_v gv5
  obtain rfl : w1 = (.int i1) := Option.some.inj ei1
  obtain ⟨i2, ei2⟩ := is_v gv7
  obtain rfl : w2 = (.int i2) := Option.some.inj ei2
  obtain ⟨i3, ei3⟩ := is_v gv9
  obtain rfl : w3 = (.int i3) := Option.some.inj ei3
  obtain ⟨i4, ei4⟩ := is_v gv10
  obtain rfl : w4 = (.int i4) := Option.some.inj ei4
  obtain ⟨G_COMPACT_STRINGS, ev_G_COMPACT_STRINGS⟩ := is_v (Cond.before_iff.mp (hsets _ (List.mem_of_getElem? (i := 1) rfl)))
  have S_COMPACT_STRINGS := Sta.start ev_G_COMPACT_STRINGS (Or.inl (hsets _ (List.mem_of_getElem? (i := 0) rfl)))
  have hP_2 : ¬ (G_COMPACT_STRINGS = (0 : Int32)) := fun q => by
    have h9 := not_v (Cond.before_iff.mp (hsets _ (List.mem_of_getElem? (i := 2) rfl)))
    rw [eq_i ev_G_COMPACT_STRINGS (Term.int_eval 0) (by rw [q])] at h9
    cases h9
  have hCH : CHv s EL s.vm s.heap := fun p hp => by simp [EL] at hp
  obtain ⟨n, o, h1, h2, h3, _, L, rfl, ⟨rfl, N⟩, -, hq⟩ := rm_law l s _ hw tables_1 i0 i1 i2 i3 i4 G_COMPACT_STRINGS s.heap s.heap.size (Nat.le_refl _) S_COMPACT_STRINGS (Old.start s) hP_2 p e ha hc hk s m _ below hf ((Spec.applies_iff_loose hf).mp happ).1 ⟨rfl, State.Warmed39.refl s, rfl, hCH, fun x hx => nomatch hx⟩ trivial
  refine ⟨n, _, h1, h2, h3, hpost _ _ _ _ _ _ ⟨Cond.after_iff.mpr rfl, Cond.after_iff.mpr (eq_i res_at (Term.int_eval (1)) rfl), trivial⟩ ⟨hq.1, hq.2.1, hq.2.2.1, (hq.2.2.2.sift fun y hy => Or.inr (N y hy)).mono (by decide) (by decide)⟩⟩
theorem main_1_1 : Claimed_1_1 := comes_1 fun _ _ _ _ _ _ h hF => ⟨h.1, hF⟩
theorem main_1_2 : Claimed_1_2 := comes_1 fun _ _ _ _ _ _ h hF => ⟨h.2.1, hF⟩
end Jvm.Pilot.@@N@@
namespace Jvm.Pilot.@@N@@
open Jvm Jvm.ClassFile Sem Op Lib Jvm.Free Jvm.Stand Jvm.Pilot.@@N@@.Jvm.D
/-! MADE BY PROGRAM (witnessworld.py) out of the Statement's table words and the real class files: 22 classes; the members and pool entries that the words name. The judged class is class 1, her method 2. -/
namespace start1
open Jvm.ClassFile
def u (s : String) : CpInfo := .utf8 (stringToUtf16 s)
/-- a pool by its gaps: so many unusable entries, then the entry; so many at the end -/
def gap : Nat → List CpInfo → List CpInfo
  | 0, r => r
  | n + 1, r => .unusable :: gap n r
def poolList (es : List (Nat × CpInfo)) (last : Nat) : List CpInfo := es.foldr (fun e r => gap e.1 (e.2 :: r)) (gap last [])
def pool (es : List (Nat × CpInfo)) (last : Nat) : Array CpInfo := ⟨poolList es last⟩
def fileOf (pool : Array CpInfo) (this : Nat) (attrs : Array Attribute := #[]) (ms : Array MethodInfo := #[]) (fl : Nat := 33) (sup : Nat := 0) (ifs : Array Nat := #[]) (fds : Array FieldInfo := #[]) : ClassFile where
  minorVersion := 0
  majorVersion := 65
  constantPool := pool
  accessFlags := fl
  thisClass := this
  superClass := sup
  interfaces := ifs
  fields := fds
  methods := ms
  attributes := attrs
def plain (name : String) (sup : Option ClassId) : Class where
  name := name
  kind := .ordinary
  loader := none
  accessFlags := 33
  super := sup
  interfaces := #[]
  cf := none
  fields := #[]
  methods := #[]
  instanceTypes := #[]
  staticTypes := #[]
  resolved := #[]
  callSites := []
  init := .initialized
  statics := none
  mirror := none

def pool0 : Array CpInfo := pool [(5, u "<init>"), (0, u "()V"), (1, .class_ 10), (1, u "java/lang/Object")] 113

def k0c0 : Code := { maxStack := 0, maxLocals := 1, code := object_method_1_code, exceptionTable := #[], attributes := #[] }
def k0m0 : Method := { name := "<init>", desc := "()V", sig := { parameters := [], returnType := none }, accessFlags := 1, code := some k0c0 }
/-- java/lang/Object -/
def k0 : Class := { plain "java/lang/Object" none with
  accessFlags := 33
  interfaces := #[]
  cf := some (fileOf pool0 8 #[] #[{ accessFlags := 1, nameIndex := 5, descriptorIndex := 6, attributes := #[] }] 33 0 #[] #[])
  fields := #[]
  methods := #[k0m0]
  instanceTypes := #[]
  staticTypes := #[]
  resolved := Array.replicate 124 none
  statics := none }

def pool1 : Array CpInfo := pool [(2, .class_ 4), (1, u "java/lang/Object"), (0, u "<init>"), (0, u "()V"), (0, .string 8), (0, u ""), (0, .methodref 10 11), (0, .class_ 12), (0, .nameAndType 13 14), (0, u "java/lang/String"), (0, u "valueOf"), (0, u "(C)Ljava/lang/String;"), (0, .methodref 10 16), (0, .nameAndType 5 17), (0, u "([C)V"), (0, .methodref 19 20), (0, .class_ 21), (0, .nameAndType 22 23), (0, u "com/example/roundkeeper/roundkeeper/ruleset/segments/FighterTurn385PinLaw"), (0, u "draw"), (0, u "(II)Ljava/lang/String;"), (0, .class_ 25), (0, u "com/example/roundkeeper/roundkeeper/ruleset/segments/Fighter"), (0, .methodref 24 27), (0, .nameAndType 5 28), (0, u "(Ljava/lang/String;Ljava/lang/String;IZI)V"), (0, .methodref 24 30), (0, .nameAndType 31 32), (0, u "turn"), (0, u "()Lcom/example/roundkeeper/roundkeeper/Turn;"), (0, .methodref 34 35), (0, .class_ 36), (0, .nameAndType 37 38), (0, u "com/example/roundkeeper/roundkeeper/Turn"), (0, u "name"), (0, u "()Ljava/lang/String;"), (0, .methodref 34 40), (0, .nameAndType 41 38), (0, u "side"), (0, .methodref 34 43), (0, .nameAndType 44 45), (0, u "initiative"), (0, u "()I"), (0, .methodref 34 47), (0, .nameAndType 48 49), (0, u "simultaneous"), (0, u "()Z"), (3, u "law"), (0, u "(IIIII)Z")] 2

def k1m0 : Method := { name := "<init>", desc := "()V", sig := { parameters := [], returnType := none }, accessFlags := 1, code := none }
def k1c1 : Code := { maxStack := 4, maxLocals := 4, code := method_2_code, exceptionTable := #[], attributes := #[] }
def k1m1 : Method := { name := "draw", desc := "(II)Ljava/lang/String;", sig := { parameters := [.int, .int], returnType := some (.object "java/lang/String") }, accessFlags := 10, code := some k1c1 }
def k1c2 : Code := { maxStack := 7, maxLocals := 10, code := code, exceptionTable := #[], attributes := #[] }
def k1m2 : Method := { name := "law", desc := "(IIIII)Z", sig := { parameters := [.int, .int, .int, .int, .int], returnType := some .boolean }, accessFlags := 9, code := some k1c2 }
/-- com/example/roundkeeper/roundkeeper/ruleset/segments/FighterTurn385PinLaw -/
def k1 : Class := { plain "com/example/roundkeeper/roundkeeper/ruleset/segments/FighterTurn385PinLaw" (some 0) with
  accessFlags := 49
  interfaces := #[]
  cf := some (fileOf pool1 19 #[] #[{ accessFlags := 1, nameIndex := 5, descriptorIndex := 6, attributes := #[] }, { accessFlags := 10, nameIndex := 22, descriptorIndex := 23, attributes := #[] }, { accessFlags := 9, nameIndex := 53, descriptorIndex := 54, attributes := #[] }] 49 2 #[] #[])
  fields := #[]
  methods := #[k1m0, k1m1, k1m2]
  instanceTypes := #[]
  staticTypes := #[]
  resolved := Array.replicate 57 none
  statics := none }

def pool2 : Array CpInfo := pool [(1, .methodref 2 3), (0, .class_ 4), (0, .nameAndType 5 6), (0, u "java/lang/Object"), (0, u "<init>"), (0, u "()V"), (0, .class_ 8), (0, u "java/lang/Record")] 13

def k2c0 : Code := { maxStack := 1, maxLocals := 1, code := jdk_30_method_1_code, exceptionTable := #[], attributes := #[] }
def k2m0 : Method := { name := "<init>", desc := "()V", sig := { parameters := [], returnType := none }, accessFlags := 4, code := some k2c0 }
/-- java/lang/Record -/
def k2 : Class := { plain "java/lang/Record" (some 0) with
  accessFlags := 1057
  interfaces := #[]
  cf := some (fileOf pool2 7 #[] #[{ accessFlags := 4, nameIndex := 5, descriptorIndex := 6, attributes := #[] }] 1057 2 #[] #[])
  fields := #[]
  methods := #[k2m0]
  instanceTypes := #[]
  staticTypes := #[]
  resolved := Array.replicate 22 none
  statics := none }

def pool3 : Array CpInfo := pool [(1, .methodref 2 3), (0, .class_ 4), (0, .nameAndType 5 6), (0, u "java/lang/Record"), (0, u "<init>"), (0, u "()V"), (0, .fieldref 8 9), (0, .class_ 10), (0, .nameAndType 11 12), (0, u "com/example/roundkeeper/roundkeeper/ruleset/segments/Fighter"), (0, u "name"), (0, u "Ljava/lang/String;"), (0, .fieldref 8 14), (0, .nameAndType 15 12), (0, u "side"), (0, .fieldref 8 17), (0, .nameAndType 18 19), (0, u "initiative"), (0, u "I"), (0, .fieldref 8 21), (0, .nameAndType 22 23), (0, u "player"), (0, u "Z"), (0, .fieldref 8 25), (0, .nameAndType 26 19), (0, u "actionDice"), (0, .class_ 28), (0, u "com/example/roundkeeper/roundkeeper/Turn"), (0, .methodref 27 30), (0, .nameAndType 5 31), (0, u "(Ljava/lang/String;Ljava/lang/String;I)V"), (28, u "ORDER"), (0, u "Ljava/util/Comparator;"), (2, u "(Ljava/lang/String;Ljava/lang/String;IZI)V"), (3, u "turn"), (0, u "()Lcom/example/roundkeeper/roundkeeper/Turn;")] 42

def k3c0 : Code := { maxStack := 2, maxLocals := 6, code := prog_17_method_1_code, exceptionTable := #[], attributes := #[] }
def k3m0 : Method := { name := "<init>", desc := "(Ljava/lang/String;Ljava/lang/String;IZI)V", sig := { parameters := [(.object "java/lang/String"), (.object "java/lang/String"), .int, .boolean, .int], returnType := none }, accessFlags := 0, code := some k3c0 }
def k3c1 : Code := { maxStack := 5, maxLocals := 1, code := prog_17_method_2_code, exceptionTable := #[], attributes := #[] }
def k3m1 : Method := { name := "turn", desc := "()Lcom/example/roundkeeper/roundkeeper/Turn;", sig := { parameters := [], returnType := some (.object "com/example/roundkeeper/roundkeeper/Turn") }, accessFlags := 0, code := some k3c1 }
/-- com/example/roundkeeper/roundkeeper/ruleset/segments/Fighter -/
def k3 : Class := { plain "com/example/roundkeeper/roundkeeper/ruleset/segments/Fighter" (some 2) with
  accessFlags := 48
  interfaces := #[]
  cf := some (fileOf pool3 8 #[] #[{ accessFlags := 0, nameIndex := 5, descriptorIndex := 64, attributes := #[] }, { accessFlags := 0, nameIndex := 68, descriptorIndex := 69, attributes := #[] }] 48 2 #[] #[{ accessFlags := 18, nameIndex := 11, descriptorIndex := 12, attributes := #[] }, { accessFlags := 18, nameIndex := 15, descriptorIndex := 12, attributes := #[] }, { accessFlags := 18, nameIndex := 18, descriptorIndex := 19, attributes := #[] }, { accessFlags := 18, nameIndex := 22, descriptorIndex := 23, attributes := #[] }, { accessFlags := 18, nameIndex := 26, descriptorIndex := 19, attributes := #[] }, { accessFlags := 24, nameIndex := 60, descriptorIndex := 61, attributes := #[] }])
  fields := #[{ name := "name", type := (.object "java/lang/String"), accessFlags := 18, slot := 0, constantValue := 0 }, { name := "side", type := (.object "java/lang/String"), accessFlags := 18, slot := 1, constantValue := 0 }, { name := "initiative", type := .int, accessFlags := 18, slot := 2, constantValue := 0 }, { name := "player", type := .boolean, accessFlags := 18, slot := 3, constantValue := 0 }, { name := "actionDice", type := .int, accessFlags := 18, slot := 4, constantValue := 0 }, { name := "ORDER", type := (.object "java/util/Comparator"), accessFlags := 24, slot := 0, constantValue := 0 }]
  methods := #[k3m0, k3m1]
  instanceTypes := #[(.object "java/lang/String"), (.object "java/lang/String"), .int, .boolean, .int]
  staticTypes := #[(.object "java/util/Comparator")]
  resolved := Array.replicate 112 none
  statics := none }

def pool4 : Array CpInfo := pool [(1, .methodref 2 3), (0, .class_ 4), (0, .nameAndType 5 6), (0, u "java/lang/Record"), (0, u "<init>"), (0, u "()V"), (0, .fieldref 8 9), (0, .class_ 10), (0, .nameAndType 11 12), (0, u "com/example/roundkeeper/roundkeeper/Turn"), (0, u "name"), (0, u "Ljava/lang/String;"), (0, .fieldref 8 14), (0, .nameAndType 15 12), (0, u "side"), (0, .fieldref 8 17), (0, .nameAndType 18 19), (0, u "initiative"), (0, u "I"), (0, .fieldref 8 21), (0, .nameAndType 22 23), (0, u "simultaneous"), (0, u "Z"), (0, .methodref 8 25), (0, .nameAndType 5 26), (0, u "(Ljava/lang/String;Ljava/lang/String;IZ)V"), (12, u "(Ljava/lang/String;Ljava/lang/String;I)V"), (3, u "()Ljava/lang/String;"), (0, u "()I"), (1, u "()Z")] 23

def k4c0 : Code := { maxStack := 5, maxLocals := 4, code := prog_3_method_1_code, exceptionTable := #[], attributes := #[] }
def k4m0 : Method := { name := "<init>", desc := "(Ljava/lang/String;Ljava/lang/String;I)V", sig := { parameters := [(.object "java/lang/String"), (.object "java/lang/String"), .int], returnType := none }, accessFlags := 1, code := some k4c0 }
def k4c1 : Code := { maxStack := 2, maxLocals := 5, code := prog_3_method_2_code, exceptionTable := #[], attributes := #[] }
def k4m1 : Method := { name := "<init>", desc := "(Ljava/lang/String;Ljava/lang/String;IZ)V", sig := { parameters := [(.object "java/lang/String"), (.object "java/lang/String"), .int, .boolean], returnType := none }, accessFlags := 1, code := some k4c1 }
def k4c2 : Code := { maxStack := 1, maxLocals := 1, code := prog_3_method_6_code, exceptionTable := #[], attributes := #[] }
def k4m2 : Method := { name := "name", desc := "()Ljava/lang/String;", sig := { parameters := [], returnType := some (.object "java/lang/String") }, accessFlags := 1, code := some k4c2 }
def k4c3 : Code := { maxStack := 1, maxLocals := 1, code := prog_3_method_7_code, exceptionTable := #[], attributes := #[] }
def k4m3 : Method := { name := "side", desc := "()Ljava/lang/String;", sig := { parameters := [], returnType := some (.object "java/lang/String") }, accessFlags := 1, code := some k4c3 }
def k4c4 : Code := { maxStack := 1, maxLocals := 1, code := prog_3_method_8_code, exceptionTable := #[], attributes := #[] }
def k4m4 : Method := { name := "initiative", desc := "()I", sig := { parameters := [], returnType := some .int }, accessFlags := 1, code := some k4c4 }
def k4c5 : Code := { maxStack := 1, maxLocals := 1, code := prog_3_method_9_code, exceptionTable := #[], attributes := #[] }
def k4m5 : Method := { name := "simultaneous", desc := "()Z", sig := { parameters := [], returnType := some .boolean }, accessFlags := 1, code := some k4c5 }
/-- com/example/roundkeeper/roundkeeper/Turn -/
def k4 : Class := { plain "com/example/roundkeeper/roundkeeper/Turn" (some 2) with
  accessFlags := 49
  interfaces := #[]
  cf := some (fileOf pool4 8 #[] #[{ accessFlags := 1, nameIndex := 5, descriptorIndex := 39, attributes := #[] }, { accessFlags := 1, nameIndex := 5, descriptorIndex := 26, attributes := #[] }, { accessFlags := 1, nameIndex := 11, descriptorIndex := 43, attributes := #[] }, { accessFlags := 1, nameIndex := 15, descriptorIndex := 43, attributes := #[] }, { accessFlags := 1, nameIndex := 18, descriptorIndex := 44, attributes := #[] }, { accessFlags := 1, nameIndex := 22, descriptorIndex := 46, attributes := #[] }] 49 2 #[] #[{ accessFlags := 18, nameIndex := 11, descriptorIndex := 12, attributes := #[] }, { accessFlags := 18, nameIndex := 15, descriptorIndex := 12, attributes := #[] }, { accessFlags := 18, nameIndex := 18, descriptorIndex := 19, attributes := #[] }, { accessFlags := 18, nameIndex := 22, descriptorIndex := 23, attributes := #[] }])
  fields := #[{ name := "name", type := (.object "java/lang/String"), accessFlags := 18, slot := 0, constantValue := 0 }, { name := "side", type := (.object "java/lang/String"), accessFlags := 18, slot := 1, constantValue := 0 }, { name := "initiative", type := .int, accessFlags := 18, slot := 2, constantValue := 0 }, { name := "simultaneous", type := .boolean, accessFlags := 18, slot := 3, constantValue := 0 }]
  methods := #[k4m0, k4m1, k4m2, k4m3, k4m4, k4m5]
  instanceTypes := #[(.object "java/lang/String"), (.object "java/lang/String"), .int, .boolean]
  staticTypes := #[]
  resolved := Array.replicate 70 none
  statics := none }

def pool5 : Array CpInfo := pool [(1, .class_ 2), (0, u "java/io/Serializable"), (0, .class_ 4), (0, u "java/lang/Object")] 2

/-- java/io/Serializable -/
def k5 : Class := { plain "java/io/Serializable" (some 0) with
  accessFlags := 1537
  interfaces := #[]
  cf := some (fileOf pool5 1 #[] #[] 1537 3 #[] #[])
  fields := #[]
  methods := #[]
  instanceTypes := #[]
  staticTypes := #[]
  resolved := Array.replicate 7 none
  statics := none }

def pool6 : Array CpInfo := pool [(1, .class_ 2), (0, u "java/lang/Comparable"), (0, .class_ 4), (0, u "java/lang/Object")] 7

/-- java/lang/Comparable -/
def k6 : Class := { plain "java/lang/Comparable" (some 0) with
  accessFlags := 1537
  interfaces := #[]
  cf := some (fileOf pool6 1 #[] #[] 1537 3 #[] #[])
  fields := #[]
  methods := #[]
  instanceTypes := #[]
  staticTypes := #[]
  resolved := Array.replicate 12 none
  statics := none }

def pool7 : Array CpInfo := pool [(2, .class_ 4), (1, u "java/lang/CharSequence"), (42, .class_ 48), (0, u "java/lang/CharSequence$1CodePointIterator"), (10, .class_ 60), (0, u "java/lang/CharSequence$1CharIterator"), (5, .class_ 67), (0, u "java/lang/Object")] 63

/-- java/lang/CharSequence -/
def k7 : Class := { plain "java/lang/CharSequence" (some 0) with
  accessFlags := 1537
  interfaces := #[]
  cf := some (fileOf pool7 2 #[.nestMembers #[47, 59]] #[] 1537 66 #[] #[])
  fields := #[]
  methods := #[]
  instanceTypes := #[]
  staticTypes := #[]
  resolved := Array.replicate 131 none
  statics := none }

def pool8 : Array CpInfo := pool [(1, .class_ 2), (0, u "java/lang/constant/Constable"), (0, .class_ 4), (0, u "java/lang/Object")] 6

/-- java/lang/constant/Constable -/
def k8 : Class := { plain "java/lang/constant/Constable" (some 0) with
  accessFlags := 1537
  interfaces := #[]
  cf := some (fileOf pool8 1 #[] #[] 1537 3 #[] #[])
  fields := #[]
  methods := #[]
  instanceTypes := #[]
  staticTypes := #[]
  resolved := Array.replicate 11 none
  statics := none }

def pool9 : Array CpInfo := pool [(1, .class_ 2), (0, u "java/lang/constant/ConstantDesc"), (0, .class_ 4), (0, u "java/lang/Object")] 32

/-- java/lang/constant/ConstantDesc -/
def k9 : Class := { plain "java/lang/constant/ConstantDesc" (some 0) with
  accessFlags := 1537
  interfaces := #[]
  cf := some (fileOf pool9 1 #[] #[] 1537 3 #[] #[])
  fields := #[]
  methods := #[]
  instanceTypes := #[]
  staticTypes := #[]
  resolved := Array.replicate 37 none
  statics := none }

def pool10 : Array CpInfo := pool [(1, .methodref 2 3), (0, .class_ 4), (0, .nameAndType 5 6), (0, u "java/lang/Object"), (0, u "<init>"), (0, u "()V"), (2, .fieldref 10 11), (0, .class_ 12), (0, .nameAndType 13 14), (0, u "java/lang/String"), (0, u "value"), (0, u "[B"), (0, .fieldref 10 16), (0, .nameAndType 17 18), (0, u "coder"), (0, u "B"), (2, u "hash"), (0, u "I"), (2, u "hashIsZero"), (0, u "Z"), (0, .methodref 10 28), (0, .nameAndType 5 29), (0, u "([CIILjava/lang/Void;)V"), (8, .fieldref 10 39), (0, .nameAndType 40 26), (0, u "COMPACT_STRINGS"), (1, .class_ 44), (1, u "java/lang/StringUTF16"), (0, u "compress"), (1, .methodref 42 48), (0, .nameAndType 49 50), (0, u "coderFromArrayLen"), (0, u "([BI)B"), (2, u "toBytes"), (53, .class_ 109), (1, u "java/lang/StringLatin1"), (67, .methodref 42 178), (0, .nameAndType 45 179), (0, u "([CII)[B"), (29, .methodref 10 210), (0, .nameAndType 5 211), (0, u "([BB)V"), (157, u "(C)Z"), (205, .class_ 576), (0, u "java/lang/CharSequence"), (22, u "CASE_INSENSITIVE_ORDER"), (0, u "Ljava/util/Comparator;"), (181, u "valueOf"), (0, u "(C)Ljava/lang/String;"), (226, u "([C)V"), (4, .methodref 107 1016), (0, .nameAndType 1017 369), (0, u "canEncode"), (0, .methodref 107 1019), (0, .nameAndType 53 1020), (0, u "(C)[B"), (80, u "serialPersistentFields"), (0, u "[Ljava/io/ObjectStreamField;"), (0, .class_ 1104), (0, u "java/lang/String$CaseInsensitiveComparator"), (1, .class_ 1107), (0, u "java/io/Serializable"), (0, .class_ 1109), (0, u "java/lang/Comparable"), (0, .class_ 1111), (0, u "java/lang/constant/Constable"), (0, .class_ 1113), (0, u "java/lang/constant/ConstantDesc"), (2, u "serialVersionUID"), (0, u "J"), (3, u "REPL"), (0, u "C"), (2, u "LATIN1"), (1, u "UTF16")] 323

def k10m0 : Method := { name := "<init>", desc := "()V", sig := { parameters := [], returnType := none }, accessFlags := 1, code := none }
def k10c1 : Code := { maxStack := 5, maxLocals := 2, code := jdk_42_method_3_code, exceptionTable := #[], attributes := #[] }
def k10m1 : Method := { name := "<init>", desc := "([C)V", sig := { parameters := [(.array .char)], returnType := none }, accessFlags := 1, code := some k10c1 }
def k10c2 : Code := { maxStack := 4, maxLocals := 1, code := jdk_42_method_139_code, exceptionTable := #[], attributes := #[] }
def k10m2 : Method := { name := "valueOf", desc := "(C)Ljava/lang/String;", sig := { parameters := [.char], returnType := some (.object "java/lang/String") }, accessFlags := 9, code := some k10c2 }
def k10c3 : Code := { maxStack := 4, maxLocals := 6, code := jdk_42_method_149_code, exceptionTable := #[], attributes := #[] }
def k10m3 : Method := { name := "<init>", desc := "([CIILjava/lang/Void;)V", sig := { parameters := [(.array .char), .int, .int, (.object "java/lang/Void")], returnType := none }, accessFlags := 2, code := some k10c3 }
def k10c4 : Code := { maxStack := 2, maxLocals := 3, code := jdk_42_method_151_code, exceptionTable := #[], attributes := #[] }
def k10m4 : Method := { name := "<init>", desc := "([BB)V", sig := { parameters := [(.array .byte), .byte], returnType := none }, accessFlags := 0, code := some k10c4 }
/-- java/lang/String -/
def k10 : Class := { plain "java/lang/String" (some 0) with
  accessFlags := 49
  interfaces := #[5, 6, 7, 8, 9]
  cf := some (fileOf pool10 10 #[.nestMembers #[1103]] #[{ accessFlags := 1, nameIndex := 5, descriptorIndex := 6, attributes := #[] }, { accessFlags := 1, nameIndex := 5, descriptorIndex := 1010, attributes := #[] }, { accessFlags := 9, nameIndex := 782, descriptorIndex := 783, attributes := #[] }, { accessFlags := 2, nameIndex := 5, descriptorIndex := 29, attributes := #[] }, { accessFlags := 0, nameIndex := 5, descriptorIndex := 211, attributes := #[] }] 49 2 #[1106, 1108, 575, 1110, 1112] #[{ accessFlags := 18, nameIndex := 13, descriptorIndex := 14, attributes := #[] }, { accessFlags := 18, nameIndex := 17, descriptorIndex := 18, attributes := #[] }, { accessFlags := 2, nameIndex := 21, descriptorIndex := 22, attributes := #[] }, { accessFlags := 2, nameIndex := 25, descriptorIndex := 26, attributes := #[] }, { accessFlags := 26, nameIndex := 1116, descriptorIndex := 1117, attributes := #[] }, { accessFlags := 24, nameIndex := 40, descriptorIndex := 26, attributes := #[] }, { accessFlags := 26, nameIndex := 1101, descriptorIndex := 1102, attributes := #[] }, { accessFlags := 26, nameIndex := 1121, descriptorIndex := 1122, attributes := #[] }, { accessFlags := 25, nameIndex := 599, descriptorIndex := 600, attributes := #[] }, { accessFlags := 24, nameIndex := 1125, descriptorIndex := 18, attributes := #[] }, { accessFlags := 24, nameIndex := 1127, descriptorIndex := 18, attributes := #[] }])
  fields := #[{ name := "value", type := (.array .byte), accessFlags := 18, slot := 0, constantValue := 0 }, { name := "coder", type := .byte, accessFlags := 18, slot := 1, constantValue := 0 }, { name := "hash", type := .int, accessFlags := 2, slot := 2, constantValue := 0 }, { name := "hashIsZero", type := .boolean, accessFlags := 2, slot := 3, constantValue := 0 }, { name := "serialVersionUID", type := .long, accessFlags := 26, slot := 0, constantValue := 0 }, { name := "COMPACT_STRINGS", type := .boolean, accessFlags := 24, slot := 1, constantValue := 0 }, { name := "serialPersistentFields", type := (.array (.object "java/io/ObjectStreamField")), accessFlags := 26, slot := 2, constantValue := 0 }, { name := "REPL", type := .char, accessFlags := 26, slot := 3, constantValue := 0 }, { name := "CASE_INSENSITIVE_ORDER", type := (.object "java/util/Comparator"), accessFlags := 25, slot := 4, constantValue := 0 }, { name := "LATIN1", type := .byte, accessFlags := 24, slot := 5, constantValue := 0 }, { name := "UTF16", type := .byte, accessFlags := 24, slot := 6, constantValue := 0 }]
  methods := #[k10m0, k10m1, k10m2, k10m3, k10m4]
  instanceTypes := #[(.array .byte), .byte, .int, .boolean]
  staticTypes := #[.long, .boolean, (.array (.object "java/io/ObjectStreamField")), .char, (.object "java/util/Comparator"), .byte, .byte]
  resolved := Array.replicate 1451 none
  statics := some 0 }

def pool11 : Array CpInfo := pool [(6, .class_ 8), (1, u "java/lang/Object"), (0, u "<init>"), (0, u "()V"), (1, .class_ 14), (1, u "java/lang/StringUTF16"), (31, u "$assertionsDisabled"), (0, u "Z"), (13, u "HI_BYTE_SHIFT"), (0, u "I"), (2, u "LO_BYTE_SHIFT"), (49, .methodref 12 116), (0, .nameAndType 117 118), (0, u "compress"), (0, u "([CI[BII)I"), (3, u "([CII)[B"), (138, u "coderFromArrayLen"), (0, u "([BI)B"), (106, .class_ 371), (1, u "java/lang/StringUTF16$LinesSpliterator"), (58, u "MAX_LENGTH"), (196, .class_ 628), (0, u "java/lang/StringUTF16$CodePointsSpliterator"), (0, .class_ 630), (0, u "java/lang/StringUTF16$CharsSpliterator")] 4

def k11m0 : Method := { name := "<init>", desc := "()V", sig := { parameters := [], returnType := none }, accessFlags := 0, code := none }
def k11c1 : Code := { maxStack := 2, maxLocals := 2, code := jdk_52_method_15_code, exceptionTable := #[], attributes := #[] }
def k11m1 : Method := { name := "coderFromArrayLen", desc := "([BI)B", sig := { parameters := [(.array .byte), .int], returnType := some .byte }, accessFlags := 8, code := some k11c1 }
def k11c2 : Code := { maxStack := 5, maxLocals := 6, code := jdk_52_method_16_code, exceptionTable := #[], attributes := #[] }
def k11m2 : Method := { name := "compress", desc := "([CII)[B", sig := { parameters := [(.array .char), .int, .int], returnType := some (.array .byte) }, accessFlags := 9, code := some k11c2 }
def k11c3 : Code := { maxStack := 3, maxLocals := 7, code := jdk_52_method_21_code, exceptionTable := #[], attributes := #[] }
def k11m3 : Method := { name := "compress", desc := "([CI[BII)I", sig := { parameters := [(.array .char), .int, (.array .byte), .int, .int], returnType := some .int }, accessFlags := 9, code := some k11c3 }
/-- java/lang/StringUTF16 -/
def k11 : Class := { plain "java/lang/StringUTF16" (some 0) with
  accessFlags := 48
  interfaces := #[]
  cf := some (fileOf pool11 12 #[.nestMembers #[627, 629, 369]] #[{ accessFlags := 0, nameIndex := 9, descriptorIndex := 10, attributes := #[] }, { accessFlags := 8, nameIndex := 261, descriptorIndex := 262, attributes := #[] }, { accessFlags := 9, nameIndex := 117, descriptorIndex := 122, attributes := #[] }, { accessFlags := 9, nameIndex := 117, descriptorIndex := 118, attributes := #[] }] 48 6 #[] #[{ accessFlags := 26, nameIndex := 61, descriptorIndex := 62, attributes := #[] }, { accessFlags := 26, nameIndex := 65, descriptorIndex := 62, attributes := #[] }, { accessFlags := 24, nameIndex := 430, descriptorIndex := 62, attributes := #[] }, { accessFlags := 4120, nameIndex := 46, descriptorIndex := 47, attributes := #[] }])
  fields := #[{ name := "HI_BYTE_SHIFT", type := .int, accessFlags := 26, slot := 0, constantValue := 0 }, { name := "LO_BYTE_SHIFT", type := .int, accessFlags := 26, slot := 1, constantValue := 0 }, { name := "MAX_LENGTH", type := .int, accessFlags := 24, slot := 2, constantValue := 0 }, { name := "$assertionsDisabled", type := .boolean, accessFlags := 4120, slot := 3, constantValue := 0 }]
  methods := #[k11m0, k11m1, k11m2, k11m3]
  instanceTypes := #[]
  staticTypes := #[.int, .int, .int, .boolean]
  resolved := Array.replicate 635 none
  statics := none }

def pool12 : Array CpInfo := pool [(4, .class_ 6), (1, u "java/lang/Object"), (0, u "<init>"), (0, u "()V"), (5, .class_ 16), (1, u "java/lang/StringLatin1"), (73, u "canEncode"), (14, u "(C)Z"), (15, u "$assertionsDisabled"), (0, u "Z"), (98, .class_ 223), (1, u "java/lang/StringLatin1$LinesSpliterator"), (156, u "toBytes"), (1, u "(C)[B"), (7, .class_ 391), (0, u "java/lang/StringLatin1$CharsSpliterator")] 3

def k12m0 : Method := { name := "<init>", desc := "()V", sig := { parameters := [], returnType := none }, accessFlags := 0, code := none }
def k12c1 : Code := { maxStack := 2, maxLocals := 1, code := jdk_43_method_3_code, exceptionTable := #[], attributes := #[] }
def k12m1 : Method := { name := "canEncode", desc := "(C)Z", sig := { parameters := [.char], returnType := some .boolean }, accessFlags := 9, code := some k12c1 }
def k12c2 : Code := { maxStack := 4, maxLocals := 1, code := jdk_43_method_46_code, exceptionTable := #[], attributes := #[] }
def k12m2 : Method := { name := "toBytes", desc := "(C)[B", sig := { parameters := [.char], returnType := some (.array .byte) }, accessFlags := 9, code := some k12c2 }
/-- java/lang/StringLatin1 -/
def k12 : Class := { plain "java/lang/StringLatin1" (some 0) with
  accessFlags := 48
  interfaces := #[]
  cf := some (fileOf pool12 14 #[.nestMembers #[390, 221]] #[{ accessFlags := 0, nameIndex := 7, descriptorIndex := 8, attributes := #[] }, { accessFlags := 9, nameIndex := 90, descriptorIndex := 105, attributes := #[] }, { accessFlags := 9, nameIndex := 380, descriptorIndex := 382, attributes := #[] }] 48 4 #[] #[{ accessFlags := 4120, nameIndex := 121, descriptorIndex := 122, attributes := #[] }])
  fields := #[{ name := "$assertionsDisabled", type := .boolean, accessFlags := 4120, slot := 0, constantValue := 0 }]
  methods := #[k12m0, k12m1, k12m2]
  instanceTypes := #[]
  staticTypes := #[.boolean]
  resolved := Array.replicate 395 none
  statics := none }

def pool13 : Array CpInfo := pool [(2, .class_ 4), (1, u "java/lang/Object"), (0, u "<init>"), (0, u "()V"), (17, .class_ 26), (1, u "jdk/internal/util/Preconditions"), (28, .class_ 56), (0, u "jdk/internal/util/Preconditions$4"), (57, .class_ 115), (0, u "jdk/internal/util/Preconditions$1"), (7, u "SIOOBE_FORMATTER"), (0, u "Ljava/util/function/BiFunction;"), (0, .class_ 126), (0, u "jdk/internal/util/Preconditions$2"), (3, u "AIOOBE_FORMATTER"), (0, .class_ 132), (0, u "jdk/internal/util/Preconditions$3"), (3, u "IOOBE_FORMATTER")] 57

def k13m0 : Method := { name := "<init>", desc := "()V", sig := { parameters := [], returnType := none }, accessFlags := 1, code := none }
/-- jdk/internal/util/Preconditions -/
def k13 : Class := { plain "jdk/internal/util/Preconditions" (some 0) with
  accessFlags := 33
  interfaces := #[]
  cf := some (fileOf pool13 24 #[.nestMembers #[55, 131, 125, 114]] #[{ accessFlags := 1, nameIndex := 5, descriptorIndex := 6, attributes := #[] }] 33 2 #[] #[{ accessFlags := 25, nameIndex := 123, descriptorIndex := 124, attributes := #[] }, { accessFlags := 25, nameIndex := 130, descriptorIndex := 124, attributes := #[] }, { accessFlags := 25, nameIndex := 136, descriptorIndex := 124, attributes := #[] }])
  fields := #[{ name := "SIOOBE_FORMATTER", type := (.object "java/util/function/BiFunction"), accessFlags := 25, slot := 0, constantValue := 0 }, { name := "AIOOBE_FORMATTER", type := (.object "java/util/function/BiFunction"), accessFlags := 25, slot := 1, constantValue := 0 }, { name := "IOOBE_FORMATTER", type := (.object "java/util/function/BiFunction"), accessFlags := 25, slot := 2, constantValue := 0 }]
  methods := #[k13m0]
  instanceTypes := #[]
  staticTypes := #[(.object "java/util/function/BiFunction"), (.object "java/util/function/BiFunction"), (.object "java/util/function/BiFunction")]
  resolved := Array.replicate 194 none
  statics := some 1 }

def pool14 : Array CpInfo := pool [(9, u "<init>"), (6, .class_ 18), (1, u "java/lang/Object"), (0, u "()V"), (1, .class_ 23), (1, u "jdk/internal/util/ArraysSupport"), (0, u "LOG2_ARRAY_LONG_INDEX_SCALE"), (0, u "I"), (2, u "U"), (0, u "Ljdk/internal/misc/Unsafe;"), (8, u "BIG_ENDIAN"), (0, u "Z"), (8, u "LOG2_BYTE_BIT_SIZE"), (4, u "LOG2_ARRAY_INT_INDEX_SCALE"), (54, u "JLA"), (0, u "Ljdk/internal/access/JavaLangAccess;"), (11, u "LOG2_ARRAY_BOOLEAN_INDEX_SCALE"), (9, u "LOG2_ARRAY_BYTE_INDEX_SCALE"), (5, u "LOG2_ARRAY_CHAR_INDEX_SCALE"), (5, u "LOG2_ARRAY_SHORT_INDEX_SCALE"), (18, u "LOG2_ARRAY_FLOAT_INDEX_SCALE"), (24, u "LOG2_ARRAY_DOUBLE_INDEX_SCALE"), (89, u "T_BOOLEAN"), (2, u "T_CHAR"), (1, u "T_FLOAT"), (1, u "T_DOUBLE"), (1, u "T_BYTE"), (1, u "T_SHORT"), (1, u "T_INT"), (1, u "T_LONG"), (1, u "SOFT_MAX_ARRAY_LENGTH")] 83

def k14m0 : Method := { name := "<init>", desc := "()V", sig := { parameters := [], returnType := none }, accessFlags := 2, code := none }
/-- jdk/internal/util/ArraysSupport -/
def k14 : Class := { plain "jdk/internal/util/ArraysSupport" (some 0) with
  accessFlags := 33
  interfaces := #[]
  cf := some (fileOf pool14 21 #[] #[{ accessFlags := 2, nameIndex := 9, descriptorIndex := 19, attributes := #[] }] 33 16 #[] #[{ accessFlags := 24, nameIndex := 28, descriptorIndex := 29, attributes := #[] }, { accessFlags := 26, nameIndex := 38, descriptorIndex := 39, attributes := #[] }, { accessFlags := 25, nameIndex := 121, descriptorIndex := 25, attributes := #[] }, { accessFlags := 25, nameIndex := 131, descriptorIndex := 25, attributes := #[] }, { accessFlags := 25, nameIndex := 137, descriptorIndex := 25, attributes := #[] }, { accessFlags := 25, nameIndex := 143, descriptorIndex := 25, attributes := #[] }, { accessFlags := 25, nameIndex := 53, descriptorIndex := 25, attributes := #[] }, { accessFlags := 25, nameIndex := 24, descriptorIndex := 25, attributes := #[] }, { accessFlags := 25, nameIndex := 162, descriptorIndex := 25, attributes := #[] }, { accessFlags := 25, nameIndex := 187, descriptorIndex := 25, attributes := #[] }, { accessFlags := 26, nameIndex := 48, descriptorIndex := 25, attributes := #[] }, { accessFlags := 25, nameIndex := 277, descriptorIndex := 25, attributes := #[] }, { accessFlags := 25, nameIndex := 280, descriptorIndex := 25, attributes := #[] }, { accessFlags := 25, nameIndex := 282, descriptorIndex := 25, attributes := #[] }, { accessFlags := 25, nameIndex := 284, descriptorIndex := 25, attributes := #[] }, { accessFlags := 25, nameIndex := 286, descriptorIndex := 25, attributes := #[] }, { accessFlags := 25, nameIndex := 288, descriptorIndex := 25, attributes := #[] }, { accessFlags := 25, nameIndex := 290, descriptorIndex := 25, attributes := #[] }, { accessFlags := 25, nameIndex := 292, descriptorIndex := 25, attributes := #[] }, { accessFlags := 26, nameIndex := 108, descriptorIndex := 109, attributes := #[] }, { accessFlags := 25, nameIndex := 294, descriptorIndex := 25, attributes := #[] }])
  fields := #[{ name := "U", type := (.object "jdk/internal/misc/Unsafe"), accessFlags := 24, slot := 0, constantValue := 0 }, { name := "BIG_ENDIAN", type := .boolean, accessFlags := 26, slot := 1, constantValue := 0 }, { name := "LOG2_ARRAY_BOOLEAN_INDEX_SCALE", type := .int, accessFlags := 25, slot := 2, constantValue := 0 }, { name := "LOG2_ARRAY_BYTE_INDEX_SCALE", type := .int, accessFlags := 25, slot := 3, constantValue := 0 }, { name := "LOG2_ARRAY_CHAR_INDEX_SCALE", type := .int, accessFlags := 25, slot := 4, constantValue := 0 }, { name := "LOG2_ARRAY_SHORT_INDEX_SCALE", type := .int, accessFlags := 25, slot := 5, constantValue := 0 }, { name := "LOG2_ARRAY_INT_INDEX_SCALE", type := .int, accessFlags := 25, slot := 6, constantValue := 0 }, { name := "LOG2_ARRAY_LONG_INDEX_SCALE", type := .int, accessFlags := 25, slot := 7, constantValue := 0 }, { name := "LOG2_ARRAY_FLOAT_INDEX_SCALE", type := .int, accessFlags := 25, slot := 8, constantValue := 0 }, { name := "LOG2_ARRAY_DOUBLE_INDEX_SCALE", type := .int, accessFlags := 25, slot := 9, constantValue := 0 }, { name := "LOG2_BYTE_BIT_SIZE", type := .int, accessFlags := 26, slot := 10, constantValue := 0 }, { name := "T_BOOLEAN", type := .int, accessFlags := 25, slot := 11, constantValue := 0 }, { name := "T_CHAR", type := .int, accessFlags := 25, slot := 12, constantValue := 0 }, { name := "T_FLOAT", type := .int, accessFlags := 25, slot := 13, constantValue := 0 }, { name := "T_DOUBLE", type := .int, accessFlags := 25, slot := 14, constantValue := 0 }, { name := "T_BYTE", type := .int, accessFlags := 25, slot := 15, constantValue := 0 }, { name := "T_SHORT", type := .int, accessFlags := 25, slot := 16, constantValue := 0 }, { name := "T_INT", type := .int, accessFlags := 25, slot := 17, constantValue := 0 }, { name := "T_LONG", type := .int, accessFlags := 25, slot := 18, constantValue := 0 }, { name := "JLA", type := (.object "jdk/internal/access/JavaLangAccess"), accessFlags := 26, slot := 19, constantValue := 0 }, { name := "SOFT_MAX_ARRAY_LENGTH", type := .int, accessFlags := 25, slot := 20, constantValue := 0 }]
  methods := #[k14m0]
  instanceTypes := #[]
  staticTypes := #[(.object "jdk/internal/misc/Unsafe"), .boolean, .int, .int, .int, .int, .int, .int, .int, .int, .int, .int, .int, .int, .int, .int, .int, .int, .int, (.object "jdk/internal/access/JavaLangAccess"), .int]
  resolved := Array.replicate 378 none
  statics := none }

def pool15 : Array CpInfo := pool [(1, u "java/lang/Cloneable"), (0, .class_ 1), (0, u "java/lang/Object"), (0, .class_ 3)] 3

/-- java/lang/Cloneable -/
def k15 : Class := { plain "java/lang/Cloneable" (some 0) with
  accessFlags := 1537
  interfaces := #[]
  cf := some (fileOf pool15 2 #[] #[] 1537 4 #[] #[])
  fields := #[]
  methods := #[]
  instanceTypes := #[]
  staticTypes := #[]
  resolved := Array.replicate 8 none
  statics := none }

/-- the primitive byte -/
def k16 : Class := { plain "byte" none with kind := .primitive 'B', accessFlags := 0x411 }
/-- [B -/
def k17 : Class := { plain "[B" (some 0) with kind := .array 16 .byte, interfaces := #[15, 5], accessFlags := 1041 }

/-- the primitive char -/
def k18 : Class := { plain "char" none with kind := .primitive 'C', accessFlags := 0x411 }
/-- [C -/
def k19 : Class := { plain "[C" (some 0) with kind := .array 18 .char, interfaces := #[15, 5], accessFlags := 1041 }

/-- the primitive int -/
def k20 : Class := { plain "int" none with kind := .primitive 'I', accessFlags := 0x411 }
/-- [I -/
def k21 : Class := { plain "[I" (some 0) with kind := .array 20 .int, interfaces := #[15, 5], accessFlags := 1041 }

def heap : Heap := #[{ cls := 10, slots := #[.long 0, .int 1, .null, .int 0, .null, .int 0, .int 0], vm := .statics 10 },
  { cls := 13, slots := #[.null, .null, .null], vm := .statics 13 }]
def classes : Array Class := #[k0, k1, k2, k3, k4, k5, k6, k7, k8, k9, k10, k11, k12, k13, k14, k15, k16, k17, k18, k19, k20, k21]
def interned : List (Array UInt16 × Addr) := []
def slotsUsed : Nat := 10
def theMethod : MethodId := ⟨1, 2⟩
def args0 : Array Value := #[.int 5, .int 5, .int 5, .int 5, .int 5]
def aboutOver (below : List Frame) : State where
  vm := { classes := classes, interned := interned.toArray }
  heap := heap
  slotsUsed := slotsUsed
  threads := #[{ frames := .invoking theMethod args0 :: below }]
def below0 : List Frame := [.native { method := ⟨0, 0⟩, args := #[] }]
def about1 : State := aboutOver below0
def p0 : Program := .bare "" "" ""
def e0 : Env := launch0.env 0 0 0
theorem w_frames : about1.frames = Frame.invoking theMethod args0 :: below0 := rfl
set_option maxRecDepth 65536 in
theorem w_args : argsFit about1.vm theMethod args0 = true := by decide +kernel
set_option maxRecDepth 65536 in
theorem w_heap : heapFits about1 = true := by decide +kernel
set_option maxRecDepth 65536 in
theorem w_runnable : about1.curStatus? = some .runnable := by decide +kernel
set_option maxRecDepth 65536 in
theorem w_alone : about1.alone = true := by decide +kernel
set_option maxRecDepth 65536 in
theorem w_named : about1.methodNamed? x = some theMethod := by decide +kernel
set_option maxRecDepth 65536 in
theorem w_hears : about1.hears theMethod below0 = true := by decide +kernel
set_option maxRecDepth 65536 in
theorem w_ripe : about1.ripe theMethod args0 below0 = true := by decide +kernel
theorem w_running : about1.status = .running := rfl
set_option maxRecDepth 65536 in
theorem w_room : about1.hasRoom e0.platform room_1 = true :=
  launch0.hasRoom_least _ room_1 (by decide +kernel) (by decide +kernel) (by decide +kernel) (by decide +kernel) (by decide +kernel) (by decide +kernel)
theorem allAtoms_all (ts : List Jvm.Cond) (a : Array Jvm.Value) (st : Jvm.State) : (allAtoms ts).before a st = ts.all (fun c => c.before a st) := by
  induction ts with
  | nil => rfl
  | cons c t ih =>
    show (Jvm.Cond.and c (allAtoms t)).before a st = _
    rw [Jvm.Cond.before_and, ih, List.all_cons]
def words1 : List Jvm.Cond := Jvm.Cond.code x code maxLocals ret :: tables_1
/-- a 'code' word, met by the world's own term for the bytes: nothing is compared byte by byte -/
theorem code_word {y : MethodName} {bytes : ByteArray} {mx : Nat} {rt : Option FieldType} {a : Array Value} {s : State} {m : MethodId} {meth : Method} {c : Code} (h1 : s.methodNamed? y = some m) (h2 : s.vm.method? m = some meth) (h3 : meth.code = some c) (h4 : c.code = bytes)
    (h5 : (c.maxLocals == mx && c.exceptionTable.isEmpty && decide (c.maxStack ≤ mostOperands) && decide (meth.sig.returnType = rt) && !meth.locks && decide (parseMethodDescriptor y.desc = some meth.sig)) = true) : (Jvm.Cond.code y bytes mx rt).before a s = true := by
  simp only [Bool.and_eq_true, beq_iff_eq, Bool.not_eq_true', decide_eq_true_eq] at h5
  obtain ⟨⟨⟨⟨⟨g1, g2⟩, g3⟩, g4⟩, g5⟩, g6⟩ := h5
  simp [Cond.before, Cond.holds, Cond.value, h1, h2, h3, h4, g1, g2, g3, g4, g5, g6]
def isCode : Jvm.Cond → Bool
  | .code _ _ _ _ => true
  | _ => false
theorem all_split {L : List Jvm.Cond} {P : Jvm.Cond → Bool} (h1 : L.all (fun c => isCode c || P c) = true) (h2 : ∀ c ∈ L.filter isCode, P c = true) : L.all P = true := by
  refine List.all_eq_true.mpr fun c hc => ?_
  have h := List.all_eq_true.mp h1 c hc
  rcases Bool.eq_false_or_eq_true (isCode c) with hi | hi
  · exact h2 c (List.mem_filter.mpr ⟨hc, hi⟩)
  · simpa [hi] using h
set_option maxRecDepth 65536 in
theorem w_c0 : (Jvm.Cond.code x code maxLocals ret).before args0 about1 = true := code_word (m := ⟨1, 2⟩) (meth := k1m2) (c := k1c2) (by decide +kernel) rfl rfl rfl (by decide +kernel)
set_option maxRecDepth 65536 in
theorem w_c1 : (Jvm.Cond.code ({ cls := "com/example/roundkeeper/roundkeeper/ruleset/segments/FighterTurn385PinLaw", name := "draw", desc := "(II)Ljava/lang/String;" } : Jvm.MethodName) method_2_code (4 : Nat) (Option.some (Jvm.ClassFile.FieldType.object "java/lang/String"))).before args0 about1 = true := code_word (m := ⟨1, 1⟩) (meth := k1m1) (c := k1c1) (by decide +kernel) rfl rfl rfl (by decide +kernel)
set_option maxRecDepth 65536 in
theorem w_c2 : (Jvm.Cond.code ({ cls := "com/example/roundkeeper/roundkeeper/ruleset/segments/Fighter", name := "<init>", desc := "(Ljava/lang/String;Ljava/lang/String;IZI)V" } : Jvm.MethodName) prog_17_method_1_code (6 : Nat) (Option.none : Option Jvm.ClassFile.FieldType)).before args0 about1 = true := code_word (m := ⟨3, 0⟩) (meth := k3m0) (c := k3c0) (by decide +kernel) rfl rfl rfl (by decide +kernel)
set_option maxRecDepth 65536 in
theorem w_c3 : (Jvm.Cond.code ({ cls := "java/lang/Record", name := "<init>", desc := "()V" } : Jvm.MethodName) jdk_30_method_1_code (1 : Nat) (Option.none : Option Jvm.ClassFile.FieldType)).before args0 about1 = true := code_word (m := ⟨2, 0⟩) (meth := k2m0) (c := k2c0) (by decide +kernel) rfl rfl rfl (by decide +kernel)
set_option maxRecDepth 65536 in
theorem w_c4 : (Jvm.Cond.code ({ cls := "java/lang/Object", name := "<init>", desc := "()V" } : Jvm.MethodName) object_method_1_code (1 : Nat) (Option.none : Option Jvm.ClassFile.FieldType)).before args0 about1 = true := code_word (m := ⟨0, 0⟩) (meth := k0m0) (c := k0c0) (by decide +kernel) rfl rfl rfl (by decide +kernel)
set_option maxRecDepth 65536 in
theorem w_c5 : (Jvm.Cond.code ({ cls := "com/example/roundkeeper/roundkeeper/ruleset/segments/Fighter", name := "turn", desc := "()Lcom/example/roundkeeper/roundkeeper/Turn;" } : Jvm.MethodName) prog_17_method_2_code (1 : Nat) (Option.some (Jvm.ClassFile.FieldType.object "com/example/roundkeeper/roundkeeper/Turn"))).before args0 about1 = true := code_word (m := ⟨3, 1⟩) (meth := k3m1) (c := k3c1) (by decide +kernel) rfl rfl rfl (by decide +kernel)
set_option maxRecDepth 65536 in
theorem w_c6 : (Jvm.Cond.code ({ cls := "com/example/roundkeeper/roundkeeper/Turn", name := "<init>", desc := "(Ljava/lang/String;Ljava/lang/String;I)V" } : Jvm.MethodName) prog_3_method_1_code (4 : Nat) (Option.none : Option Jvm.ClassFile.FieldType)).before args0 about1 = true := code_word (m := ⟨4, 0⟩) (meth := k4m0) (c := k4c0) (by decide +kernel) rfl rfl rfl (by decide +kernel)
set_option maxRecDepth 65536 in
theorem w_c7 : (Jvm.Cond.code ({ cls := "com/example/roundkeeper/roundkeeper/Turn", name := "<init>", desc := "(Ljava/lang/String;Ljava/lang/String;IZ)V" } : Jvm.MethodName) prog_3_method_2_code (5 : Nat) (Option.none : Option Jvm.ClassFile.FieldType)).before args0 about1 = true := code_word (m := ⟨4, 1⟩) (meth := k4m1) (c := k4c1) (by decide +kernel) rfl rfl rfl (by decide +kernel)
set_option maxRecDepth 65536 in
theorem w_c8 : (Jvm.Cond.code ({ cls := "com/example/roundkeeper/roundkeeper/Turn", name := "name", desc := "()Ljava/lang/String;" } : Jvm.MethodName) prog_3_method_6_code (1 : Nat) (Option.some (Jvm.ClassFile.FieldType.object "java/lang/String"))).before args0 about1 = true := code_word (m := ⟨4, 2⟩) (meth := k4m2) (c := k4c2) (by decide +kernel) rfl rfl rfl (by decide +kernel)
set_option maxRecDepth 65536 in
theorem w_c9 : (Jvm.Cond.code ({ cls := "com/example/roundkeeper/roundkeeper/Turn", name := "side", desc := "()Ljava/lang/String;" } : Jvm.MethodName) prog_3_method_7_code (1 : Nat) (Option.some (Jvm.ClassFile.FieldType.object "java/lang/String"))).before args0 about1 = true := code_word (m := ⟨4, 3⟩) (meth := k4m3) (c := k4c3) (by decide +kernel) rfl rfl rfl (by decide +kernel)
set_option maxRecDepth 65536 in
theorem w_c10 : (Jvm.Cond.code ({ cls := "com/example/roundkeeper/roundkeeper/Turn", name := "initiative", desc := "()I" } : Jvm.MethodName) prog_3_method_8_code (1 : Nat) (Option.some Jvm.ClassFile.FieldType.int)).before args0 about1 = true := code_word (m := ⟨4, 4⟩) (meth := k4m4) (c := k4c4) (by decide +kernel) rfl rfl rfl (by decide +kernel)
set_option maxRecDepth 65536 in
theorem w_c11 : (Jvm.Cond.code ({ cls := "com/example/roundkeeper/roundkeeper/Turn", name := "simultaneous", desc := "()Z" } : Jvm.MethodName) prog_3_method_9_code (1 : Nat) (Option.some Jvm.ClassFile.FieldType.boolean)).before args0 about1 = true := code_word (m := ⟨4, 5⟩) (meth := k4m5) (c := k4c5) (by decide +kernel) rfl rfl rfl (by decide +kernel)
set_option maxRecDepth 65536 in
theorem w_c12 : (Jvm.Cond.code ({ cls := "java/lang/String", name := "<init>", desc := "([C)V" } : Jvm.MethodName) jdk_42_method_3_code (2 : Nat) (Option.none : Option Jvm.ClassFile.FieldType)).before args0 about1 = true := code_word (m := ⟨10, 1⟩) (meth := k10m1) (c := k10c1) (by decide +kernel) rfl rfl rfl (by decide +kernel)
set_option maxRecDepth 65536 in
theorem w_c13 : (Jvm.Cond.code ({ cls := "java/lang/String", name := "<init>", desc := "([CIILjava/lang/Void;)V" } : Jvm.MethodName) jdk_42_method_149_code (6 : Nat) (Option.none : Option Jvm.ClassFile.FieldType)).before args0 about1 = true := code_word (m := ⟨10, 3⟩) (meth := k10m3) (c := k10c3) (by decide +kernel) rfl rfl rfl (by decide +kernel)
set_option maxRecDepth 65536 in
theorem w_c14 : (Jvm.Cond.code ({ cls := "java/lang/StringUTF16", name := "compress", desc := "([CII)[B" } : Jvm.MethodName) jdk_52_method_16_code (6 : Nat) (Option.some (Jvm.ClassFile.FieldType.array Jvm.ClassFile.FieldType.byte))).before args0 about1 = true := code_word (m := ⟨11, 2⟩) (meth := k11m2) (c := k11c2) (by decide +kernel) rfl rfl rfl (by decide +kernel)
set_option maxRecDepth 65536 in
theorem w_c15 : (Jvm.Cond.code ({ cls := "java/lang/StringUTF16", name := "compress", desc := "([CI[BII)I" } : Jvm.MethodName) jdk_52_method_21_code (7 : Nat) (Option.some Jvm.ClassFile.FieldType.int)).before args0 about1 = true := code_word (m := ⟨11, 3⟩) (meth := k11m3) (c := k11c3) (by decide +kernel) rfl rfl rfl (by decide +kernel)
set_option maxRecDepth 65536 in
theorem w_c16 : (Jvm.Cond.code ({ cls := "java/lang/StringUTF16", name := "coderFromArrayLen", desc := "([BI)B" } : Jvm.MethodName) jdk_52_method_15_code (2 : Nat) (Option.some Jvm.ClassFile.FieldType.byte)).before args0 about1 = true := code_word (m := ⟨11, 1⟩) (meth := k11m1) (c := k11c1) (by decide +kernel) rfl rfl rfl (by decide +kernel)
set_option maxRecDepth 65536 in
theorem w_c17 : (Jvm.Cond.code ({ cls := "java/lang/String", name := "valueOf", desc := "(C)Ljava/lang/String;" } : Jvm.MethodName) jdk_42_method_139_code (1 : Nat) (Option.some (Jvm.ClassFile.FieldType.object "java/lang/String"))).before args0 about1 = true := code_word (m := ⟨10, 2⟩) (meth := k10m2) (c := k10c2) (by decide +kernel) rfl rfl rfl (by decide +kernel)
set_option maxRecDepth 65536 in
theorem w_c18 : (Jvm.Cond.code ({ cls := "java/lang/StringLatin1", name := "canEncode", desc := "(C)Z" } : Jvm.MethodName) jdk_43_method_3_code (1 : Nat) (Option.some Jvm.ClassFile.FieldType.boolean)).before args0 about1 = true := code_word (m := ⟨12, 1⟩) (meth := k12m1) (c := k12c1) (by decide +kernel) rfl rfl rfl (by decide +kernel)
set_option maxRecDepth 65536 in
theorem w_c19 : (Jvm.Cond.code ({ cls := "java/lang/StringLatin1", name := "toBytes", desc := "(C)[B" } : Jvm.MethodName) jdk_43_method_46_code (1 : Nat) (Option.some (Jvm.ClassFile.FieldType.array Jvm.ClassFile.FieldType.byte))).before args0 about1 = true := code_word (m := ⟨12, 2⟩) (meth := k12m2) (c := k12c2) (by decide +kernel) rfl rfl rfl (by decide +kernel)
set_option maxRecDepth 65536 in
theorem w_c20 : (Jvm.Cond.code ({ cls := "java/lang/String", name := "<init>", desc := "([BB)V" } : Jvm.MethodName) jdk_42_method_151_code (3 : Nat) (Option.none : Option Jvm.ClassFile.FieldType)).before args0 about1 = true := code_word (m := ⟨10, 4⟩) (meth := k10m4) (c := k10c4) (by decide +kernel) rfl rfl rfl (by decide +kernel)
def codes1 : List Jvm.Cond := [Jvm.Cond.code x code maxLocals ret, Jvm.Cond.code ({ cls := "com/example/roundkeeper/roundkeeper/ruleset/segments/FighterTurn385PinLaw", name := "draw", desc := "(II)Ljava/lang/String;" } : Jvm.MethodName) method_2_code (4 : Nat) (Option.some (Jvm.ClassFile.FieldType.object "java/lang/String")), Jvm.Cond.code ({ cls := "com/example/roundkeeper/roundkeeper/ruleset/segments/Fighter", name := "<init>", desc := "(Ljava/lang/String;Ljava/lang/String;IZI)V" } : Jvm.MethodName) prog_17_method_1_code (6 : Nat) (Option.none : Option Jvm.ClassFile.FieldType), Jvm.Cond.code ({ cls := "java/lang/Record", name := "<init>", desc := "()V" } : Jvm.MethodName) jdk_30_method_1_code (1 : Nat) (Option.none : Option Jvm.ClassFile.FieldType), Jvm.Cond.code ({ cls := "java/lang/Object", name := "<init>", desc := "()V" } : Jvm.MethodName) object_method_1_code (1 : Nat) (Option.none : Option Jvm.ClassFile.FieldType), Jvm.Cond.code ({ cls := "com/example/roundkeeper/roundkeeper/ruleset/segments/Fighter", name := "turn", desc := "()Lcom/example/roundkeeper/roundkeeper/Turn;" } : Jvm.MethodName) prog_17_method_2_code (1 : Nat) (Option.some (Jvm.ClassFile.FieldType.object "com/example/roundkeeper/roundkeeper/Turn")), Jvm.Cond.code ({ cls := "com/example/roundkeeper/roundkeeper/Turn", name := "<init>", desc := "(Ljava/lang/String;Ljava/lang/String;I)V" } : Jvm.MethodName) prog_3_method_1_code (4 : Nat) (Option.none : Option Jvm.ClassFile.FieldType), Jvm.Cond.code ({ cls := "com/example/roundkeeper/roundkeeper/Turn", name := "<init>", desc := "(Ljava/lang/String;Ljava/lang/String;IZ)V" } : Jvm.MethodName) prog_3_method_2_code (5 : Nat) (Option.none : Option Jvm.ClassFile.FieldType), Jvm.Cond.code ({ cls := "com/example/roundkeeper/roundkeeper/Turn", name := "name", desc := "()Ljava/lang/String;" } : Jvm.MethodName) prog_3_method_6_code (1 : Nat) (Option.some (Jvm.ClassFile.FieldType.object "java/lang/String")), Jvm.Cond.code ({ cls := "com/example/roundkeeper/roundkeeper/Turn", name := "side", desc := "()Ljava/lang/String;" } : Jvm.MethodName) prog_3_method_7_code (1 : Nat) (Option.some (Jvm.ClassFile.FieldType.object "java/lang/String")), Jvm.Cond.code ({ cls := "com/example/roundkeeper/roundkeeper/Turn", name := "initiative", desc := "()I" } : Jvm.MethodName) prog_3_method_8_code (1 : Nat) (Option.some Jvm.ClassFile.FieldType.int), Jvm.Cond.code ({ cls := "com/example/roundkeeper/roundkeeper/Turn", name := "simultaneous", desc := "()Z" } : Jvm.MethodName) prog_3_method_9_code (1 : Nat) (Option.some Jvm.ClassFile.FieldType.boolean), Jvm.Cond.code ({ cls := "java/lang/String", name := "<init>", desc := "([C)V" } : Jvm.MethodName) jdk_42_method_3_code (2 : Nat) (Option.none : Option Jvm.ClassFile.FieldType), Jvm.Cond.code ({ cls := "java/lang/String", name := "<init>", desc := "([CIILjava/lang/Void;)V" } : Jvm.MethodName) jdk_42_method_149_code (6 : Nat) (Option.none : Option Jvm.ClassFile.FieldType), Jvm.Cond.code ({ cls := "java/lang/StringUTF16", name := "compress", desc := "([CII)[B" } : Jvm.MethodName) jdk_52_method_16_code (6 : Nat) (Option.some (Jvm.ClassFile.FieldType.array Jvm.ClassFile.FieldType.byte)), Jvm.Cond.code ({ cls := "java/lang/StringUTF16", name := "compress", desc := "([CI[BII)I" } : Jvm.MethodName) jdk_52_method_21_code (7 : Nat) (Option.some Jvm.ClassFile.FieldType.int), Jvm.Cond.code ({ cls := "java/lang/StringUTF16", name := "coderFromArrayLen", desc := "([BI)B" } : Jvm.MethodName) jdk_52_method_15_code (2 : Nat) (Option.some Jvm.ClassFile.FieldType.byte), Jvm.Cond.code ({ cls := "java/lang/String", name := "valueOf", desc := "(C)Ljava/lang/String;" } : Jvm.MethodName) jdk_42_method_139_code (1 : Nat) (Option.some (Jvm.ClassFile.FieldType.object "java/lang/String")), Jvm.Cond.code ({ cls := "java/lang/StringLatin1", name := "canEncode", desc := "(C)Z" } : Jvm.MethodName) jdk_43_method_3_code (1 : Nat) (Option.some Jvm.ClassFile.FieldType.boolean), Jvm.Cond.code ({ cls := "java/lang/StringLatin1", name := "toBytes", desc := "(C)[B" } : Jvm.MethodName) jdk_43_method_46_code (1 : Nat) (Option.some (Jvm.ClassFile.FieldType.array Jvm.ClassFile.FieldType.byte)), Jvm.Cond.code ({ cls := "java/lang/String", name := "<init>", desc := "([BB)V" } : Jvm.MethodName) jdk_42_method_151_code (3 : Nat) (Option.none : Option Jvm.ClassFile.FieldType)]
set_option maxRecDepth 65536 in
theorem codes_eq : words1.filter isCode = codes1 := rfl
theorem w_codes : ∀ c ∈ words1.filter isCode, c.before args0 about1 = true := by
  rw [codes_eq]
  intro c hc
  simp only [codes1, List.mem_cons, List.not_mem_nil, or_false] at hc
  rcases hc with rfl | rfl | rfl | rfl | rfl | rfl | rfl | rfl | rfl | rfl | rfl | rfl | rfl | rfl | rfl | rfl | rfl | rfl | rfl | rfl | rfl
  · exact w_c0
  · exact w_c1
  · exact w_c2
  · exact w_c3
  · exact w_c4
  · exact w_c5
  · exact w_c6
  · exact w_c7
  · exact w_c8
  · exact w_c9
  · exact w_c10
  · exact w_c11
  · exact w_c12
  · exact w_c13
  · exact w_c14
  · exact w_c15
  · exact w_c16
  · exact w_c17
  · exact w_c18
  · exact w_c19
  · exact w_c20
set_option maxRecDepth 65536 in
theorem w_t1 : (words1.take 24).all (fun c => isCode c || c.before args0 about1) = true := by decide +kernel
set_option maxRecDepth 65536 in
theorem w_t2 : ((words1.drop 24).take 24).all (fun c => isCode c || c.before args0 about1) = true := by decide +kernel
set_option maxRecDepth 65536 in
theorem w_t3 : (((words1.drop 24).drop 24).take 24).all (fun c => isCode c || c.before args0 about1) = true := by decide +kernel
set_option maxRecDepth 65536 in
theorem w_t4 : ((((words1.drop 24).drop 24).drop 24).take 24).all (fun c => isCode c || c.before args0 about1) = true := by decide +kernel
set_option maxRecDepth 65536 in
theorem w_t5 : ((((words1.drop 24).drop 24).drop 24).drop 24).all (fun c => isCode c || c.before args0 about1) = true := by decide +kernel
theorem w_tables : (allAtoms (Jvm.Cond.code x code maxLocals ret :: tables_1)).before args0 about1 = true := by
  rw [allAtoms_all]
  show words1.all (fun c => c.before args0 about1) = true
  refine all_split ?_ w_codes
  rw [← List.take_append_drop 24 words1, List.all_append, w_t1, ← List.take_append_drop 24 (words1.drop 24), List.all_append, w_t2, ← List.take_append_drop 24 ((words1.drop 24).drop 24), List.all_append, w_t3, ← List.take_append_drop 24 (((words1.drop 24).drop 24).drop 24), List.all_append, w_t4, w_t5]
  rfl
set_option maxRecDepth 65536 in
theorem w_rest : rest_1_c.before args0 about1 = true := by decide +kernel
set_option maxRecDepth 65536 in
theorem w_case : (Jvm.Cond.and given_1 narrow_1).before args0 about1 = true := by decide +kernel
theorem w_applies : (headSpec (Jvm.Cond.code x code maxLocals ret :: tables_1) room_1).applies x e0.platform about1 = true :=
  (Spec.applies_iff w_frames).mpr ⟨w_running, w_runnable, w_alone, w_named, w_hears, w_ripe, w_room, w_tables⟩
theorem atStart : AtStart classFile x code maxLocals ret World_1 tables_1 room_1 Calls_1 rest_1 Pre_1 launch0 p0 e0 about1 theMethod args0 below0 :=
  ⟨lists_1, trivial, launch0.admits_env _ _ _, launch0.least_env, fairChoices_fair.cas, fairChoices_fair.clock, w_frames, w_args, w_heap, w_applies, trivial, w_rest, w_case⟩
end start1
theorem witness_1 : WitnessClaimed_1 := ⟨start1.p0, start1.e0, start1.about1, start1.theMethod, start1.args0, start1.below0, start1.atStart⟩
end Jvm.Pilot.@@N@@
