import JvmDerived
import JvmDerived.Pilot.@@N@@Statement
import JvmDerived.Pilot.@@N@@Code
set_option linter.unusedVariables false
set_option linter.unusedSimpArgs false
namespace Jvm.RoadKit
open Sem ClassFile Op Lib Jvm.Stand Jvm.Free Jvm.LawKit
section Own
variable {p : Program} {l : Launch} {e : Env} {R : Room} {s : State} {m : MethodId} {args : Array Value} {below : List Frame} {meth : Method} {c : Code} {T : State} {locs : List Loc} {cells slots : Nat}
theorem retI (X : Stand p l e R s m args below meth c T locs cells slots) (hx : p.tables.exec = Jvm.exec) {pc : Nat} {Ls : Array Slot} {z : Int32} {rest : List Value} (hret : meth.sig.returnType = some .int) (hd : decode c.code pc = .ok (.ireturn, 1)) {fs : List Frame}
    (hl : ∀ (f : JFrame) (acts : List Action), f.method = m → f.locked = none → f.entered = [] → (doReturn e (T.setTop f) acts (some (.int z))).1 = T.setFrames fs) : Steps p.tables e below (T.setTop (mkF m pc Ls (.int z :: rest))) (T.setFrames fs) :=
  retOut X hx hret rfl (Or.inl ⟨rfl, Or.inl rfl, _, rfl⟩) hd hl
variable {Q : Option Value → Heap → List Loc → Prop} {kc ks : Nat} {S S' : State}
section H
variable {Z : State} {EL : List (String × Nat)} {QH : Option Value → Heap → List Loc → (Addr → Prop) → Prop} {a0 : Array Value} {h : Heap} {vm0 : Vm}
/-- a callee that may intern, at a site: what is Safe there goes in, what is Safe at its end comes out -/
theorem backOfY {y : MethodName} {bytes : ByteArray} {maxL : Nat} {ret : Option FieldType} {rm : Room} {len W : Nat} {as' : Array Value} {sf : List Addr}
    (hM : MetFree l y (head1 [Cond.code y bytes maxL ret] rm) (fun a U => a = as' ∧ Z.Warmed39 U.vm ∧ U.heap = h ∧ CHv Z EL U.vm h ∧ ∀ x ∈ sf, Safe Z EL U.vm h x) (fun _ _ _ _ _ => True) (fun _ U o U' => ∃ v L, o = .returned v ∧ QH v U'.heap L (Safe Z EL U'.vm U'.heap) ∧ CHr Z EL U.vm U.heap U'.vm U'.heap ∧ ReturnedEndW U o U' L rm.cells rm.slots))
    (hZ : Z.Warmed39 vm0) (wc : (Cond.code y bytes maxL ret).before a0 Z = true) (wz : (Cond.initialized y.cls).before a0 Z = true) (hf : rm.frames + 1 ≤ R.frames) (hl : W + (maxL + 11) + rm.locals ≤ R.locals) (hEL : EW Z a0 EL) (H : CHv Z EL vm0 h) (hs : ∀ x ∈ sf, Safe Z EL vm0 h x) (hlt : ∀ x ∈ sf, x < h.size) :
    BackS l R p e below (s.setVm vm0) args y len W (fun A a => a = as' ∧ A.U.heap = h ∧ A.cells + rm.cells ≤ R.cells ∧ A.slots + rm.slots ≤ R.slots)
      (fun A _ v B => ∃ L, QH v B.U.heap L (Safe Z EL B.U.vm B.U.heap) ∧ B.locs = A.locs ++ L ∧ B.cells = A.cells + rm.cells ∧ B.slots = A.slots + rm.slots ∧ CHr Z EL vm0 h B.U.vm B.U.heap) := by
  refine BackS.of_freeW (bytes := bytes) (maxL := maxL) (ret := ret) (E := fun _ first o t L k n => k = rm.cells ∧ n = rm.slots ∧ (∃ v, o = .returned v ∧ QH v t.heap L (Safe Z EL t.vm t.heap)) ∧ CHr Z EL first.vm first.heap t.vm t.heap) hM hf hl ?_ ?_ (fun _ _ _ _ _ _ _ _ _ => trivial) ?_ ?_
  · intro m meth c A a Y hp
    have hU : Z.Warmed39 A.U.vm := wtrans (s := s.setVm vm0) hZ Y.warmed
    exact ⟨by show (Cond.and _ .tt).before a A.U = true; rw [Cond.before_and, mv hU wc]; rfl, mv hU wc, mv hU wz, hp.2.2.1, hp.2.2.2⟩
  · intro m meth c A a g mk Y hp
    have q := CHv.at Y hZ hEL H
    exact ⟨hp.1, wtrans (s := s.setVm vm0) hZ Y.warmed, hp.2.1, q.1, fun x hx => q.safe (hlt x hx) (hs x hx)⟩
  · rintro _ _ _ _ ⟨v, L, h1, h2, h3, h4⟩
    exact ⟨L, _, _, h4, rfl, rfl, ⟨v, h1, h2⟩, h3⟩
  · rintro m meth c A a g mk v t L k n Y hp - - ⟨e1, e2, ⟨v', e3, e4⟩, e5⟩
    cases e3; subst e1 e2
    refine ⟨L, e4, rfl, rfl, rfl, (CHv.at Y hZ hEL H).trans ?_⟩
    rw [← hp.2.1]; exact e5
end H
theorem own_len {Z : State} {args : Array Value} {t : Term} {a : Addr} {c : Cell} {ty : FieldType} {z : Int32} (ev : t.eval args Z none [] Z = some (.ref a)) (A : Arr Z Z.heap a c ty) (h : (Cond.eq (.length t) (.int z)).value args Z none Z [] = some true) : c.slots.size < 2 ^ 31 ∧ c.slots.size.toInt32 = z := by
  have ha := A.fin (U := Z) (Vm.Alike.refl _)
  by_cases q : c.slots.size < 2 ^ 31
  · exact ⟨q, gotT (Cond.eq_ints (len_f ev ha q) (Term.int_eval z)) h⟩
  · simp [Cond.value, Term.eval, ev, ha, q] at h
theorem own_narref {t : FieldType} {w : Value} (h : w.isRef = true) : narrow t w = w := by
  rcases XT.refc h with rfl | ⟨r, rfl⟩ <;> cases t <;> rfl
theorem own_fitsref {t : FieldType} {w : Value} (ht : t.isReference = true) (h : w.isRef = true) : fits t w = true := by
  rcases XT.refc h with rfl | ⟨r, rfl⟩ <;> cases t <;> first | rfl | (cases ht)
theorem nar_c (x : Int32) : nar .char x.toUInt32.toUInt16.toUInt32.toInt32 = x.toUInt32.toUInt16.toUInt32.toInt32 := by
  have := XT.narrow_c x
  simpa [narrow, nar] using this
theorem nar_b (x : Int32) : nar .byte x.toInt8.toInt32 = x.toInt8.toInt32 := by
  have := XT.narrow_b x
  simpa [narrow, nar] using this
theorem nar_ite {P : Prop} [Decidable P] : nar .boolean (if P then (1 : Int32) else 0) = (if P then (1 : Int32) else 0) := by split <;> decide
theorem nar_ite' {P : Prop} [Decidable P] : nar .boolean (if P then (0 : Int32) else 1) = (if P then (0 : Int32) else 1) := by split <;> decide
theorem narrow_nar {t : FieldType} {z : Int32} (ht : t = .boolean ∨ t = .byte ∨ t = .char ∨ t = .short) (h : nar t z = z) : narrow t (.int z) = .int z := by
  have hn : narrow t (.int z) = .int (nar t z) := by rcases ht with rfl | rfl | rfl | rfl <;> rfl
  rw [hn, h]
end Own
/-- the run that stands in S ends as E says -/
def Runs (p : Program) (e : Env) (below : List Frame) (E : State → Outcome → Prop) (S : State) : Prop :=
  ∃ s₂ o, Steps p.tables e below S s₂ ∧ s₂.status = .running ∧ Ended s₂ below o ∧ E s₂ o
theorem Runs.by {p : Program} {e : Env} {below : List Frame} {E : State → Outcome → Prop} {S S' : State} (k : Runs p e below E S') (st : ∀ t, Steps p.tables e below S' t → Steps p.tables e below S t) : Runs p e below E S := by
  obtain ⟨s₂, o, h1, h2⟩ := k
  exact ⟨s₂, o, st _ h1, h2⟩
theorem Runs.tr {p : Program} {e : Env} {below : List Frame} {E : State → Outcome → Prop} {S S' : State} (k : Runs p e below E S') (st : Steps p.tables e below S S') : Runs p e below E S := by
  obtain ⟨s₂, o, h1, h2⟩ := k
  exact ⟨s₂, o, st.trans h1, h2⟩
def EndN (s : State) (Q : Option Value → Heap → List Loc → Prop) (kc ks : Nat) : State → Outcome → Prop := fun s₂ o => ∃ v L, o = .returned v ∧ Q v s₂.heap L ∧ FrameEnd s o s₂ L kc ks
def EndH (s Z : State) (EL : List (String × Nat)) (Q : Option Value → Heap → List Loc → (Addr → Prop) → Prop) (kc ks : Nat) : State → Outcome → Prop := fun s₂ o => ∃ v L, o = .returned v ∧ Q v s₂.heap L (Safe Z EL s₂.vm s₂.heap) ∧ CHr Z EL s.vm s.heap s₂.vm s₂.heap ∧ ReturnedEndW s o s₂ L kc ks
section W
variable {p : Program} {l : Launch} {e : Env} {Rm : Room} {s : State} {m : MethodId} {args : Array Value} {below : List Frame} {meth : Method} {c : Code} {T : State} {locs : List Loc} {cells slots : Nat} {E : State → Outcome → Prop} {pc pc' : Nat} {Ls : Array Slot} {st : List Value}
theorem w_done (X : Stand p l e Rm s m args below meth c T locs cells slots) (hlk : meth.locks = false) {Q : Option Value → Heap → List Loc → Prop} {kc ks : Nat} {h : Heap} {v : Option Value} {g : JFrame} (eT : T.heap = h) (hv : meth.sig.returnType = none → v = none)
    (hr : ∀ fs, (∀ (f : JFrame) (acts : List Action), f.method = m → f.locked = none → f.entered = [] → (doReturn e (T.setTop f) acts v).1 = T.setFrames fs) → Steps p.tables e below (T.setTop g) (T.setFrames fs)) (hc : cells ≤ kc) (hn : slots ≤ ks) (hQ : Q v h locs) : Runs p e below (EndN s Q kc ks) (T.setTop g) := by
  obtain ⟨fs, h1, hrun, hended, hW, hsame⟩ := X.leave hv hlk
  subst eT
  exact ⟨_, _, hr fs h1, hrun, hended, v, locs, rfl, hQ, ⟨_, rfl⟩, hW, hsame.mono hc hn⟩
theorem w_doneH {vm₁ : Vm} (X : Stand p l e Rm (s.setVm vm₁) m args below meth c T locs cells slots) (hlk : meth.locks = false) {Z : State} {a0 : Array Value} {EL : List (String × Nat)} {Q : Option Value → Heap → List Loc → (Addr → Prop) → Prop} {kc ks k0 : Nat} {h h0 : Heap} {v : Option Value} {g : JFrame} (eT : T.heap = h) (hh : s.heap = h0) (hZ : Z.Warmed39 vm₁) (hEL : EW Z a0 EL) (hS : s.Since vm₁ k0) (hk : k0 ≤ h.size) (C : CHr Z EL s.vm h0 vm₁ h) (hv : meth.sig.returnType = none → v = none)
    (hr : ∀ fs, (∀ (f : JFrame) (acts : List Action), f.method = m → f.locked = none → f.entered = [] → (doReturn e (T.setTop f) acts v).1 = T.setFrames fs) → Steps p.tables e below (T.setTop g) (T.setFrames fs)) (hc : cells ≤ kc) (hn : slots ≤ ks) (hQ : (∀ x, x < h.size → Safe Z EL vm₁ h x → Safe Z EL T.vm h x) → Q v h locs (Safe Z EL T.vm h)) : Runs p e below (EndH s Z EL Q kc ks) (T.setTop g) := by
  subst eT hh
  obtain ⟨fs, h1, hrun, hended, q1, q2, q3, q4⟩ := X.leaveW hS hk hv hlk
  have A := CHv.at X hZ hEL C.1
  exact ⟨_, _, hr fs h1, hrun, hended, v, locs, rfl, hQ (fun x hx S => A.safe hx S), C.trans A, q1, q2, q3, q4.mono hc hn⟩
theorem w_aload (X : Stand p l e Rm s m args below meth c T locs cells slots) (hx : p.tables.exec = Jvm.exec) {k : Nat} {v : Value} (hd : decode c.code pc = .ok (.aload k, 2)) (hl : Ls[k]? = some (.val v)) (hv : v.isRef = true) (hp : pc + 2 = pc') (K : Runs p e below E (T.setTop (mkF m pc' Ls (v :: st)))) : Runs p e below E (T.setTop (mkF m pc Ls st)) := by
  subst hp; exact K.by fun _ k => XS.aload X.here hx rfl hd hl hv k
theorem w_aloadN (X : Stand p l e Rm s m args below meth c T locs cells slots) (hx : p.tables.exec = Jvm.exec) {k : Fin 4} {v : Value} (hd : decode c.code pc = .ok (.aload_n k, 1)) (hl : Ls[k.val]? = some (.val v)) (hv : v.isRef = true) (hp : pc + 1 = pc') (K : Runs p e below E (T.setTop (mkF m pc' Ls (v :: st)))) : Runs p e below E (T.setTop (mkF m pc Ls st)) := by
  subst hp; exact K.by fun _ k => XS.aloadN X.here hx rfl hd hl hv k
theorem w_iload (X : Stand p l e Rm s m args below meth c T locs cells slots) (hx : p.tables.exec = Jvm.exec) {k : Nat} {v : Int32} (hd : decode c.code pc = .ok (.iload k, 2)) (hl : Ls[k]? = some (.val (.int v))) (hp : pc + 2 = pc') (K : Runs p e below E (T.setTop (mkF m pc' Ls (.int v :: st)))) : Runs p e below E (T.setTop (mkF m pc Ls st)) := by
  subst hp; exact K.by fun _ k => XS.iload X.here hx rfl hd hl k
theorem w_iloadN (X : Stand p l e Rm s m args below meth c T locs cells slots) (hx : p.tables.exec = Jvm.exec) {k : Fin 4} {v : Int32} (hd : decode c.code pc = .ok (.iload_n k, 1)) (hl : Ls[k.val]? = some (.val (.int v))) (hp : pc + 1 = pc') (K : Runs p e below E (T.setTop (mkF m pc' Ls (.int v :: st)))) : Runs p e below E (T.setTop (mkF m pc Ls st)) := by
  subst hp; exact K.by fun _ k => XS.iloadN X.here hx rfl hd hl k
theorem w_istore (X : Stand p l e Rm s m args below meth c T locs cells slots) (hx : p.tables.exec = Jvm.exec) {k : Nat} {x : Int32} {L' : Array Slot} (hd : decode c.code pc = .ok (.istore k, 2)) (hl : storeLocals Ls k (.int x) = some L') (hp : pc + 2 = pc') (K : Runs p e below E (T.setTop (mkF m pc' L' st))) : Runs p e below E (T.setTop (mkF m pc Ls (.int x :: st))) := by
  subst hp; exact K.by fun _ k => XS.istore X.here hx rfl hd rfl hl k
theorem w_astore (X : Stand p l e Rm s m args below meth c T locs cells slots) (hx : p.tables.exec = Jvm.exec) {k : Nat} {x : Value} {L' : Array Slot} (hd : decode c.code pc = .ok (.astore k, 2)) (hv : x.isRef = true) (hl : storeLocals Ls k x = some L') (hp : pc + 2 = pc') (K : Runs p e below E (T.setTop (mkF m pc' L' st))) : Runs p e below E (T.setTop (mkF m pc Ls (x :: st))) := by
  subst hp; exact K.by fun _ k => XS.astore X.here hx rfl hd rfl hv hl k
theorem w_iconst (X : Stand p l e Rm s m args below meth c T locs cells slots) (hx : p.tables.exec = Jvm.exec) {i : Int} {v : Int32} (hd : decode c.code pc = .ok (.iconst i, 1)) (hv : Int32.ofInt i = v) (hp : pc + 1 = pc') (K : Runs p e below E (T.setTop (mkF m pc' Ls (.int v :: st)))) : Runs p e below E (T.setTop (mkF m pc Ls st)) := by
  subst hp; exact K.by fun _ k => XT.iconstV X.here hx rfl v hd hv k
theorem w_bipush (X : Stand p l e Rm s m args below meth c T locs cells slots) (hx : p.tables.exec = Jvm.exec) {i : Int} {v : Int32} (hd : decode c.code pc = .ok (.bipush i, 2)) (hv : (Int8.ofInt i).toInt32 = v) (hp : pc + 2 = pc') (K : Runs p e below E (T.setTop (mkF m pc' Ls (.int v :: st)))) : Runs p e below E (T.setTop (mkF m pc Ls st)) := by
  subst hp; exact K.by fun _ k => XT.bipushV X.here hx rfl v hd hv k
theorem w_sipush (X : Stand p l e Rm s m args below meth c T locs cells slots) (hx : p.tables.exec = Jvm.exec) {i : Int} {v : Int32} (hd : decode c.code pc = .ok (.sipush i, 3)) (hv : (Int16.ofInt i).toInt32 = v) (hp : pc + 3 = pc') (K : Runs p e below E (T.setTop (mkF m pc' Ls (.int v :: st)))) : Runs p e below E (T.setTop (mkF m pc Ls st)) := by
  subst hp; exact K.by fun _ k => XT.sipushV X.here hx rfl v hd hv k
theorem w_null (X : Stand p l e Rm s m args below meth c T locs cells slots) (hx : p.tables.exec = Jvm.exec)  (hd : decode c.code pc = .ok (.aconst_null, 1))  (hp : pc + 1 = pc') (K : Runs p e below E (T.setTop (mkF m pc' Ls (.null :: st)))) : Runs p e below E (T.setTop (mkF m pc Ls st)) := by
  subst hp; exact K.by fun _ k => XS.aconstNull X.here hx rfl hd k
theorem w_iand (X : Stand p l e Rm s m args below meth c T locs cells slots) (hx : p.tables.exec = Jvm.exec) {x y : Int32} (hd : decode c.code pc = .ok (.iand, 1))  (hp : pc + 1 = pc') (K : Runs p e below E (T.setTop (mkF m pc' Ls (.int (x &&& y) :: st)))) : Runs p e below E (T.setTop (mkF m pc Ls (.int y :: .int x :: st))) := by
  subst hp; exact K.by fun _ k => XS.iand X.here hx rfl hd rfl k
theorem w_i2b (X : Stand p l e Rm s m args below meth c T locs cells slots) (hx : p.tables.exec = Jvm.exec) {x : Int32} (hd : decode c.code pc = .ok (.i2b, 1))  (hp : pc + 1 = pc') (K : Runs p e below E (T.setTop (mkF m pc' Ls (.int (x.toInt8.toInt32) :: st)))) : Runs p e below E (T.setTop (mkF m pc Ls (.int x :: st))) := by
  subst hp; exact K.by fun _ k => XS.i2b X.here hx rfl hd rfl k
theorem w_i2c (X : Stand p l e Rm s m args below meth c T locs cells slots) (hx : p.tables.exec = Jvm.exec) {x : Int32} (hd : decode c.code pc = .ok (.i2c, 1))  (hp : pc + 1 = pc') (K : Runs p e below E (T.setTop (mkF m pc' Ls (.int (x.toUInt32.toUInt16.toUInt32.toInt32) :: st)))) : Runs p e below E (T.setTop (mkF m pc Ls (.int x :: st))) := by
  subst hp; exact K.by fun _ k => XS.i2c X.here hx rfl hd rfl k
theorem w_ishr (X : Stand p l e Rm s m args below meth c T locs cells slots) (hx : p.tables.exec = Jvm.exec) {x y : Int32} (hd : decode c.code pc = .ok (.ishr, 1))  (hp : pc + 1 = pc') (K : Runs p e below E (T.setTop (mkF m pc' Ls (.int (x >>> (y &&& 31)) :: st)))) : Runs p e below E (T.setTop (mkF m pc Ls (.int y :: .int x :: st))) := by
  subst hp; exact K.by fun _ k => XS.ishr X.here hx rfl hd rfl k
theorem w_dup (X : Stand p l e Rm s m args below meth c T locs cells slots) (hx : p.tables.exec = Jvm.exec) {x : Value} (hd : decode c.code pc = .ok (.dup, 1)) (hc : x.category = 1) (hp : pc + 1 = pc') (K : Runs p e below E (T.setTop (mkF m pc' Ls (x :: x :: st)))) : Runs p e below E (T.setTop (mkF m pc Ls (x :: st))) := by
  subst hp; exact K.by fun _ k => XS.dup X.here hx rfl hd rfl hc k
theorem w_goto (X : Stand p l e Rm s m args below meth c T locs cells slots) (hx : p.tables.exec = Jvm.exec) {o : Int} (hd : decode c.code pc = .ok (.goto o, 3))  (ho : 0 ≤ (pc : Int) + o) (hp : ((pc : Int) + o).toNat = pc') (K : Runs p e below E (T.setTop (mkF m pc' Ls st))) : Runs p e below E (T.setTop (mkF m pc Ls st)) := by
  exact K.by fun _ k => XS.goto X.here hx rfl rfl hd ho hp k
theorem w_ifY (X : Stand p l e Rm s m args below meth c T locs cells slots) (hx : p.tables.exec = Jvm.exec) {cd : ClassFile.Cond} {x : Int32} {o : Int} (hd : decode c.code pc = .ok (.ifCond cd o, 3)) (hc : if_icmp.holds cd x 0 = true) (ho : 0 ≤ (pc : Int) + o) (hp : ((pc : Int) + o).toNat = pc') (K : Runs p e below E (T.setTop (mkF m pc' Ls st))) : Runs p e below E (T.setTop (mkF m pc Ls (.int x :: st))) := by
  exact K.by fun _ k => XS.ifYes X.here hx rfl rfl hd rfl ((if0 _ _).trans hc) ho hp k
theorem w_ifN (X : Stand p l e Rm s m args below meth c T locs cells slots) (hx : p.tables.exec = Jvm.exec) {cd : ClassFile.Cond} {x : Int32} {o : Int} (hd : decode c.code pc = .ok (.ifCond cd o, 3)) (hc : if_icmp.holds cd x 0 = false) (hp : pc + 3 = pc') (K : Runs p e below E (T.setTop (mkF m pc' Ls st))) : Runs p e below E (T.setTop (mkF m pc Ls (.int x :: st))) := by
  subst hp; exact K.by fun _ k => XS.ifNo X.here hx rfl hd rfl ((if0 _ _).trans hc) k
theorem w_icY (X : Stand p l e Rm s m args below meth c T locs cells slots) (hx : p.tables.exec = Jvm.exec) {cd : ClassFile.Cond} {x y : Int32} {o : Int} (hd : decode c.code pc = .ok (.if_icmp cd o, 3)) (hc : if_icmp.holds cd x y = true) (ho : 0 ≤ (pc : Int) + o) (hp : ((pc : Int) + o).toNat = pc') (K : Runs p e below E (T.setTop (mkF m pc' Ls st))) : Runs p e below E (T.setTop (mkF m pc Ls (.int y :: .int x :: st))) := by
  exact K.by fun _ k => XS.icmpYes X.here hx rfl rfl hd rfl hc ho hp k
theorem w_icN (X : Stand p l e Rm s m args below meth c T locs cells slots) (hx : p.tables.exec = Jvm.exec) {cd : ClassFile.Cond} {x y : Int32} {o : Int} (hd : decode c.code pc = .ok (.if_icmp cd o, 3)) (hc : if_icmp.holds cd x y = false) (hp : pc + 3 = pc') (K : Runs p e below E (T.setTop (mkF m pc' Ls st))) : Runs p e below E (T.setTop (mkF m pc Ls (.int y :: .int x :: st))) := by
  subst hp; exact K.by fun _ k => XS.icmpNo X.here hx rfl hd rfl hc k
theorem w_ifnullY (X : Stand p l e Rm s m args below meth c T locs cells slots) (hx : p.tables.exec = Jvm.exec) {o : Int} (hd : decode c.code pc = .ok (.ifnull o, 3))  (ho : 0 ≤ (pc : Int) + o) (hp : ((pc : Int) + o).toNat = pc') (K : Runs p e below E (T.setTop (mkF m pc' Ls st))) : Runs p e below E (T.setTop (mkF m pc Ls (.null :: st))) := by
  exact K.by fun _ k => XS.ifnullYes X.here hx rfl rfl hd rfl ho hp k
theorem w_ifnonnullN (X : Stand p l e Rm s m args below meth c T locs cells slots) (hx : p.tables.exec = Jvm.exec) {o : Int} (hd : decode c.code pc = .ok (.ifnonnull o, 3))  (hp : pc + 3 = pc') (K : Runs p e below E (T.setTop (mkF m pc' Ls st))) : Runs p e below E (T.setTop (mkF m pc Ls (.null :: st))) := by
  subst hp; exact K.by fun _ k => XS.ifnonnullNo X.here hx rfl hd rfl k
theorem w_acmp (X : Stand p l e Rm s m args below meth c T locs cells slots) (hx : p.tables.exec = Jvm.exec) {cd : ACond} {x y : Value} {o : Int} {same : Bool} (hd : decode c.code pc = .ok (.if_acmp cd o, 3)) (h1 : x.isRef = true) (h2 : y.isRef = true) (hq : decide (x = y) = same) (ho : 0 ≤ (pc : Int) + o) (hp : pc' = if acV cd same = true then ((pc : Int) + o).toNat else pc + 3) (K : Runs p e below E (T.setTop (mkF m pc' Ls st))) : Runs p e below E (T.setTop (mkF m pc Ls (y :: x :: st))) := by
  exact K.by fun _ k => Jvm.RoadKit.acmp (g := mkF m pc Ls _) X hx rfl h1 h2 rfl hd rfl hq ho hp k
theorem w_tswIn (X : Stand p l e Rm s m args below meth c T locs cells slots) (hx : p.tables.exec = Jvm.exec) {dflt low high : Int} {offs : Array Int} {len : Nat} {o : Int} {i : Int32} (hd : decode c.code pc = .ok (.tableswitch dflt low high offs, len)) (hin : ¬ (i.toInt < low ∨ i.toInt > high)) (hoff : offs[(i.toInt - low).toNat]? = some o) (ho : 0 ≤ (pc : Int) + o) (hp : ((pc : Int) + o).toNat = pc') (K : Runs p e below E (T.setTop (mkF m pc' Ls st))) : Runs p e below E (T.setTop (mkF m pc Ls (.int i :: st))) := by
  exact K.by fun _ k => XS.tswIn X.here hx rfl rfl hd rfl hin hoff ho hp k
theorem w_getF (X : Stand p l e Rm s m args below meth c T locs cells slots) (hx : p.tables.exec = Jvm.exec) {Z : State} {a0 : Array Value} {h : Heap} {own R0 O n d : String} (host : String) {index : Nat} {a : Addr} {v : Value} (hZ : Z.Warmed39 s.vm) (hown : s.vm.findClass own = some m.cls) (w : (Cond.fieldLink own index R0 n d).before a0 Z = true ∨ (Cond.fieldLinkNest own index R0 n d host).before a0 Z = true) (via : Via Z R0 O n d) (eT : T.heap = h) (F : Fld Z h a O n d v) (hd : decode c.code pc = .ok (.getfield index, 3)) (hp : pc + 3 = pc') (K : ∀ T' : State, Stand p l e Rm s m args below meth c T' locs cells slots → T'.heap = h → Runs p e below E (T'.setTop (mkF m pc' Ls (v :: st)))) : Runs p e below E (T.setTop (mkF m pc Ls (.ref a :: st))) := by
  subst hp
  obtain ⟨T1, X1, e1, st1⟩ := getF X hx hZ hown (host := host) w via eT F (g := mkF m pc Ls (.ref a :: st)) rfl rfl hd
  exact (K T1 X1 e1).by st1
theorem w_getS (X : Stand p l e Rm s m args below meth c T locs cells slots) (hx : p.tables.exec = Jvm.exec) {Z : State} {a0 : Array Value} {h : Heap} {own R0 O n d : String} (host : String) {index : Nat} {v : Value} (hZ : Z.Warmed39 s.vm) (hown : s.vm.findClass own = some m.cls) (w : (Cond.fieldLink own index R0 n d).before a0 Z = true ∨ (Cond.fieldLinkNest own index R0 n d host).before a0 Z = true) (via : Via Z R0 O n d) (eT : T.heap = h) (F : Sta Z h O n d v) (hd : decode c.code pc = .ok (.getstatic index, 3)) (hp : pc + 3 = pc') (K : ∀ T' : State, Stand p l e Rm s m args below meth c T' locs cells slots → T'.heap = h → Runs p e below E (T'.setTop (mkF m pc' Ls (v :: st)))) : Runs p e below E (T.setTop (mkF m pc Ls st)) := by
  subst hp
  obtain ⟨T1, X1, e1, st1⟩ := getS2 X hx hZ hown (host := host) w via eT F (g := mkF m pc Ls st) rfl hd
  exact (K T1 X1 e1).by st1
theorem w_putF (X : Stand p l e Rm s m args below meth c T locs cells slots) (hx : p.tables.exec = Jvm.exec) {Z : State} {a0 : Array Value} {h : Heap} {own R0 O n d C : String} (host : String) {index kk : Nat} {ty : FieldType} {a : Addr} {v old : Value} (hZ : Z.Warmed39 s.vm) (hown : s.vm.findClass own = some m.cls) (w : (Cond.fieldLink own index R0 n d).before a0 Z = true ∨ (Cond.fieldLinkNest own index R0 n d host).before a0 Z = true) (via : Via Z R0 O n d) (eT : T.heap = h) (F : Fld Z h a O n d old) (Ex : Exa Z h a C) (Ly : (Cond.lays C O n d).before a0 Z = true ∨ ((Cond.laysFinal C O n d).before a0 Z = true ∧ own = O ∧ meth.name = "<init>")) (wi : (Cond.instantiable C kk).before a0 Z = true) (hty : parseFieldDescriptor d = some ty) (hn : narrow ty v = v) (hf : fits ty v = true) (hd : decode c.code pc = .ok (.putfield index, 3)) (hp : pc + 3 = pc') (K : ∀ (T' : State) (h' : Heap), Stand p l e Rm s m args below meth c T' (locs ++ [⟨a, slotOf Z O n d⟩]) cells slots → T'.heap = h' → Wr h h' a (slotOf Z O n d) v → Runs p e below E (T'.setTop (mkF m pc' Ls st))) : Runs p e below E (T.setTop (mkF m pc Ls (v :: .ref a :: st))) := by
  subst hp
  obtain ⟨T1, h1, X1, e1, W1, st1⟩ := putF X hx hZ hown (host := host) w via eT F Ex Ly wi hty hn hf (g := mkF m pc Ls (v :: .ref a :: st)) rfl rfl hd
  exact (K T1 h1 X1 e1 W1).by st1
theorem w_new (X : Stand p l e Rm s m args below meth c T locs cells slots) (hx : p.tables.exec = Jvm.exec) {Z : State} {a0 : Array Value} {h : Heap} {own C : String} {index n : Nat} (hZ : Z.Warmed39 s.vm) (hown : s.vm.findClass own = some m.cls) (w : (Cond.classLink own index C).before a0 Z = true) (wi : (Cond.instantiable C n).before a0 Z = true) (wz : (Cond.initialized C).before a0 Z = true) (eT : T.heap = h) (hd : decode c.code pc = .ok (.new index, 3)) (hc : cells + 1 ≤ Rm.cells) (hl : slots + n ≤ Rm.slots) (hp : pc + 3 = pc') (K : ∀ (T' : State) (h' : Heap) (b : Addr), Stand p l e Rm s m args below meth c T' locs (cells + 1) (slots + n) → T'.heap = h' → Ext h h' → b = h.size → Exa Z h' b C → (∀ {O nm d : String} {ty : FieldType}, Laid Z a0 C O nm d → parseFieldDescriptor d = some ty → Fld Z h' b O nm d (defaultValue ty)) → Runs p e below E (T'.setTop (mkF m pc' Ls (.ref b :: st)))) : Runs p e below E (T.setTop (mkF m pc Ls st)) := by
  subst hp
  obtain ⟨T1, h1, X1, e1, E1, A1, D1, -, st1⟩ := newO X hx hZ hown w wi wz eT (g := mkF m pc Ls st) rfl hd hc hl
  exact (K T1 h1 _ X1 e1 E1 rfl A1 D1).by st1
theorem w_newP (X : Stand p l e Rm s m args below meth c T locs cells slots) (hx : p.tables.exec = Jvm.exec) {Z : State} {a0 : Array Value} {h : Heap} (aty : ArrayType) (ty : FieldType) {n : Int32} (cap : Nat) (hty : newarray.typeOf aty = ty) (hZ : Z.Warmed39 s.vm) (w : (Cond.arrayClass ty).before a0 Z = true) (eT : T.heap = h) (hd : decode c.code pc = .ok (.newarray aty, 2)) (hn : ¬ n < 0) (hcap : n.toNatClampNeg ≤ cap) (hb : cap * 8 ≤ 536870912) (hc : cells + 1 ≤ Rm.cells) (hl : slots + cap ≤ Rm.slots) (hp : pc + 2 = pc') (K : ∀ (T' : State) (h' : Heap) (k : ClassId) (b : Addr), Stand p l e Rm s m args below meth c T' locs (cells + 1) (slots + cap) → T'.heap = h' → Ext h h' → b = h.size → Arr Z h' b (newA k ty n) ty → Runs p e below E (T'.setTop (mkF m pc' Ls (.ref b :: st)))) : Runs p e below E (T.setTop (mkF m pc Ls (.int n :: st))) := by
  subst hp
  subst hty
  obtain ⟨T1, h1, k1, X1, e1, E1, A1, st1⟩ := newP X hx hZ w eT (g := mkF m pc Ls (.int n :: st)) rfl hd rfl hn hcap hb hc hl
  exact (K T1 h1 k1 _ X1 e1 E1 rfl A1).by st1
theorem w_stC (X : Stand p l e Rm s m args below meth c T locs cells slots) (hx : p.tables.exec = Jvm.exec) {Z : State} {h : Heap} {a : Addr} {cl : Cell} {j : Int32} {x : Int32} (hZ : Z.Warmed39 s.vm) (eT : T.heap = h) (A : Arr Z h a cl .char) (hj : ¬ (j < 0 ∨ cl.slots.size ≤ j.toNatClampNeg)) (hd : decode c.code pc = .ok (.castore, 1)) (hp : pc + 1 = pc') (K : ∀ (T' : State) (h' : Heap), Stand p l e Rm s m args below meth c T' (locs ++ [⟨a, j.toNatClampNeg⟩]) cells slots → T'.heap = h' → Wr h h' a j.toNatClampNeg (.int (nar .char x)) → Runs p e below E (T'.setTop (mkF m pc' Ls st))) : Runs p e below E (T.setTop (mkF m pc Ls (.int x :: .int j :: .ref a :: st))) := by
  subst hp
  obtain ⟨T1, h1, X1, e1, W1, st1⟩ := stC X hx hZ eT A (j := j) hj (g := mkF m pc Ls (.int x :: .int j :: .ref a :: st)) rfl rfl hd
  exact (K T1 h1 X1 e1 W1).by st1
theorem w_stB (X : Stand p l e Rm s m args below meth c T locs cells slots) (hx : p.tables.exec = Jvm.exec) {Z : State} {h : Heap} {a : Addr} {cl : Cell} {j : Int32} {x : Int32} (hZ : Z.Warmed39 s.vm) (eT : T.heap = h) (A : Arr Z h a cl .byte) (hj : ¬ (j < 0 ∨ cl.slots.size ≤ j.toNatClampNeg)) (hd : decode c.code pc = .ok (.bastore, 1)) (hp : pc + 1 = pc') (K : ∀ (T' : State) (h' : Heap), Stand p l e Rm s m args below meth c T' (locs ++ [⟨a, j.toNatClampNeg⟩]) cells slots → T'.heap = h' → Wr h h' a j.toNatClampNeg (.int (nar .byte x)) → Runs p e below E (T'.setTop (mkF m pc' Ls st))) : Runs p e below E (T.setTop (mkF m pc Ls (.int x :: .int j :: .ref a :: st))) := by
  subst hp
  obtain ⟨T1, h1, X1, e1, W1, st1⟩ := stB X hx hZ eT A (j := j) hj (g := mkF m pc Ls (.int x :: .int j :: .ref a :: st)) rfl rfl hd
  exact (K T1 h1 X1 e1 W1).by st1
theorem w_iaload (X : Stand p l e Rm s m args below meth c T locs cells slots) (hx : p.tables.exec = Jvm.exec) {Z : State} {h : Heap} {a : Addr} {cl : Cell} {j : Int32} {v : Int32} (hZ : Z.Warmed39 s.vm) (eT : T.heap = h) (A : Arr Z h a cl .int) (hj : ¬ (j < 0 ∨ cl.slots.size ≤ j.toNatClampNeg)) (hv : cl.slots[j.toNatClampNeg]? = some (.int v)) (hd : decode c.code pc = .ok (.iaload, 1)) (hp : pc + 1 = pc') (K : Runs p e below E (T.setTop (mkF m pc' Ls (.int v :: st)))) : Runs p e below E (T.setTop (mkF m pc Ls (.int j :: .ref a :: st))) := by
  subst hp
  exact K.by fun t k => X.iaload hx (j := j) (v := .int v) (by rw [eT]; exact A.1) (State.isArrayOf_alike hZ.alike A.2.1) A.2.2 hj hv (g := mkF m pc Ls (.int j :: .ref a :: st)) rfl rfl hd t k
theorem w_initO (X : Stand p l e Rm s m args below meth c T locs cells slots) (hx : p.tables.exec = Jvm.exec) {Z : State} {a0 : Array Value} {h : Heap} {own : String} {index : Nat} {a : Addr} (W : Nat) (hZ : Z.Warmed39 s.vm) (hown : s.vm.findClass own = some m.cls) (w1 : (Cond.methodLink own index Lib.objectInit).before a0 Z = true) (w2 : (Cond.instanceMethod Lib.objectInit).before a0 Z = true) (w3 : (Cond.code Lib.objectInit ⟨#[0xb1]⟩ 1 none).before a0 Z = true) (eT : T.heap = h) (hsz : Ls.size = c.maxLocals) (hd : decode c.code pc = .ok (.invokespecial index, 3)) (hf : 1 ≤ Rm.frames) (hW : (st.map fun v => v.category).sum ≤ W) (hl : W + 12 ≤ Rm.locals) (hp : pc + 3 = pc') (K : ∀ T' : State, Stand p l e Rm s m args below meth c T' locs cells slots → T'.heap = h → Runs p e below E (T'.setTop (mkF m pc' Ls st))) : Runs p e below E (T.setTop (mkF m pc Ls (.ref a :: st))) := by
  subst hp
  obtain ⟨T1, X1, e1, st1⟩ := initO X hx hZ hown w1 w2 w3 eT (g := mkF m pc Ls (.ref a :: st)) rfl hsz rfl hd hf (W := W) (by show 2 * 0 + _ ≤ _; omega) hl
  exact (K T1 X1 e1).by st1
theorem w_static (X : Stand p l e Rm s m args below meth c T locs cells slots) (hx : p.tables.exec = Jvm.exec) {stk : List Value} {own : String} {index : Nat} {y : MethodName} {bytes : ByteArray} {maxL : Nat} {ret : Option FieldType} {W : Nat} {Pre : Pt → Array Value → Prop} {Post : Pt → Array Value → Option Value → Pt → Prop} (hown : s.vm.findClass own = some m.cls) (hlink : (Cond.methodLink own index y).before args s = true) (hstat : (Cond.static y).before args s = true) (hinit : (Cond.initialized y.cls).before args s = true) (hcode : (Cond.code y bytes maxL ret).before args s = true) (hy : y.cls ≠ "java/lang/invoke/MethodHandle" ∧ y.cls ≠ "java/lang/invoke/VarHandle") (hK : Back l Rm p e below s args y 3 W Pre Post) (hsz : Ls.size = c.maxLocals) (argsL : List Value) (hlen : ∀ sig, parseMethodDescriptor y.desc = some sig → argsL.length = sig.parameters.length) (hst : stk = argsL.reverse ++ st) (hW : (st.map fun v => v.category).sum ≤ W) (hd : decode c.code pc = .ok (.invokestatic index, 3)) (hpre : ∀ vm₁, s.WarmedH vm₁ → Pre ⟨T.setVm vm₁, locs, cells, slots⟩ argsL.toArray) (hp : pc + 3 = pc') (K : ∀ (v : Option Value) (vm₁ : Vm) (B : Pt), Stand p l e Rm s m args below meth c B.U B.locs B.cells B.slots → Post ⟨T.setVm vm₁, locs, cells, slots⟩ argsL.toArray v B → Runs p e below E (B.U.setTop (mkF m pc' Ls (v.toList ++ st)))) : Runs p e below E (T.setTop (mkF m pc Ls stk)) := by
  subst hp
  obtain ⟨v1, vm1, B1, -, X1, q1, st1⟩ := Jvm.LawKit.callS X hx hown hlink hstat hinit hcode hy hK (g := mkF m pc Ls stk) rfl hsz (argsL := argsL) (rest := st) hlen hst (by show 2 * 0 + _ ≤ _; omega) hd hpre
  exact (K v1 vm1 B1 X1 q1).by st1
theorem w_special (X : Stand p l e Rm s m args below meth c T locs cells slots) (hx : p.tables.exec = Jvm.exec) {stk : List Value} {own : String} {index : Nat} {y : MethodName} {bytes : ByteArray} {maxL : Nat} {a : Addr} {W : Nat} {Pre : Pt → Array Value → Prop} {Post : Pt → Array Value → Option Value → Pt → Prop} (hy1 : y.name = "<init>") (hown : s.vm.findClass own = some m.cls) (hlink : (Cond.methodLink own index y).before args s = true) (hinst : (Cond.instanceMethod y).before args s = true) (hcode : (Cond.code y bytes maxL none).before args s = true) (hy : y.cls ≠ "java/lang/invoke/MethodHandle" ∧ y.cls ≠ "java/lang/invoke/VarHandle") (hK : Back l Rm p e below s args y 3 W Pre Post) (hsz : Ls.size = c.maxLocals) (argsL : List Value) (hlen : ∀ sig, parseMethodDescriptor y.desc = some sig → argsL.length = sig.parameters.length) (hst : stk = argsL.reverse ++ .ref a :: st) (hW : (st.map fun v => v.category).sum ≤ W) (hd : decode c.code pc = .ok (.invokespecial index, 3)) (hpre : ∀ vm₁, s.WarmedH vm₁ → Pre ⟨T.setVm vm₁, locs, cells, slots⟩ (.ref a :: argsL).toArray) (hp : pc + 3 = pc') (K : ∀ (v : Option Value) (vm₁ : Vm) (B : Pt), Stand p l e Rm s m args below meth c B.U B.locs B.cells B.slots → Post ⟨T.setVm vm₁, locs, cells, slots⟩ (.ref a :: argsL).toArray v B → Runs p e below E (B.U.setTop (mkF m pc' Ls (v.toList ++ st)))) : Runs p e below E (T.setTop (mkF m pc Ls stk)) := by
  subst hp
  obtain ⟨v1, vm1, B1, -, X1, q1, st1⟩ := X.specialBack hx hy1 hown hlink hinst hcode hy hK (g := mkF m pc Ls stk) rfl hsz (Steps.refl _) (a := a) (argsL := argsL) (rest := st) hlen hst (by show 2 * 0 + _ ≤ _; omega) hd hpre
  exact (K v1 vm1 B1 X1 q1).tr st1
theorem w_virtual (X : Stand p l e Rm s m args below meth c T locs cells slots) (hx : p.tables.exec = Jvm.exec) {stk : List Value} {own C : String} {index : Nat} {y z : MethodName} {b : Addr} {cB : ClassId} {W : Nat} {Pre : Pt → Array Value → Prop} {Post : Pt → Array Value → Option Value → Pt → Prop} (hown : s.vm.findClass own = some m.cls) (hlink : (Cond.methodLink own index y).before args s = true) (hdecl : (Cond.declares y).before args s = true) (hnf : NotFace s y) (hsel : (Cond.selects C y z).before args s = true) (hinst : (Cond.instanceMethod z).before args s = true) (hy : y.cls ≠ "java/lang/invoke/MethodHandle" ∧ y.cls ≠ "java/lang/invoke/VarHandle") (hK : Back l Rm p e below s args z 3 W Pre Post) (hcB : s.vm.findClass C = some cB) (hrecv : IsOf cB T b) (hsz : Ls.size = c.maxLocals) (argsL : List Value) (hlen : ∀ sig, parseMethodDescriptor y.desc = some sig → argsL.length = sig.parameters.length) (hst : stk = argsL.reverse ++ .ref b :: st) (hW : (st.map fun v => v.category).sum ≤ W) (hd : decode c.code pc = .ok (.invokevirtual index, 3)) (hpre : ∀ vm₁, s.WarmedH vm₁ → Pre ⟨T.setVm vm₁, locs, cells, slots⟩ (.ref b :: argsL).toArray) (hp : pc + 3 = pc') (K : ∀ (v : Option Value) (vm₁ : Vm) (B : Pt), Stand p l e Rm s m args below meth c B.U B.locs B.cells B.slots → Post ⟨T.setVm vm₁, locs, cells, slots⟩ (.ref b :: argsL).toArray v B → Runs p e below E (B.U.setTop (mkF m pc' Ls (v.toList ++ st)))) : Runs p e below E (T.setTop (mkF m pc Ls stk)) := by
  subst hp
  obtain ⟨v1, vm1, B1, -, X1, q1, st1⟩ := X.virtualBack hx hown hlink hdecl hnf hsel hinst hy hK hcB hrecv (g := mkF m pc Ls stk) rfl hsz (Steps.refl _) (argsL := argsL) (rest := st) hlen hst (by show 2 * 0 + _ ≤ _; omega) hd hpre
  exact (K v1 vm1 B1 X1 q1).tr st1
theorem w_virtualUp (X : Stand p l e Rm s m args below meth c T locs cells slots) (hx : p.tables.exec = Jvm.exec) {stk : List Value} {own C owner : String} {index : Nat} {y z : MethodName} {b : Addr} {cB : ClassId} {W : Nat} {Pre : Pt → Array Value → Prop} {Post : Pt → Array Value → Option Value → Pt → Prop} (hown : s.vm.findClass own = some m.cls) (hlink : (Cond.methodLink own index y).before args s = true) (hsame : (Cond.sameMethod y.cls owner y.name y.desc).before args s = true) (hdecl : (Cond.declares ⟨owner, y.name, y.desc⟩).before args s = true) (howner : owner ≠ "java/lang/invoke/MethodHandle" ∧ owner ≠ "java/lang/invoke/VarHandle") (hsel : (Cond.selects C y z).before args s = true) (hinst : (Cond.instanceMethod z).before args s = true) (hK : Back l Rm p e below s args z 3 W Pre Post) (hcB : s.vm.findClass C = some cB) (hrecv : IsOf cB T b) (hsz : Ls.size = c.maxLocals) (argsL : List Value) (hlen : ∀ sig, parseMethodDescriptor y.desc = some sig → argsL.length = sig.parameters.length) (hst : stk = argsL.reverse ++ .ref b :: st) (hW : (st.map fun v => v.category).sum ≤ W) (hd : decode c.code pc = .ok (.invokevirtual index, 3)) (hpre : ∀ vm₁, s.WarmedH vm₁ → Pre ⟨T.setVm vm₁, locs, cells, slots⟩ (.ref b :: argsL).toArray) (hp : pc + 3 = pc') (K : ∀ (v : Option Value) (vm₁ : Vm) (B : Pt), Stand p l e Rm s m args below meth c B.U B.locs B.cells B.slots → Post ⟨T.setVm vm₁, locs, cells, slots⟩ (.ref b :: argsL).toArray v B → Runs p e below E (B.U.setTop (mkF m pc' Ls (v.toList ++ st)))) : Runs p e below E (T.setTop (mkF m pc Ls stk)) := by
  subst hp
  obtain ⟨v1, vm1, B1, -, X1, q1, st1⟩ := X.virtualBackUp hx hown hlink hsame hdecl howner hsel hinst hK hcB hrecv (g := mkF m pc Ls stk) rfl hsz (Steps.refl _) (argsL := argsL) (rest := st) hlen hst (by show 2 * 0 + _ ≤ _; omega) hd hpre
  exact (K v1 vm1 B1 X1 q1).tr st1
end W

/-- a body's contract, and how a walk shows it -/
abbrev MetN (l : Launch) (Z : State) (y : MethodName) (bytes : ByteArray) (maxL : Nat) (ret : Option FieldType) (ws : List Cond) (rm : Room) (as' : Array Value) (h : Heap) (Q : Option Value → Heap → List Loc → Prop) : Prop :=
  MetFree l y (head1 (Cond.code y bytes maxL ret :: ws) rm) (fun a U => a = as' ∧ Z.Warmed39 U.vm ∧ U.heap = h) (fun _ _ _ _ _ => True) (fun _ U o U' => ∃ v L, o = .returned v ∧ Q v U'.heap L ∧ FrameEnd U o U' L rm.cells rm.slots)
theorem MetN.of {l : Launch} {Z : State} {y : MethodName} {bytes : ByteArray} {maxL : Nat} {ret : Option FieldType} {ws : List Cond} {rm : Room} {as' : Array Value} {h : Heap} {Q : Option Value → Heap → List Loc → Prop} (hp : plainFor y = true)
    (H : ∀ (p : Program) (e : Env) (s : State) (m : MethodId) (below : List Frame) (meth : Method) (c : Code) (s₁ : State), meth.sig.returnType = ret → p.tables.exec = Jvm.exec → c.code = bytes → c.maxLocals = maxL → s.vm.findClass y.cls = some m.cls → meth.name = y.name → meth.locks = false → Z.Warmed39 s.vm → Stand p l e rm s m as' below meth c s₁ [] 0 0 → s₁.heap = h → Runs p e below (EndN s Q rm.cells rm.slots) (s₁.setTop (entryFrame m as' maxL))) :
    MetN l Z y bytes maxL ret ws rm as' h Q := by
  refine MetFree.of_bodySF hp hisR ?_
  intro p e s m args below meth c s₁ Bd hml hP hK
  obtain ⟨rfl, hZ, hh⟩ := hP
  exact H p e s m below meth c s₁ Bd.returns Bd.exec Bd.bytes hml (findClass_of_methodNamed Bd.named) (name_of_methodNamed Bd.named Bd.method).1 Bd.notSynchronized hZ (Stand.of_body Bd) (by rw [← hh, Bd.state]; rfl)
abbrev MetH (l : Launch) (Z : State) (EL : List (String × Nat)) (y : MethodName) (bytes : ByteArray) (maxL : Nat) (ret : Option FieldType) (ws : List Cond) (rm : Room) (as' : Array Value) (h : Heap) (Q : Option Value → Heap → List Loc → (Addr → Prop) → Prop) (sf : List Addr) : Prop :=
  MetFree l y (head1 (Cond.code y bytes maxL ret :: ws) rm) (fun a U => a = as' ∧ Z.Warmed39 U.vm ∧ U.heap = h ∧ CHv Z EL U.vm h ∧ ∀ x ∈ sf, Safe Z EL U.vm h x) (fun _ _ _ _ _ => True) (fun _ U o U' => ∃ v L, o = .returned v ∧ Q v U'.heap L (Safe Z EL U'.vm U'.heap) ∧ CHr Z EL U.vm U.heap U'.vm U'.heap ∧ ReturnedEndW U o U' L rm.cells rm.slots)
theorem MetH.of {l : Launch} {Z : State} {EL : List (String × Nat)} {y : MethodName} {bytes : ByteArray} {maxL : Nat} {ret : Option FieldType} {ws : List Cond} {rm : Room} {as' : Array Value} {h : Heap} {Q : Option Value → Heap → List Loc → (Addr → Prop) → Prop} {sf : List Addr} (hp : plainFor y = true)
    (H : ∀ (p : Program) (e : Env) (s : State) (m : MethodId) (below : List Frame) (meth : Method) (c : Code) (s₁ : State), meth.sig.returnType = ret → p.tables.exec = Jvm.exec → c.code = bytes → c.maxLocals = maxL → s.vm.findClass y.cls = some m.cls → meth.name = y.name → meth.locks = false → Z.Warmed39 s.vm → Stand p l e rm (s.setVm s.vm) m as' below meth c s₁ [] 0 0 → s₁.heap = h → s.heap = h → CHv Z EL s.vm h → (∀ x ∈ sf, Safe Z EL s.vm h x) → s.Since s.vm h.size → CHr Z EL s.vm h s.vm h → Runs p e below (EndH s Z EL Q rm.cells rm.slots) (s₁.setTop (entryFrame m as' maxL))) :
    MetH l Z EL y bytes maxL ret ws rm as' h Q sf := by
  refine MetFree.of_bodySF hp hisR ?_
  intro p e s m args below meth c s₁ Bd hml hP hK
  obtain ⟨rfl, hZ, hh, hH, hsf⟩ := hP
  exact H p e s m below meth c s₁ Bd.returns Bd.exec Bd.bytes hml (findClass_of_methodNamed Bd.named) (name_of_methodNamed Bd.named Bd.method).1 Bd.notSynchronized hZ (Stand.of_body Bd) (by rw [← hh, Bd.state]; rfl) hh hH hsf ((State.WarmedH.refl s).since _) (CHr.refl hH)
end Jvm.RoadKit
/- laws to paste: Road.backV (cut by pick.py; bodies as the Statement names them) -/
namespace Jvm.Pilot.@@N@@
namespace StrChars
open Jvm Sem ClassFile Op Lib Jvm.Stand Jvm.Free.XT Jvm.Free.ALB Jvm.Free.JM Jvm.Free
open Jvm.Lib.Cold (StaticIs)
/-- a char array whose places are chars -/
def Ch (a : Addr) (A : Cell) (U : State) : Prop := Arr .char a A U ∧ Typed .char A
theorem Ch.mv {a : Addr} {A : Cell} {U U' : State} (h : Ch a A U) (hal : U.vm.Alike U'.vm) (hh : U'.heap = U.heap) : Ch a A U' := ⟨h.1.mv hal hh, h.2⟩
theorem Ch.keep {a : Addr} {A : Cell} {U U' : State} (h : Ch a A U) (hal : U.vm.Alike U'.vm) (hk : U'.heap[a]? = some A) : Ch a A U' := ⟨h.1.keep hal hk, h.2⟩
/-- what place i of a char[]'s cell holds -/
def cv (A : Cell) (i : Nat) : Int32 := match A.slots[i]? with | some (.int x) => x | _ => 0
theorem Ch.get {a : Addr} {A : Cell} {U : State} (h : Ch a A U) {i : Nat} (hi : i < A.slots.size) : A.slots[i]? = some (.int (cv A i)) := by
  have e := Array.getElem?_eq_getElem hi
  have f := h.2 i _ e
  unfold cv; rw [e]
  generalize A.slots[i] = v at f
  cases v <;> simp [fits] at f ⊢
/-- the byte that i2b leaves of a char -/
def lo8 (x : Int32) : Int32 := x.toInt8.toInt32
theorem fits_lo8 (y : Int32) : fits .byte (.int (lo8 y)) = true := by
  have h1 := y.toInt8.le_toInt
  have h2 := y.toInt8.toInt_lt
  simp only [lo8, fits, Bool.and_eq_true, decide_eq_true_eq, Int32.le_iff_toInt_le, Int8.toInt_toInt32, show (-128 : Int32).toInt = -128 from by decide, show (127 : Int32).toInt = 127 from by decide]
  omega
/-- A' is A but that each place j of lo .. hi - 1 holds f j -/
def Laid (A A' : Cell) (lo hi : Nat) (f : Nat → Value) : Prop := A'.cls = A.cls ∧ A'.vm = A.vm ∧ A'.slots.size = A.slots.size ∧ ∀ i, A'.slots[i]? = if lo ≤ i ∧ i < hi then some (f i) else A.slots[i]?
theorem Laid.zero (A : Cell) (lo : Nat) (f : Nat → Value) : Laid A A lo (lo + 0) f := ⟨rfl, rfl, rfl, fun i => by rw [if_neg (by omega)]⟩
theorem Laid.step {A Ak : Cell} {lo k : Nat} {f : Nat → Value} {v : Value} (h : Laid A Ak lo k f) (hlo : lo ≤ k) (hk : k < Ak.slots.size) (hv : v = f k) : Laid A (Ak.setSlot k v) lo (k + 1) f := by
  refine ⟨h.1, h.2.1, by simpa [Cell.setSlot] using h.2.2.1, fun i => ?_⟩
  by_cases e : k = i
  · subst e; rw [Cell.slots_setSlot_self v hk, if_pos (by omega), hv]
  · rw [Cell.slots_setSlot_ne v e, h.2.2.2 i]
    by_cases q : lo ≤ i ∧ i < k
    · rw [if_pos q, if_pos (by omega)]
    · rw [if_neg q, if_neg (by omega)]
def U16 : String := "java/lang/StringUTF16"
namespace Cmp5
def yN : MethodName := ⟨"java/lang/StringUTF16", "compress", "([CI[BII)I"⟩
abbrev yB : ByteArray := jdk_52_method_21_code
theorem d0 : decode yB 0 = .ok (.iconst 0, 1) := by decide +kernel
theorem d1 : decode yB 1 = .ok (.istore 5, 2) := by decide +kernel
theorem d3 : decode yB 3 = .ok (.iload 5, 2) := by decide +kernel
theorem d5 : decode yB 5 = .ok (.iload 4, 2) := by decide +kernel
theorem d7 : decode yB 7 = .ok (.if_icmp (.ge) 37, 3) := by decide +kernel
theorem d10 : decode yB 10 = .ok (.aload_n 0, 1) := by decide +kernel
theorem d11 : decode yB 11 = .ok (.iload_n 1, 1) := by decide +kernel
theorem d12 : decode yB 12 = .ok (.caload, 1) := by decide +kernel
theorem d13 : decode yB 13 = .ok (.istore 6, 2) := by decide +kernel
theorem d15 : decode yB 15 = .ok (.iload 6, 2) := by decide +kernel
theorem d17 : decode yB 17 = .ok (.sipush 255, 3) := by decide +kernel
theorem d20 : decode yB 20 = .ok (.if_icmp (.le) 6, 3) := by decide +kernel
theorem d26 : decode yB 26 = .ok (.aload_n 2, 1) := by decide +kernel
theorem d27 : decode yB 27 = .ok (.iload_n 3, 1) := by decide +kernel
theorem d28 : decode yB 28 = .ok (.iload 6, 2) := by decide +kernel
theorem d30 : decode yB 30 = .ok (.i2b, 1) := by decide +kernel
theorem d31 : decode yB 31 = .ok (.bastore, 1) := by decide +kernel
theorem d32 : decode yB 32 = .ok (.iinc 1 1, 3) := by decide +kernel
theorem d35 : decode yB 35 = .ok (.iinc 3 1, 3) := by decide +kernel
theorem d38 : decode yB 38 = .ok (.iinc 5 1, 3) := by decide +kernel
theorem d41 : decode yB 41 = .ok (.goto (-38), 3) := by decide +kernel
theorem d44 : decode yB 44 = .ok (.iload 4, 2) := by decide +kernel
theorem d46 : decode yB 46 = .ok (.ireturn, 1) := by decide +kernel
def site : List Cond := []
def tab : Cond := tabOf yN yB 7 (some .int) site
def P (b : Addr) (A : Cell) (d : Addr) (B : Cell) (o q len : Nat) (args : Array Value) (s : State) : Prop := args = #[.ref b, .int (Int32.ofNat o), .ref d, .int (Int32.ofNat q), .int (Int32.ofNat len)] ∧ Ch b A s ∧ Arr .byte d B s ∧ b ≠ d ∧ o + len ≤ A.slots.size ∧ q + len ≤ B.slots.size ∧ ∀ i, i < len → ¬ 255 < cv A (o + i)
def E (b : Addr) (A : Cell) (d : Addr) (B : Cell) (o q len : Nat) (r : Option Value) (s u : State) : Prop := r = some (.int (Int32.ofNat len)) ∧ ∃ B', Put d B' s u ∧ Laid B B' q (q + len) (fun j => Value.int (lo8 (cv A (o + (j - q)))))
/-- no char of the range above 255: len; the places written hold each char's low byte -/
theorem law (l : Launch) (b : Addr) (A : Cell) (d : Addr) (B : Cell) (o q len : Nat) : Law l yN 5 5 0 0 yB 7 (some .int) site (P b A d B o q len) (E b A d B o q len) (copyLocs d q len) 0 0 := by
  refine Law.of_walk (plainFor_of_name (by decide +kernel)) (by decide +kernel) (by decide +kernel) (by decide) (fun _ _ h => by rw [h.1]; rfl) (fun _ U U' hal hh h => ⟨h.1, h.2.1.mv hal hh, h.2.2.1.mv hal hh, h.2.2.2⟩) (fun r U U' V V' h1 hal h2 h => ⟨h.1, h.2.elim fun B' q => ⟨B', q.1.mv h1 h2, q.2⟩⟩) ?_
  intro p e s m args below meth c s₁ X0 hexec hbytes hml hret hlk hnm hown hh0 W hP
  obtain ⟨rfl, hA, hB, hne, l1, l2, hp⟩ := hP
  have c1 : Steps p.tables e below (s₁.setTop (entryFrame m #[.ref b, .int (Int32.ofNat o), .ref d, .int (Int32.ofNat q), .int (Int32.ofNat len)] 7)) (s₁.setTop (mkF m 0 #[.val (.ref b), .val (.int (Int32.ofNat o)), .val (.ref d), .val (.int (Int32.ofNat q)), .val (.int (Int32.ofNat len)), .unset, .unset] [])) := entry rfl
  have hA0 := hA.1.mv X0.warmed.alike hh0
  have hB0 := hB.mv X0.warmed.alike hh0
  have a31 := hA.1.2.2.2
  have c2 : Steps p.tables e below (s₁.setTop (entryFrame m #[.ref b, .int (Int32.ofNat o), .ref d, .int (Int32.ofNat q), .int (Int32.ofNat len)] 7)) (s₁.setTop (mkF m 3 #[.val (.ref b), .val (.int (Int32.ofNat o)), .val (.ref d), .val (.int (Int32.ofNat q)), .val (.int (Int32.ofNat len)), .val (.int 0), .unset] [])) := c1.trans (by
    refine iconstV X0.here hexec rfl 0 (hb hbytes d0) (by decide) ?_
    refine XS.istore X0.here hexec rfl (hb hbytes d1) rfl rfl ?_
    exact Steps.refl _)
  have loop : ∀ (r i : Nat), i + r = len → ∀ (z : Slot), (z = .unset ∨ ∃ w, z = .val w ∧ w.category = 1) → ∀ (Tl : State) (Bk : Cell), Stand p l e { frames := 0, locals := 0, cells := 0, slots := 0 } s m #[.ref b, .int (Int32.ofNat o), .ref d, .int (Int32.ofNat q), .int (Int32.ofNat len)] below meth c Tl ([] ++ copyLocs d q i) 0 0 → Put d Bk s₁ Tl → Laid B Bk q (q + i) (fun j => Value.int (lo8 (cv A (o + (j - q))))) →
      Steps p.tables e below (s₁.setTop (entryFrame m #[.ref b, .int (Int32.ofNat o), .ref d, .int (Int32.ofNat q), .int (Int32.ofNat len)] 7)) (Tl.setTop (mkF m 3 #[.val (.ref b), .val (.int (Int32.ofNat (o + i))), .val (.ref d), .val (.int (Int32.ofNat (q + i))), .val (.int (Int32.ofNat len)), .val (.int (Int32.ofNat i)), z] [])) → ∃ (T' : State) (B' : Cell) (z' : Slot), Stand p l e { frames := 0, locals := 0, cells := 0, slots := 0 } s m #[.ref b, .int (Int32.ofNat o), .ref d, .int (Int32.ofNat q), .int (Int32.ofNat len)] below meth c T' ([] ++ copyLocs d q len) 0 0 ∧ Put d B' s₁ T' ∧ Laid B B' q (q + len) (fun j => Value.int (lo8 (cv A (o + (j - q))))) ∧
      Steps p.tables e below (s₁.setTop (entryFrame m #[.ref b, .int (Int32.ofNat o), .ref d, .int (Int32.ofNat q), .int (Int32.ofNat len)] 7)) (T'.setTop (mkF m 3 #[.val (.ref b), .val (.int (Int32.ofNat (o + len))), .val (.ref d), .val (.int (Int32.ofNat (q + len))), .val (.int (Int32.ofNat len)), .val (.int (Int32.ofNat len)), z'] [])) := by
    intro r
    induction r with
    | zero =>
      intro i hi z hz Tl Bk Xl pl fl cl
      have hil : i = len := by omega
      rw [hil] at Xl fl cl
      exact ⟨Tl, Bk, z, Xl, pl, fl, cl⟩
    | succ r ih =>
      intro i hi z hz Tl Bk Xl pl fl cl
      have all := X0.warmed.alike.symm.trans Xl.warmed.alike
      have hAl := hA0.keep all (pl.other hne hA0.1)
      have hBk := hB0.like all pl.1 fl.1 fl.2.1 fl.2.2.1
      have hlt : q + i < Bk.slots.size := by rw [fl.2.2.1]; omega
      have c3 : Steps p.tables e below (s₁.setTop (entryFrame m #[.ref b, .int (Int32.ofNat o), .ref d, .int (Int32.ofNat q), .int (Int32.ofNat len)] 7)) (Tl.setTop (mkF m 12 #[.val (.ref b), .val (.int (Int32.ofNat (o + i))), .val (.ref d), .val (.int (Int32.ofNat (q + i))), .val (.int (Int32.ofNat len)), .val (.int (Int32.ofNat i)), z] [.int (Int32.ofNat (o + i)), .ref b])) := cl.trans (by
        refine XS.iload Xl.here hexec rfl (hb hbytes d3) rfl ?_
        refine XS.iload Xl.here hexec rfl (hb hbytes d5) rfl ?_
        refine XS.icmpNo Xl.here hexec rfl (hb hbytes d7) rfl (ii_ge_f (lt32 (by omega) (by omega))) ?_
        refine XS.aloadN Xl.here hexec rfl (hb hbytes d10) rfl rfl ?_
        refine XS.iloadN Xl.here hexec rfl (hb hbytes d11) rfl ?_
        exact Steps.refl _)
      have c4 : Steps p.tables e below (s₁.setTop (entryFrame m #[.ref b, .int (Int32.ofNat o), .ref d, .int (Int32.ofNat q), .int (Int32.ofNat len)] 7)) (Tl.setTop (mkF m 13 #[.val (.ref b), .val (.int (Int32.ofNat (o + i))), .val (.ref d), .val (.int (Int32.ofNat (q + i))), .val (.int (Int32.ofNat len)), .val (.int (Int32.ofNat i)), z] [.int (cv A (o + i))])) := c3.trans (by
        refine Xl.aget hexec hAl rfl (hA.get (i := o + i) (by omega)) rfl rfl (hb hbytes d12) ?_
        exact Steps.refl _)
      have c5 : Steps p.tables e below (s₁.setTop (entryFrame m #[.ref b, .int (Int32.ofNat o), .ref d, .int (Int32.ofNat q), .int (Int32.ofNat len)] 7)) (Tl.setTop (mkF m 15 #[.val (.ref b), .val (.int (Int32.ofNat (o + i))), .val (.ref d), .val (.int (Int32.ofNat (q + i))), .val (.int (Int32.ofNat len)), .val (.int (Int32.ofNat i)), .val (.int (cv A (o + i)))] [])) := c4.trans (by
        refine XS.istoreS Xl.here hexec rfl (hb hbytes d13) rfl rfl hz ?_
        exact Steps.refl _)
      have c6 : Steps p.tables e below (s₁.setTop (entryFrame m #[.ref b, .int (Int32.ofNat o), .ref d, .int (Int32.ofNat q), .int (Int32.ofNat len)] 7)) (Tl.setTop (mkF m 31 #[.val (.ref b), .val (.int (Int32.ofNat (o + i))), .val (.ref d), .val (.int (Int32.ofNat (q + i))), .val (.int (Int32.ofNat len)), .val (.int (Int32.ofNat i)), .val (.int (cv A (o + i)))] [.int (lo8 (cv A (o + i))), .int (Int32.ofNat (q + i)), .ref d])) := c5.trans (by
        refine XS.iload Xl.here hexec rfl (hb hbytes d15) rfl ?_
        refine sipushV Xl.here hexec rfl 255 (hb hbytes d17) (by decide) ?_
        refine XS.icmpYes Xl.here hexec rfl (pc0 := 20) rfl (hb hbytes d20) rfl (ii_le_t (hp i (by omega))) (by decide) rfl ?_
        refine XS.aloadN Xl.here hexec rfl (hb hbytes d26) rfl rfl ?_
        refine XS.iloadN Xl.here hexec rfl (hb hbytes d27) rfl ?_
        refine XS.iload Xl.here hexec rfl (hb hbytes d28) rfl ?_
        refine i2b Xl.here hexec rfl (hb hbytes d30) rfl ?_
        exact Steps.refl _)
      obtain ⟨T7, X7, p7, st7⟩ := Xl.aput hexec hBk rfl hlt rfl (fits_lo8 (cv A (o + i))) (g := (mkF m 31 #[.val (.ref b), .val (.int (Int32.ofNat (o + i))), .val (.ref d), .val (.int (Int32.ofNat (q + i))), .val (.int (Int32.ofNat len)), .val (.int (Int32.ofNat i)), .val (.int (cv A (o + i)))] [.int (lo8 (cv A (o + i))), .int (Int32.ofNat (q + i)), .ref d])) rfl (rest := []) rfl (hb hbytes d31)
      have c8 : Steps p.tables e below (s₁.setTop (entryFrame m #[.ref b, .int (Int32.ofNat o), .ref d, .int (Int32.ofNat q), .int (Int32.ofNat len)] 7)) (T7.setTop (mkF m 32 #[.val (.ref b), .val (.int (Int32.ofNat (o + i))), .val (.ref d), .val (.int (Int32.ofNat (q + i))), .val (.int (Int32.ofNat len)), .val (.int (Int32.ofNat i)), .val (.int (cv A (o + i)))] [])) := c6.trans (st7 _ (Steps.refl _))
      have c9 : Steps p.tables e below (s₁.setTop (entryFrame m #[.ref b, .int (Int32.ofNat o), .ref d, .int (Int32.ofNat q), .int (Int32.ofNat len)] 7)) (T7.setTop (mkF m 3 #[.val (.ref b), .val (.int (Int32.ofNat (o + i) + 1)), .val (.ref d), .val (.int (Int32.ofNat (q + i) + 1)), .val (.int (Int32.ofNat len)), .val (.int (Int32.ofNat i + 1)), .val (.int (cv A (o + i)))] [])) := c8.trans (by
        refine iincV X7.here hexec rfl 1 (hb hbytes d32) (by decide) rfl rfl ?_
        refine iincV X7.here hexec rfl 1 (hb hbytes d35) (by decide) rfl rfl ?_
        refine iincV X7.here hexec rfl 1 (hb hbytes d38) (by decide) rfl rfl ?_
        refine XS.goto X7.here hexec rfl (pc0 := 41) rfl (hb hbytes d41) (by decide) rfl ?_
        exact Steps.refl _)
      have c10 : Steps p.tables e below (s₁.setTop (entryFrame m #[.ref b, .int (Int32.ofNat o), .ref d, .int (Int32.ofNat q), .int (Int32.ofNat len)] 7)) (T7.setTop (mkF m 3 #[.val (.ref b), .val (.int (Int32.ofNat (o + (i + 1)))), .val (.ref d), .val (.int (Int32.ofNat (q + (i + 1)))), .val (.int (Int32.ofNat len)), .val (.int (Int32.ofNat (i + 1))), .val (.int (cv A (o + i)))] [])) := by
        have := c9
        rw [succ32, succ32, succ32] at this
        exact this
      exact ih (i + 1) (by omega) _ (Or.inr ⟨_, rfl, rfl⟩) T7 _ (by rw [copyLocs_step, ← List.append_assoc]; exact X7) (pl.trans p7) (fl.step (by omega) hlt (by simp)) c10
  obtain ⟨T9, B9, z9, X9, p9, f9, g9⟩ := loop len 0 (by omega) .unset (Or.inl rfl) s₁ B (by simpa [copyLocs] using X0) ⟨hB0.1, fun _ _ => rfl, rfl⟩ (Laid.zero _ _ _) c2
  have c11 : Steps p.tables e below (s₁.setTop (entryFrame m #[.ref b, .int (Int32.ofNat o), .ref d, .int (Int32.ofNat q), .int (Int32.ofNat len)] 7)) (T9.setTop (mkF m 46 #[.val (.ref b), .val (.int (Int32.ofNat (o + len))), .val (.ref d), .val (.int (Int32.ofNat (q + len))), .val (.int (Int32.ofNat len)), .val (.int (Int32.ofNat len)), z9] [.int (Int32.ofNat len)])) := g9.trans (by
    refine XS.iload X9.here hexec rfl (hb hbytes d3) rfl ?_
    refine XS.iload X9.here hexec rfl (hb hbytes d5) rfl ?_
    refine XS.icmpYes X9.here hexec rfl (pc0 := 7) rfl (hb hbytes d7) rfl (ii_ge_t (nlt32 (by omega) (Nat.le_refl _))) (by decide) rfl ?_
    refine XS.iload X9.here hexec rfl (hb hbytes d44) rfl ?_
    exact Steps.refl _)
  exact ⟨T9, some (.int (Int32.ofNat len)), _, _, _, X9, by simp, rfl, rfl, (fun h => by cases h), ⟨rfl, B9, p9.from hh0, f9⟩, fun fs hl => c11.trans (X9.ireturnOut hexec hret rfl (Or.inl rfl) (hb hbytes d46) hl)⟩
end Cmp5
namespace Cmp3
def yN : MethodName := ⟨"java/lang/StringUTF16", "compress", "([CII)[B"⟩
abbrev yB : ByteArray := jdk_52_method_16_code
theorem d0 : decode yB 0 = .ok (.iload_n 2, 1) := by decide +kernel
theorem d1 : decode yB 1 = .ok (.newarray .byte, 2) := by decide +kernel
theorem d3 : decode yB 3 = .ok (.astore_n 3, 1) := by decide +kernel
theorem d4 : decode yB 4 = .ok (.aload_n 0, 1) := by decide +kernel
theorem d5 : decode yB 5 = .ok (.iload_n 1, 1) := by decide +kernel
theorem d6 : decode yB 6 = .ok (.aload_n 3, 1) := by decide +kernel
theorem d7 : decode yB 7 = .ok (.iconst 0, 1) := by decide +kernel
theorem d8 : decode yB 8 = .ok (.iload_n 2, 1) := by decide +kernel
theorem d9 : decode yB 9 = .ok (.invokestatic 115, 3) := by decide +kernel
theorem d12 : decode yB 12 = .ok (.istore 4, 2) := by decide +kernel
theorem d14 : decode yB 14 = .ok (.iload 4, 2) := by decide +kernel
theorem d16 : decode yB 16 = .ok (.iload_n 2, 1) := by decide +kernel
theorem d17 : decode yB 17 = .ok (.if_icmp (.eq) 40, 3) := by decide +kernel
theorem d57 : decode yB 57 = .ok (.aload_n 3, 1) := by decide +kernel
theorem d58 : decode yB 58 = .ok (.areturn, 1) := by decide +kernel
def site : List Cond := [.arrayClass .byte, Cmp5.tab] ++ staticW U16 115 Cmp5.yN
def tab : Cond := tabOf yN yB 6 (some (.array .byte)) site
def P (b : Addr) (A : Cell) (o len : Nat) (args : Array Value) (s : State) : Prop := args = #[.ref b, .int (Int32.ofNat o), .int (Int32.ofNat len)] ∧ Ch b A s ∧ o + len ≤ A.slots.size ∧ len ≤ 536870912 ∧ ∀ i, i < len → ¬ 255 < cv A (o + i)
def E (b : Addr) (A : Cell) (o len : Nat) (r : Option Value) (s u : State) : Prop := NewArr .byte "[B" len (fun j => .int (lo8 (cv A (o + j)))) r s u ∧ u.heap.size = s.heap.size + 1
/-- no char of the range above 255: a new byte[] of their low bytes -/
theorem law (l : Launch) (b : Addr) (A : Cell) (o len : Nat) : Law l yN 3 3 1 18 yB 6 (some (.array .byte)) site (P b A o len) (E b A o len) [] 1 len := by
  refine Law.of_walk (plainFor_of_name (by decide +kernel)) (by decide +kernel) (by decide +kernel) (by decide) (fun _ _ h => by rw [h.1]; rfl) (fun _ U U' hal hh h => ⟨h.1, h.2.1.mv hal hh, h.2.2⟩) (fun r U U' V V' h1 hal h2 h => ⟨NewArr.mv r U U' V V' h1 hal h2 h.1, by rw [h1, h2]; exact h.2⟩) ?_
  intro p e s m args below meth c s₁ X0 hexec hbytes hml hret hlk hnm hown hh0 W hP
  obtain ⟨rfl, hA, l1, l2, hp⟩ := hP
  have a31 := hA.1.2.2.2
  have c1 : Steps p.tables e below (s₁.setTop (entryFrame m #[.ref b, .int (Int32.ofNat o), .int (Int32.ofNat len)] 6)) (s₁.setTop (mkF m 0 #[.val (.ref b), .val (.int (Int32.ofNat o)), .val (.int (Int32.ofNat len)), .unset, .unset, .unset] [])) := entry rfl
  have c2 : Steps p.tables e below (s₁.setTop (entryFrame m #[.ref b, .int (Int32.ofNat o), .int (Int32.ofNat len)] 6)) (s₁.setTop (mkF m 1 #[.val (.ref b), .val (.int (Int32.ofNat o)), .val (.int (Int32.ofNat len)), .unset, .unset, .unset] [.int (Int32.ofNat len)])) := c1.trans (by
    refine XS.iloadN X0.here hexec rfl (hb hbytes d0) rfl ?_
    exact Steps.refl _)
  obtain ⟨T3, B3, X3, ba3, bs3, bv3, bh3, bf3, st3⟩ := X0.anew hexec (atype := .byte) (wk W (.arrayClass .byte)) rfl (by show len * 1 ≤ _; omega) (by omega) (g := (mkF m 1 #[.val (.ref b), .val (.int (Int32.ofNat o)), .val (.int (Int32.ofNat len)), .unset, .unset, .unset] [.int (Int32.ofNat len)])) rfl (hb hbytes d1) (rest := []) rfl (Nat.le_refl _) (by show 0 + len ≤ len; omega)
  rw [hh0] at ba3 st3
  have kp3 : XT.Kept s T3 := (XT.Kept.of_eq hh0).push bh3
  have hA3 := hA.keep X3.warmed.alike (kp3 _ _ hA.1.1)
  have hne : b ≠ s.heap.size := hA.1.ne
  have c4 : Steps p.tables e below (s₁.setTop (entryFrame m #[.ref b, .int (Int32.ofNat o), .int (Int32.ofNat len)] 6)) (T3.setTop (mkF m 3 #[.val (.ref b), .val (.int (Int32.ofNat o)), .val (.int (Int32.ofNat len)), .unset, .unset, .unset] [.ref s.heap.size])) := c2.trans (st3 _ (Steps.refl _))
  have c5 : Steps p.tables e below (s₁.setTop (entryFrame m #[.ref b, .int (Int32.ofNat o), .int (Int32.ofNat len)] 6)) (T3.setTop (mkF m 9 #[.val (.ref b), .val (.int (Int32.ofNat o)), .val (.int (Int32.ofNat len)), .val (.ref s.heap.size), .unset, .unset] [.int (Int32.ofNat len), .int 0, .ref s.heap.size, .int (Int32.ofNat o), .ref b])) := c4.trans (by
    refine XS.astoreN X3.here hexec rfl (hb hbytes d3) rfl rfl rfl ?_
    refine XS.aloadN X3.here hexec rfl (hb hbytes d4) rfl rfl ?_
    refine XS.iloadN X3.here hexec rfl (hb hbytes d5) rfl ?_
    refine XS.aloadN X3.here hexec rfl (hb hbytes d6) rfl rfl ?_
    refine iconstV X3.here hexec rfl 0 (hb hbytes d7) (by decide) ?_
    refine XS.iloadN X3.here hexec rfl (hb hbytes d8) rfl ?_
    exact Steps.refl _)
  obtain ⟨v6, T6, X6, E6, g6⟩ := X3.callS hexec (Cmp5.law l b A s.heap.size B3 o 0 len) hown (wks W (staticW U16 115 Cmp5.yN)) (wk W Cmp5.tab) (W := 0) (Nat.le_of_ble_eq_true rfl) (Nat.le_of_ble_eq_true rfl) (Nat.le_refl _) (by show 0 + len + 0 ≤ len; omega) (g := (mkF m 9 #[.val (.ref b), .val (.int (Int32.ofNat o)), .val (.int (Int32.ofNat len)), .val (.ref s.heap.size), .unset, .unset] [.int (Int32.ofNat len), .int (Int32.ofNat 0), .ref s.heap.size, .int (Int32.ofNat o), .ref b])) rfl (by rw [hml]; rfl) c5 (argsL := [.ref b, .int (Int32.ofNat o), .ref s.heap.size, .int (Int32.ofNat 0), .int (Int32.ofNat len)]) (rest := []) rfl rfl (by show 2 * 0 + 0 ≤ _; decide) (hb hbytes d9) (⟨rfl, hA3, ba3, hne, l1, by rw [bs3]; simp, hp⟩)
  obtain ⟨rfl, B6, p6, f6⟩ := E6
  have c7 : Steps p.tables e below (s₁.setTop (entryFrame m #[.ref b, .int (Int32.ofNat o), .int (Int32.ofNat len)] 6)) (T6.setTop (mkF m 12 #[.val (.ref b), .val (.int (Int32.ofNat o)), .val (.int (Int32.ofNat len)), .val (.ref s.heap.size), .unset, .unset] [.int (Int32.ofNat len)])) := g6
  have c8 : Steps p.tables e below (s₁.setTop (entryFrame m #[.ref b, .int (Int32.ofNat o), .int (Int32.ofNat len)] 6)) (T6.setTop (mkF m 58 #[.val (.ref b), .val (.int (Int32.ofNat o)), .val (.int (Int32.ofNat len)), .val (.ref s.heap.size), .val (.int (Int32.ofNat len)), .unset] [.ref s.heap.size])) := c7.trans (by
    refine XS.istore X6.here hexec rfl (hb hbytes d12) rfl rfl ?_
    refine XS.iload X6.here hexec rfl (hb hbytes d14) rfl ?_
    refine XS.iloadN X6.here hexec rfl (hb hbytes d16) rfl ?_
    refine XS.icmpYes X6.here hexec rfl (pc0 := 17) rfl (hb hbytes d17) rfl (ii_eq_t rfl) (by decide) rfl ?_
    refine XS.aloadN X6.here hexec rfl (hb hbytes d57) rfl rfl ?_
    exact Steps.refl _)
  have X8 := X6.wide (L' := []) (cells' := 1) (slots' := len) (fun x hx hlt => by
    simp only [List.nil_append, copyLocs, List.mem_map, List.mem_range] at hx
    obtain ⟨i, -, rfl⟩ := hx
    exact absurd hlt (Nat.lt_irrefl _)) (Nat.le_refl _) (by omega)
  exact ⟨T6, some (.ref s.heap.size), _, _, _, X8, rfl, rfl, rfl, (fun h => by cases h), ⟨⟨rfl, B6, ba3.like (X3.warmed.alike.symm.trans X6.warmed.alike) p6.1 f6.1 f6.2.1 f6.2.2.1, f6.2.1.trans bv3, by rw [X6.warmed.alike.findClass, f6.1]; exact bf3, by rw [f6.2.2.1, bs3]; simp, fun j hj => by rw [f6.2.2.2 j, if_pos (by omega)]; rfl, kp3.put p6 (Nat.le_refl _)⟩, by rw [p6.2.2, bh3, hh0]; simp⟩, fun fs hl => c8.trans (X8.areturnOut hexec rfl hret rfl (hb hbytes d58) hl)⟩
end Cmp3
namespace CodL
def yN : MethodName := ⟨"java/lang/StringUTF16", "coderFromArrayLen", "([BI)B"⟩
abbrev yB : ByteArray := jdk_52_method_15_code
theorem d0 : decode yB 0 = .ok (.iload_n 1, 1) := by decide +kernel
theorem d1 : decode yB 1 = .ok (.aload_n 0, 1) := by decide +kernel
theorem d2 : decode yB 2 = .ok (.arraylength, 1) := by decide +kernel
theorem d3 : decode yB 3 = .ok (.isub, 1) := by decide +kernel
theorem d4 : decode yB 4 = .ok (.bipush 31, 2) := by decide +kernel
theorem d6 : decode yB 6 = .ok (.iushr, 1) := by decide +kernel
theorem d7 : decode yB 7 = .ok (.i2b, 1) := by decide +kernel
theorem d8 : decode yB 8 = .ok (.ireturn, 1) := by decide +kernel
def site : List Cond := []
def tab : Cond := tabOf yN yB 2 (some .byte) site
def P (d : Addr) (B : Cell) (args : Array Value) (s : State) : Prop := args = #[.ref d, .int (Int32.ofNat B.slots.size)] ∧ Arr .byte d B s
def E (r : Option Value) (s u : State) : Prop := XT.PureE (some (.int 0)) r s u
/-- an array as long as the number of chars: LATIN1 -/
theorem law (l : Launch) (d : Addr) (B : Cell) : Law l yN 2 2 0 0 yB 2 (some .byte) site (P d B) E [] 0 0 := by
  refine Law.of_walk (plainFor_of_name (by decide +kernel)) (by decide +kernel) (by decide +kernel) (by decide) (fun _ _ h => by rw [h.1]; rfl) (fun _ U U' hal hh h => ⟨h.1, h.2.mv hal hh⟩) (fun r U U' V V' h1 hal h2 h => XT.PureE.mv r U U' V V' h1 hal h2 h) ?_
  intro p e s m args below meth c s₁ X0 hexec hbytes hml hret hlk hnm hown hh0 W hP
  obtain ⟨rfl, hB⟩ := hP
  have hB0 := hB.mv X0.warmed.alike hh0
  have c1 : Steps p.tables e below (s₁.setTop (entryFrame m #[.ref d, .int (Int32.ofNat B.slots.size)] 2)) (s₁.setTop (mkF m 0 #[.val (.ref d), .val (.int (Int32.ofNat B.slots.size))] [])) := entry rfl
  have c2 : Steps p.tables e below (s₁.setTop (entryFrame m #[.ref d, .int (Int32.ofNat B.slots.size)] 2)) (s₁.setTop (mkF m 2 #[.val (.ref d), .val (.int (Int32.ofNat B.slots.size))] [.ref d, .int (Int32.ofNat B.slots.size)])) := c1.trans (by
    refine XS.iloadN X0.here hexec rfl (hb hbytes d0) rfl ?_
    refine XS.aloadN X0.here hexec rfl (hb hbytes d1) rfl rfl ?_
    exact Steps.refl _)
  have c3 : Steps p.tables e below (s₁.setTop (entryFrame m #[.ref d, .int (Int32.ofNat B.slots.size)] 2)) (s₁.setTop (mkF m 8 #[.val (.ref d), .val (.int (Int32.ofNat B.slots.size))] [.int (lo8 (ushr (Int32.ofNat B.slots.size - Int32.ofNat B.slots.size) 31))])) := c2.trans (by
    refine X0.alen hexec hB0 rfl rfl (hb hbytes d2) ?_
    refine XS.isub X0.here hexec rfl (hb hbytes d3) rfl ?_
    refine bipushV X0.here hexec rfl 31 (hb hbytes d4) (by decide) ?_
    refine iushr X0.here hexec rfl (hb hbytes d6) rfl ?_
    refine i2b X0.here hexec rfl (hb hbytes d7) rfl ?_
    exact Steps.refl _)
  have e0 : lo8 (ushr (Int32.ofNat B.slots.size - Int32.ofNat B.slots.size) 31) = 0 := by rw [Int32.sub_self]; decide
  rw [e0] at c3
  exact ⟨s₁, some (.int 0), _, _, _, X0, rfl, rfl, rfl, (fun h => by cases h), ⟨rfl, hh0⟩, fun fs hl => c3.trans (X0.ireturnOut hexec hret rfl (Or.inr (Or.inr (Or.inl rfl))) (hb hbytes d8) hl)⟩
end CodL
/-- the String at a is Latin-1 over a new byte[] (the heap's one new cell): the low bytes of the len chars of A from o on; every cell but a is kept -/
def Got (a : Addr) (D : Cell) (fV fC : Field) (A : Cell) (o len : Nat) (r : Option Value) (s u : State) : Prop := r = none ∧ ∃ D' V : Cell, Blank "java/lang/String" a D' u ∧ Same D D' [fV.slot, fC.slot] ∧ D'.slots[fV.slot]? = some (.ref s.heap.size) ∧ D'.slots[fC.slot]? = some (.int 0) ∧ Arr .byte s.heap.size V u ∧ V.vm = .none ∧ u.vm.findClass "[B" = some V.cls ∧ V.slots.size = len ∧ (∀ j, j < len → V.slots[j]? = some (.int (lo8 (cv A (o + j))))) ∧ (∀ (y : Addr) (c : Cell), y ≠ a → s.heap[y]? = some c → u.heap[y]? = some c) ∧ u.heap.size = s.heap.size + 1
theorem Got.mv {a : Addr} {D A : Cell} {fV fC : Field} {o len : Nat} : ∀ r (U U' V V' : State), U'.heap = U.heap → V.vm.Alike V'.vm → V'.heap = V.heap → Got a D fV fC A o len r U V → Got a D fV fC A o len r U' V' :=
  fun r U U' V V' h1 hal h2 ⟨e0, D', X, a1, a2, a3, a4, a5, a6, a7, a8, a9, a10, a11⟩ => ⟨e0, D', X, a1.mv hal h2, a2, by rw [h1]; exact a3, a4, by rw [h1]; exact a5.mv hal h2, a6, by rw [hal.findClass]; exact a7, a8, a9, by rw [h1, h2]; exact a10, by rw [h1, h2]; exact a11⟩
namespace New4
def yN : MethodName := ⟨"java/lang/String", "<init>", "([CIILjava/lang/Void;)V"⟩
abbrev yB : ByteArray := jdk_42_method_149_code
theorem d0 : decode yB 0 = .ok (.aload_n 0, 1) := by decide +kernel
theorem d1 : decode yB 1 = .ok (.invokespecial 1, 3) := by decide +kernel
theorem d4 : decode yB 4 = .ok (.iload_n 3, 1) := by decide +kernel
theorem d5 : decode yB 5 = .ok (.ifCond (.ne) 22, 3) := by decide +kernel
theorem d27 : decode yB 27 = .ok (.getstatic 38, 3) := by decide +kernel
theorem d30 : decode yB 30 = .ok (.ifCond (.eq) 28, 3) := by decide +kernel
theorem d33 : decode yB 33 = .ok (.aload_n 1, 1) := by decide +kernel
theorem d34 : decode yB 34 = .ok (.iload_n 2, 1) := by decide +kernel
theorem d35 : decode yB 35 = .ok (.iload_n 3, 1) := by decide +kernel
theorem d36 : decode yB 36 = .ok (.invokestatic 177, 3) := by decide +kernel
theorem d39 : decode yB 39 = .ok (.astore 5, 2) := by decide +kernel
theorem d41 : decode yB 41 = .ok (.aload_n 0, 1) := by decide +kernel
theorem d42 : decode yB 42 = .ok (.aload 5, 2) := by decide +kernel
theorem d44 : decode yB 44 = .ok (.iload_n 3, 1) := by decide +kernel
theorem d45 : decode yB 45 = .ok (.invokestatic 47, 3) := by decide +kernel
theorem d48 : decode yB 48 = .ok (.putfield 15, 3) := by decide +kernel
theorem d51 : decode yB 51 = .ok (.aload_n 0, 1) := by decide +kernel
theorem d52 : decode yB 52 = .ok (.aload 5, 2) := by decide +kernel
theorem d54 : decode yB 54 = .ok (.putfield 9, 3) := by decide +kernel
theorem d57 : decode yB 57 = .ok (.return_, 1) := by decide +kernel
def site : List Cond := [.fieldLink "java/lang/String" 38 "java/lang/String" "COMPACT_STRINGS" "Z", Cmp3.tab, CodL.tab, .laysFinal "java/lang/String" "java/lang/String" "value" "[B", .fieldLink "java/lang/String" 9 "java/lang/String" "value" "[B", .laysFinal "java/lang/String" "java/lang/String" "coder" "B", .fieldLink "java/lang/String" 15 "java/lang/String" "coder" "B"] ++ objW "java/lang/String" 1 ++ staticW "java/lang/String" 177 Cmp3.yN ++ staticW "java/lang/String" 47 CodL.yN
def tab : Cond := tabOf yN yB 6 none site
def P (a : Addr) (D : Cell) (fV fC : Field) (b : Addr) (A : Cell) (z : Int32) (o len : Nat) (args : Array Value) (s : State) : Prop := args = #[.ref a, .ref b, .int (Int32.ofNat o), .int (Int32.ofNat len), .null] ∧ Blank "java/lang/String" a D s ∧ Found "java/lang/String" "value" "[B" fV s ∧ Found "java/lang/String" "coder" "B" fC s ∧ Ch b A s ∧ StaticIs s "java/lang/String" "COMPACT_STRINGS" "Z" (.int z) ∧ ¬ z = 0 ∧ 0 < len ∧ o + len ≤ A.slots.size ∧ len ≤ 536870912 ∧ ∀ i, i < len → ¬ 255 < cv A (o + i)
def E (a : Addr) (D : Cell) (fV fC : Field) (A : Cell) (o len : Nat) (r : Option Value) (s u : State) : Prop := Got a D fV fC A o len r s u
/-- len > 0, no char of the range above 255: a Latin-1 String of their low bytes -/
theorem law (l : Launch) (a : Addr) (D : Cell) (fV fC : Field) (b : Addr) (A : Cell) (z : Int32) (o len : Nat) : Law l yN 5 4 2 35 yB 6 none site (P a D fV fC b A z o len) (E a D fV fC A o len) [⟨a, fC.slot⟩, ⟨a, fV.slot⟩] 1 len := by
  refine Law.of_walk (plainFor_of_name (by decide +kernel)) (by decide +kernel) (by decide +kernel) (by decide) (fun _ _ h => by rw [h.1]; rfl) (fun _ U U' hal hh h => ⟨h.1, h.2.1.mv hal hh, h.2.2.1.al hal, h.2.2.2.1.al hal, h.2.2.2.2.1.mv hal hh, h.2.2.2.2.2.1.there hal hh, h.2.2.2.2.2.2⟩) (fun r U U' V V' h1 hal h2 h => Got.mv r U U' V V' h1 hal h2 h) ?_
  intro p e s m args below meth c s₁ X0 hexec hbytes hml hret hlk hnm hown hh0 W hP
  obtain ⟨rfl, hB, f1, f2, hA, s1, hz, l0, l1, l2, hp⟩ := hP
  have a31 := hA.1.2.2.2
  have c1 : Steps p.tables e below (s₁.setTop (entryFrame m #[.ref a, .ref b, .int (Int32.ofNat o), .int (Int32.ofNat len), .null] 6)) (s₁.setTop (mkF m 0 #[.val (.ref a), .val (.ref b), .val (.int (Int32.ofNat o)), .val (.int (Int32.ofNat len)), .val .null, .unset] [])) := entry rfl
  have c2 : Steps p.tables e below (s₁.setTop (entryFrame m #[.ref a, .ref b, .int (Int32.ofNat o), .int (Int32.ofNat len), .null] 6)) (s₁.setTop (mkF m 1 #[.val (.ref a), .val (.ref b), .val (.int (Int32.ofNat o)), .val (.int (Int32.ofNat len)), .val .null, .unset] [.ref a])) := c1.trans (by
    refine XS.aloadN X0.here hexec rfl (hb hbytes d0) rfl rfl ?_
    exact Steps.refl _)
  obtain ⟨T3, X3, q3, st3⟩ := X0.oinit hexec hown (wks W (objW "java/lang/String" 1)) (g := (mkF m 1 #[.val (.ref a), .val (.ref b), .val (.int (Int32.ofNat o)), .val (.int (Int32.ofNat len)), .val .null, .unset] [.ref a])) rfl (by rw [hml]; rfl) (rest := []) rfl (hb hbytes d1) (W := 0) (by show 2 * 0 + 0 ≤ _; decide) (Nat.le_of_ble_eq_true rfl) (Nat.le_of_ble_eq_true rfl)
  have hh3 := q3.trans hh0
  have c4 : Steps p.tables e below (s₁.setTop (entryFrame m #[.ref a, .ref b, .int (Int32.ofNat o), .int (Int32.ofNat len), .null] 6)) (T3.setTop (mkF m 27 #[.val (.ref a), .val (.ref b), .val (.int (Int32.ofNat o)), .val (.int (Int32.ofNat len)), .val .null, .unset] [])) := (c2.trans (st3 _ (Steps.refl _))).trans (by
    refine XS.iloadN X3.here hexec rfl (hb hbytes d4) rfl ?_
    refine XS.ifYes X3.here hexec rfl (pc0 := 5) rfl (hb hbytes d5) rfl (i0_ne_t (nz32 (by omega) l0)) (by decide) rfl ?_
    exact Steps.refl _)
  obtain ⟨T5, X5, q5, st5⟩ := X3.sget hexec hown (wk W (.fieldLink "java/lang/String" 38 "java/lang/String" "COMPACT_STRINGS" "Z")) s1 (fun _ _ h => by rw [hh3]; exact h) (g := (mkF m 27 #[.val (.ref a), .val (.ref b), .val (.int (Int32.ofNat o)), .val (.int (Int32.ofNat len)), .val .null, .unset] [])) rfl (hb hbytes d27)
  have hh5 := q5.trans hh3
  have c6 : Steps p.tables e below (s₁.setTop (entryFrame m #[.ref a, .ref b, .int (Int32.ofNat o), .int (Int32.ofNat len), .null] 6)) (T5.setTop (mkF m 30 #[.val (.ref a), .val (.ref b), .val (.int (Int32.ofNat o)), .val (.int (Int32.ofNat len)), .val .null, .unset] [.int z])) := c4.trans (st5 _ (Steps.refl _))
  have c7 : Steps p.tables e below (s₁.setTop (entryFrame m #[.ref a, .ref b, .int (Int32.ofNat o), .int (Int32.ofNat len), .null] 6)) (T5.setTop (mkF m 36 #[.val (.ref a), .val (.ref b), .val (.int (Int32.ofNat o)), .val (.int (Int32.ofNat len)), .val .null, .unset] [.int (Int32.ofNat len), .int (Int32.ofNat o), .ref b])) := c6.trans (by
    refine XS.ifNo X5.here hexec rfl (hb hbytes d30) rfl (i0_eq_f hz) ?_
    refine XS.aloadN X5.here hexec rfl (hb hbytes d33) rfl rfl ?_
    refine XS.iloadN X5.here hexec rfl (hb hbytes d34) rfl ?_
    refine XS.iloadN X5.here hexec rfl (hb hbytes d35) rfl ?_
    exact Steps.refl _)
  obtain ⟨v8, T8, X8, E8, g8⟩ := X5.callS hexec (Cmp3.law l b A o len) hown (wks W (staticW "java/lang/String" 177 Cmp3.yN)) (wk W Cmp3.tab) (W := 0) (Nat.le_of_ble_eq_true rfl) (Nat.le_of_ble_eq_true rfl) (Nat.le_refl _) (by show 0 + len ≤ len; omega) (g := (mkF m 36 #[.val (.ref a), .val (.ref b), .val (.int (Int32.ofNat o)), .val (.int (Int32.ofNat len)), .val .null, .unset] [.int (Int32.ofNat len), .int (Int32.ofNat o), .ref b])) rfl (by rw [hml]; rfl) c7 (argsL := [.ref b, .int (Int32.ofNat o), .int (Int32.ofNat len)]) (rest := []) rfl rfl (by show 2 * 0 + 0 ≤ _; decide) (hb hbytes d36) (⟨rfl, hA.mv X5.warmed.alike hh5, l1, l2, hp⟩)
  obtain ⟨e8, z8⟩ := E8
  obtain ⟨rfl, N, n1, n2, n3, n4, n5, n6⟩ := NewArr.mv _ T5 s _ _ hh5.symm (Vm.Alike.refl _) rfl e8
  rw [hh5] at z8
  have hB1 := hB.keep X8.warmed.alike (n6 _ _ hB.1)
  have hne : s.heap.size ≠ a := (Nat.ne_of_lt (Array.getElem?_eq_some_iff.mp hB.1).1).symm
  have c9 : Steps p.tables e below (s₁.setTop (entryFrame m #[.ref a, .ref b, .int (Int32.ofNat o), .int (Int32.ofNat len), .null] 6)) (T8.setTop (mkF m 39 #[.val (.ref a), .val (.ref b), .val (.int (Int32.ofNat o)), .val (.int (Int32.ofNat len)), .val .null, .unset] [.ref s.heap.size])) := g8
  have c10 : Steps p.tables e below (s₁.setTop (entryFrame m #[.ref a, .ref b, .int (Int32.ofNat o), .int (Int32.ofNat len), .null] 6)) (T8.setTop (mkF m 45 #[.val (.ref a), .val (.ref b), .val (.int (Int32.ofNat o)), .val (.int (Int32.ofNat len)), .val .null, .val (.ref s.heap.size)] [.int (Int32.ofNat N.slots.size), .ref s.heap.size, .ref a])) := by
    have hc : Steps p.tables e below (s₁.setTop (entryFrame m #[.ref a, .ref b, .int (Int32.ofNat o), .int (Int32.ofNat len), .null] 6)) (T8.setTop (mkF m 45 #[.val (.ref a), .val (.ref b), .val (.int (Int32.ofNat o)), .val (.int (Int32.ofNat len)), .val .null, .val (.ref s.heap.size)] [.int (Int32.ofNat len), .ref s.heap.size, .ref a])) := c9.trans (by
      refine XS.astore X8.here hexec rfl (hb hbytes d39) rfl rfl rfl ?_
      refine XS.aloadN X8.here hexec rfl (hb hbytes d41) rfl rfl ?_
      refine XS.aload X8.here hexec rfl (hb hbytes d42) rfl rfl ?_
      refine XS.iloadN X8.here hexec rfl (hb hbytes d44) rfl ?_
      exact Steps.refl _)
    rw [n4]; exact hc
  obtain ⟨v11, T11, X11, E11, g11⟩ := X8.callS hexec (CodL.law l s.heap.size N) hown (wks W (staticW "java/lang/String" 47 CodL.yN)) (wk W CodL.tab) (W := 1) (Nat.le_of_ble_eq_true rfl) (Nat.le_of_ble_eq_true rfl) (Nat.le_refl _) (by show 0 + len + 0 ≤ len; omega) (g := (mkF m 45 #[.val (.ref a), .val (.ref b), .val (.int (Int32.ofNat o)), .val (.int (Int32.ofNat len)), .val .null, .val (.ref s.heap.size)] [.int (Int32.ofNat N.slots.size), .ref s.heap.size, .ref a])) rfl (by rw [hml]; rfl) c10 (argsL := [.ref s.heap.size, .int (Int32.ofNat N.slots.size)]) (rest := [.ref a]) rfl rfl (by show 2 * 0 + (1 + 0) ≤ _; decide) (hb hbytes d45) (⟨rfl, n1⟩)
  obtain ⟨rfl, q11⟩ := E11
  have hB11 := hB1.mv (X8.warmed.alike.symm.trans X11.warmed.alike) q11
  have c12 : Steps p.tables e below (s₁.setTop (entryFrame m #[.ref a, .ref b, .int (Int32.ofNat o), .int (Int32.ofNat len), .null] 6)) (T11.setTop (mkF m 48 #[.val (.ref a), .val (.ref b), .val (.int (Int32.ofNat o)), .val (.int (Int32.ofNat len)), .val .null, .val (.ref s.heap.size)] [.int 0, .ref a])) := g11
  obtain ⟨T13, X13, p13, bl13, sl13, st13⟩ := X11.finit hexec hown (wk W (.fieldLink "java/lang/String" 15 "java/lang/String" "coder" "B")) (Or.inr ⟨_, (wk W (.laysFinal "java/lang/String" "java/lang/String" "coder" "B"))⟩) (Or.inl ⟨rfl, hnm⟩) f2 (Or.inl rfl) hB11 (t := .byte) (by decide +kernel) rfl (g := (mkF m 48 #[.val (.ref a), .val (.ref b), .val (.int (Int32.ofNat o)), .val (.int (Int32.ofNat len)), .val .null, .val (.ref s.heap.size)] [.int 0, .ref a])) rfl (rest := []) rfl (hb hbytes d48)
  have c14 : Steps p.tables e below (s₁.setTop (entryFrame m #[.ref a, .ref b, .int (Int32.ofNat o), .int (Int32.ofNat len), .null] 6)) (T13.setTop (mkF m 54 #[.val (.ref a), .val (.ref b), .val (.int (Int32.ofNat o)), .val (.int (Int32.ofNat len)), .val .null, .val (.ref s.heap.size)] [.ref s.heap.size, .ref a])) := (c12.trans (st13 _ (Steps.refl _))).trans (by
    refine XS.aloadN X13.here hexec rfl (hb hbytes d51) rfl rfl ?_
    refine XS.aload X13.here hexec rfl (hb hbytes d52) rfl rfl ?_
    exact Steps.refl _)
  obtain ⟨T15, X15, p15, bl15, sl15, st15⟩ := X13.finit hexec hown (wk W (.fieldLink "java/lang/String" 9 "java/lang/String" "value" "[B")) (Or.inr ⟨_, (wk W (.laysFinal "java/lang/String" "java/lang/String" "value" "[B"))⟩) (Or.inl ⟨rfl, hnm⟩) f1 (Or.inl rfl) bl13 (t := (.array .byte)) (by decide +kernel) rfl (g := (mkF m 54 #[.val (.ref a), .val (.ref b), .val (.int (Int32.ofNat o)), .val (.int (Int32.ofNat len)), .val .null, .val (.ref s.heap.size)] [.ref s.heap.size, .ref a])) rfl (rest := []) rfl (hb hbytes d54)
  have c16 : Steps p.tables e below (s₁.setTop (entryFrame m #[.ref a, .ref b, .int (Int32.ofNat o), .int (Int32.ofNat len), .null] 6)) (T15.setTop (mkF m 57 #[.val (.ref a), .val (.ref b), .val (.int (Int32.ofNat o)), .val (.int (Int32.ofNat len)), .val .null, .val (.ref s.heap.size)] [])) := c14.trans (st15 _ (Steps.refl _))
  have ap := apart (Or.inr ⟨_, (wk W (.laysFinal "java/lang/String" "java/lang/String" "value" "[B"))⟩) (Or.inr ⟨_, (wk W (.laysFinal "java/lang/String" "java/lang/String" "coder" "B"))⟩) f1 f2 (t₁ := .array .byte) (t₂ := .byte) (by decide +kernel) (by decide +kernel) (by decide)
  have al := X8.warmed.alike.symm.trans X15.warmed.alike
  have n7 : T11.heap[s.heap.size]? = some N := by rw [q11]; exact n1.1
  exact ⟨T15, none, _, _, _, X15, by simp, rfl, by omega, (fun _ => rfl), ⟨rfl, _, N, bl15, ((Same.refl D _).set _ (by simp)).set _ (by simp), sl15, (Cell.slots_setSlot_ne _ ap).trans sl13, n1.keep al (p15.other hne (p13.other hne n7)), n2, by rw [al.findClass]; exact n3, n4, n5, fun y c h1 h2 => p15.other h1 (p13.other h1 (by rw [q11]; exact n6 y c h2)), by rw [p15.2.2, p13.2.2, q11]; exact z8⟩, fun fs hl => c16.trans (X15.returnOut hexec hret (hb hbytes d57) hl)⟩
end New4
namespace New1
def yN : MethodName := ⟨"java/lang/String", "<init>", "([C)V"⟩
abbrev yB : ByteArray := jdk_42_method_3_code
theorem d0 : decode yB 0 = .ok (.aload_n 0, 1) := by decide +kernel
theorem d1 : decode yB 1 = .ok (.aload_n 1, 1) := by decide +kernel
theorem d2 : decode yB 2 = .ok (.iconst 0, 1) := by decide +kernel
theorem d3 : decode yB 3 = .ok (.aload_n 1, 1) := by decide +kernel
theorem d4 : decode yB 4 = .ok (.arraylength, 1) := by decide +kernel
theorem d5 : decode yB 5 = .ok (.aconst_null, 1) := by decide +kernel
theorem d6 : decode yB 6 = .ok (.invokespecial 27, 3) := by decide +kernel
theorem d9 : decode yB 9 = .ok (.return_, 1) := by decide +kernel
def site : List Cond := [New4.tab] ++ initW "java/lang/String" 27 New4.yN
def tab : Cond := tabOf yN yB 2 none site
def P (a : Addr) (D : Cell) (fV fC : Field) (b : Addr) (A : Cell) (z : Int32) (args : Array Value) (s : State) : Prop := args = #[.ref a, .ref b] ∧ Blank "java/lang/String" a D s ∧ Found "java/lang/String" "value" "[B" fV s ∧ Found "java/lang/String" "coder" "B" fC s ∧ Ch b A s ∧ StaticIs s "java/lang/String" "COMPACT_STRINGS" "Z" (.int z) ∧ ¬ z = 0 ∧ 0 < A.slots.size ∧ A.slots.size ≤ 536870912 ∧ ∀ i, i < A.slots.size → ¬ 255 < cv A i
def E (a : Addr) (D : Cell) (fV fC : Field) (A : Cell) (r : Option Value) (s u : State) : Prop := Got a D fV fC A 0 A.slots.size r s u
/-- new String(chars), not empty, no char above 255: a Latin-1 String of their low bytes -/
theorem law (l : Launch) (a : Addr) (D : Cell) (fV fC : Field) (b : Addr) (A : Cell) (z : Int32) : Law l yN 2 1 3 52 yB 2 none site (P a D fV fC b A z) (E a D fV fC A) [⟨a, fC.slot⟩, ⟨a, fV.slot⟩] 1 A.slots.size := by
  refine Law.of_walk (plainFor_of_name (by decide +kernel)) (by decide +kernel) (by decide +kernel) (by decide) (fun _ _ h => by rw [h.1]; rfl) (fun _ U U' hal hh h => ⟨h.1, h.2.1.mv hal hh, h.2.2.1.al hal, h.2.2.2.1.al hal, h.2.2.2.2.1.mv hal hh, h.2.2.2.2.2.1.there hal hh, h.2.2.2.2.2.2⟩) (fun r U U' V V' h1 hal h2 h => Got.mv r U U' V V' h1 hal h2 h) ?_
  intro p e s m args below meth c s₁ X0 hexec hbytes hml hret hlk hnm hown hh0 W hP
  obtain ⟨rfl, hB, f1, f2, hA, s1, hz, l0, l2, hp⟩ := hP
  have c1 : Steps p.tables e below (s₁.setTop (entryFrame m #[.ref a, .ref b] 2)) (s₁.setTop (mkF m 0 #[.val (.ref a), .val (.ref b)] [])) := entry rfl
  have c2 : Steps p.tables e below (s₁.setTop (entryFrame m #[.ref a, .ref b] 2)) (s₁.setTop (mkF m 6 #[.val (.ref a), .val (.ref b)] [.null, .int (Int32.ofNat A.slots.size), .int 0, .ref b, .ref a])) := c1.trans (by
    refine XS.aloadN X0.here hexec rfl (hb hbytes d0) rfl rfl ?_
    refine XS.aloadN X0.here hexec rfl (hb hbytes d1) rfl rfl ?_
    refine iconstV X0.here hexec rfl 0 (hb hbytes d2) (by decide) ?_
    refine XS.aloadN X0.here hexec rfl (hb hbytes d3) rfl rfl ?_
    refine X0.alen hexec (hA.1.mv X0.warmed.alike hh0) rfl rfl (hb hbytes d4) ?_
    refine XS.aconstNull X0.here hexec rfl (hb hbytes d5) ?_
    exact Steps.refl _)
  obtain ⟨v3, T3, X3, E3, g3⟩ := X0.callN hexec (New4.law l a D fV fC b A z 0 A.slots.size) rfl hown (wks W (initW "java/lang/String" 27 New4.yN)) (W New4.tab (by simp only [site, List.mem_cons, List.mem_append, true_or, or_true])) (W := 0) (Nat.le_of_ble_eq_true rfl) (Nat.le_of_ble_eq_true rfl) (Nat.le_refl _) (by show 0 + A.slots.size ≤ A.slots.size; omega) (g := (mkF m 6 #[.val (.ref a), .val (.ref b)] [.null, .int (Int32.ofNat A.slots.size), .int (Int32.ofNat 0), .ref b, .ref a])) rfl (by rw [hml]; rfl) c2 (argsL := [.ref b, .int (Int32.ofNat 0), .int (Int32.ofNat A.slots.size), .null]) (rest := []) rfl rfl (by show 2 * 0 + 0 ≤ _; decide) (hb hbytes d6) (⟨rfl, hB.mv X0.warmed.alike hh0, f1.al X0.warmed.alike, f2.al X0.warmed.alike, hA.mv X0.warmed.alike hh0, s1.there X0.warmed.alike hh0, hz, l0, by omega, l2, fun i hi => by rw [Nat.zero_add]; exact hp i hi⟩)
  have e0 := Got.mv _ s₁ s _ _ hh0.symm (Vm.Alike.refl _) rfl E3
  obtain rfl := e0.1
  have c4 : Steps p.tables e below (s₁.setTop (entryFrame m #[.ref a, .ref b] 2)) (T3.setTop (mkF m 9 #[.val (.ref a), .val (.ref b)] [])) := g3
  exact ⟨T3, none, _, _, _, X3, by simp, rfl, by omega, (fun _ => rfl), e0, fun fs hl => c4.trans (X3.returnOut hexec hret (hb hbytes d9) hl)⟩
theorem pays {l : Launch} {R : Room} {p : Program} {e : Env} {below : List Frame} {s : State} {sargs : Array Value} {len W : Nat} (a : Addr) (D : Cell) (fV fC : Field) (b : Addr) (A : Cell) (z : Int32) (htab : tab.before sargs s = true) (hfr : 4 ≤ R.frames) (hlo : W + 65 ≤ R.locals) :
    Back l R p e below s sargs yN len W (fun A₁ a₁ => A₁.cells + 1 ≤ R.cells ∧ A₁.slots + A.slots.size ≤ R.slots ∧ P a D fV fC b A z a₁ A₁.U) (fun A₁ _ v₁ B₁ => E a D fV fC A v₁ A₁.U B₁.U ∧ B₁.locs = A₁.locs ++ [⟨a, fC.slot⟩, ⟨a, fV.slot⟩] ∧ B₁.cells = A₁.cells + 1 ∧ B₁.slots = A₁.slots + A.slots.size) :=
  (law l a D fV fC b A z).pays htab hfr (by omega)
end New1
end StrChars
namespace StrChars.Road
open Jvm Sem ClassFile Op Lib Jvm.Stand Jvm.Free Jvm.Free.XT
open Jvm.Lib.Cold (StaticIs)
abbrev ST : String := "java/lang/String"
/-- every table word that New1's law asks, flat -/
abbrev words : List Jvm.Cond := [.code New1.yN New1.yB 2 none, .initialized ST, .methodLink ST 27 New4.yN, .instanceMethod New4.yN,
  .code New4.yN New4.yB 6 none, .fieldLink ST 38 ST "COMPACT_STRINGS" "Z", .laysFinal ST ST "value" "[B", .fieldLink ST 9 ST "value" "[B", .laysFinal ST ST "coder" "B", .fieldLink ST 15 ST "coder" "B",
  .methodLink ST 1 Lib.objectInit, .instanceMethod Lib.objectInit, .code Lib.objectInit ⟨#[0xb1]⟩ 1 none, .methodLink ST 177 Cmp3.yN, .static Cmp3.yN, .methodLink ST 47 CodL.yN, .static CodL.yN,
  .code Cmp3.yN Cmp3.yB 6 (some (.array .byte)), .initialized U16, .arrayClass .byte, .methodLink U16 115 Cmp5.yN, .static Cmp5.yN, .code Cmp5.yN Cmp5.yB 7 (some .int), .code CodL.yN CodL.yB 2 (some .byte)]
theorem tab_of {a : Array Value} {s : State} (h : ∀ w ∈ words, w.before a s = true) : New1.tab.before a s = true := by
  have h5 : Cmp5.tab.before a s = true := unparts (wk h (.code Cmp5.yN Cmp5.yB 7 (some .int))) (wks h (.initialized Cmp5.yN.cls :: Cmp5.site))
  have hc : CodL.tab.before a s = true := unparts (wk h (.code CodL.yN CodL.yB 2 (some .byte))) (wks h (.initialized CodL.yN.cls :: CodL.site))
  have q5 : ∀ w ∈ Cmp5.tab :: words, w.before a s = true := fun w hw => (List.mem_cons.mp hw).elim (fun e => e ▸ h5) (h w)
  have h3 : Cmp3.tab.before a s = true := unparts (wk q5 (.code Cmp3.yN Cmp3.yB 6 (some (.array .byte)))) (wks q5 (.initialized Cmp3.yN.cls :: Cmp3.site))
  have q3 : ∀ w ∈ Cmp3.tab :: CodL.tab :: words, w.before a s = true := fun w hw => (List.mem_cons.mp hw).elim (fun e => e ▸ h3) fun hw => (List.mem_cons.mp hw).elim (fun e => e ▸ hc) (h w)
  have h4 : New4.tab.before a s = true := unparts (wk q3 (.code New4.yN New4.yB 6 none)) (wks q3 (.initialized New4.yN.cls :: New4.site))
  have q4 : ∀ w ∈ New4.tab :: words, w.before a s = true := fun w hw => (List.mem_cons.mp hw).elim (fun e => e ▸ h4) (h w)
  exact unparts (wk q4 (.code New1.yN New1.yB 2 none)) (wks q4 (.initialized New1.yN.cls :: New1.site))
/-- the words ride from the start Z to the walk's own state -/
theorem moved {Z s : State} {a0 args : Array Value} (hZ : Z.Warmed39 s.vm) (hw : ∀ d ∈ words, d.before a0 Z = true) : ∀ d ∈ words, d.before args s = true := fun d hd => by
  have q := hw d hd
  have t : ∀ d ∈ words, d = .arrayClass .byte ∨ (d.onTables && d.keepsFace) = true := by decide +kernel
  rcases t d hd with rfl | t
  · exact RoadKit.mvA hZ q
  · exact RoadKit.mv hZ q t
/-- WHAT COMES BACK, over the tables of the start Z: h the heap at the call, h' behind it -/
def Q (Z : State) (x : Addr) (A : Cell) (h : Heap) (v : Option Value) (h' : Heap) (L : List Loc) : Prop := v = none ∧ (∀ y ∈ L, y.base = x) ∧ RoadKit.Keep h h' [x] ∧ h'.size = h.size + 1 ∧ RoadKit.Exa Z h' x ST ∧ RoadKit.Fld Z h' x ST "value" "[B" (.ref h.size) ∧ RoadKit.Fld Z h' x ST "coder" "B" (.int 0) ∧
  (∃ V : Cell, RoadKit.Arr Z h' h.size V .byte ∧ V.vm = .none ∧ Z.vm.findClass "[B" = some V.cls ∧ V.slots.size = A.slots.size ∧ ∀ j, j < A.slots.size → V.slots[j]? = some (.int (lo8 (cv A j)))) ∧
  ∀ (O n d : String) (w : Value), RoadKit.Fld Z h x O n d w → RoadKit.slotOf Z O n d ≠ RoadKit.slotOf Z ST "value" "[B" → RoadKit.slotOf Z O n d ≠ RoadKit.slotOf Z ST "coder" "B" → RoadKit.Fld Z h' x O n d w
/-- **new String(chars) AT A CALL, IN THE ROAD'S FORM**: for specialBack behind newO: x the fresh String, b the char[] with the cell A -/
theorem back {p : Program} {l : Launch} {e : Env} {R : Room} {s : State} {args : Array Value} {below : List Frame} {len W : Nat} {Z : State} {a0 : Array Value} {h : Heap} (hZ : Z.Warmed39 s.vm) (hw : ∀ d ∈ words, d.before a0 Z = true) {kI : Nat} (wi : (Jvm.Cond.instantiable ST kI).before a0 Z = true)
    {x b : Addr} {A : Cell} {z : Int32} {v0 c0 : Value} (E : RoadKit.Exa Z h x ST) (V : RoadKit.Fld Z h x ST "value" "[B" v0) (C : RoadKit.Fld Z h x ST "coder" "B" c0) (K : RoadKit.Arr Z h b A .char) (hty : Typed .char A) (S : RoadKit.Sta Z h ST "COMPACT_STRINGS" "Z" (.int z)) (hz : ¬ z = 0)
    (l0 : 0 < A.slots.size) (l2 : A.slots.size ≤ 536870912) (hp : ∀ i, i < A.slots.size → ¬ 255 < cv A i) (hfr : 4 ≤ R.frames) (hlo : W + 65 ≤ R.locals) :
    Back l R p e below s args New1.yN len W (fun P a => a = #[.ref x, .ref b] ∧ P.U.heap = h ∧ P.cells + 1 ≤ R.cells ∧ P.slots + A.slots.size ≤ R.slots)
      (fun P _ v B => ∃ L, Q Z x A h v B.U.heap L ∧ B.locs = P.locs ++ L ∧ B.cells = P.cells + 1 ∧ B.slots = P.slots + A.slots.size) := by
  intro m meth c P g ig mk a X hg hsize hdg hW hn hp'
  obtain ⟨rfl, rfl, r1, r2⟩ := hp'
  have al : Z.vm.Alike P.U.vm := hZ.alike.trans X.warmed.alike
  obtain ⟨D, cfV, kV, iV, fV, hD, gV, stV, knV, obV, asV, slV⟩ := id V
  obtain ⟨D', cfC, kC, iC, fC, hD', gC, stC, -, -, asC, slC⟩ := id C
  cases hD.symm.trans hD'
  obtain ⟨D2, kD, e1, e2, e3, e4, e5⟩ := id E
  cases hD.symm.trans e1
  obtain ⟨c2, k2, i1, i2, i3, -⟩ := Cond.instantiable_spec wi
  cases e2.symm.trans i1
  cases e3.symm.trans i2
  obtain ⟨kU, u1, u2⟩ := al.2.2 _ _ e3
  have hB : Blank ST x D P.U := ⟨hD, ⟨knV, fun q hq => by rw [hq] at obV; cases obV⟩, by rw [al.findClass]; exact e2, kU, u1, by rw [u2]; exact i3, by rw [u2]; exact e5 i3⟩
  have F1 : Found ST "value" "[B" fV P.U := ⟨SBG.found_only al ⟨cfV, kV, iV, gV⟩, stV⟩
  have F2 : Found ST "coder" "B" fC P.U := ⟨SBG.found_only al ⟨cfC, kC, iC, gC⟩, stC⟩
  have hA : Ch b A P.U := ⟨⟨K.1, State.isArrayOf_alike al K.2.1, K.2.2, by omega⟩, hty⟩
  have hS : StaticIs P.U ST "COMPACT_STRINGS" "Z" (.int z) := by
    obtain ⟨cfS, iS, kS, fS, st, cS, t1, t2, t3, t4, t5, t6, t7⟩ := S
    exact StaticIs.there (s := { Z with heap := P.U.heap }) ⟨cfS, iS, kS, fS, st, cS, t1, t2, t3, t4, t5, (fun q => by rw [q] at t6; cases t6), t7⟩ al rfl
  obtain ⟨v, B, X', ⟨⟨hv, E', V', q1, q2, q3, q4, q5, q6, q7, q8, q9, q10, q11⟩, hl, hc, hs⟩, st⟩ := New1.pays x D fV fC b A z (tab_of (moved hZ hw)) hfr hlo m meth c P g ig mk _ X hg hsize hdg hW hn ⟨r1, r2, rfl, hB, F1, F2, hA, hS, hz, l0, l2, hp⟩
  have al' : Z.vm.Alike B.U.vm := hZ.alike.trans X'.warmed.alike
  have hsz : E'.slots.size = D.slots.size := by
    obtain ⟨-, -, -, kB, w1, w2, w3⟩ := q1
    obtain ⟨kB', y1, y2⟩ := al'.2.2 _ _ e3
    rw [q2.2.1] at w1
    cases w1.symm.trans y1
    rw [w3, e5 i3, y2]
  refine ⟨v, B, X', ⟨_, ⟨hv, ?_, ⟨by omega, fun y cy hy hn' => q10 y cy (by simpa using hn') hy, fun y cy hy => ?_⟩, q11, ⟨E', _, q1.1, by rw [q2.2.1]; exact e2, by rw [q2.2.1]; exact e3, by rw [q2.1]; exact obV, fun _ => by rw [hsz]; exact e5 i3⟩,
    ⟨E', cfV, kV, iV, fV, q1.1, gV, stV, by rw [q2.1]; exact knV, by rw [q2.1]; exact obV, by rw [q2.2.1]; exact asV, q3⟩, ⟨E', cfC, kC, iC, fC, q1.1, gC, stC, by rw [q2.1]; exact knV, by rw [q2.1]; exact obV, by rw [q2.2.1]; exact asC, q4⟩,
    ⟨V', ⟨q5.1, State.isArrayOf_alike al'.symm q5.2.1, q5.2.2.1⟩, q6, by rw [← al'.findClass]; exact q7, q8, fun j hj => by have := q9 j hj; rwa [Nat.zero_add] at this⟩, fun O n d w F n1 n2 => ?_⟩, hl, hc, hs⟩, st⟩
  · intro y hy
    simp only [List.mem_cons, List.not_mem_nil, or_false] at hy
    rcases hy with rfl | rfl <;> rfl
  · by_cases q : y = x
    · subst q
      cases hD.symm.trans hy
      exact ⟨E', q1.1, q2.2.1, q2.1, hsz⟩
    · exact ⟨cy, q10 y cy q hy, rfl, rfl, rfl⟩
  · obtain ⟨D3, cf, k, i, f, g1, g2, g3, g4, g5, g6, g7⟩ := F
    cases hD.symm.trans g1
    simp only [RoadKit.slotOf, g2, gV, gC, Option.map_some, Option.getD_some] at n1 n2
    exact ⟨E', cf, k, i, f, q1.1, g2, g3, by rw [q2.1]; exact g4, by rw [q2.1]; exact g5, by rw [q2.2.1]; exact g6, by rw [q2.2.2 f.slot (by simp [n1, n2])]; exact g7⟩
end StrChars.Road
namespace StrChars.Road
open Jvm Sem ClassFile Op Lib Jvm.Stand Jvm.Free Jvm.Free.XT
/-- WHAT COMES BACK, the byte[] as a list of values -/
def QA (Z : State) (x : Addr) (zn : Int32) (cs : List Int32) (h : Heap) (v : Option Value) (h' : Heap) (L : List Loc) : Prop := v = none ∧ (∀ y ∈ L, y.base = x) ∧ RoadKit.Keep h h' [x] ∧ h'.size = h.size + 1 ∧ RoadKit.Exa Z h' x ST ∧ RoadKit.Fld Z h' x ST "value" "[B" (.ref h.size) ∧ RoadKit.Fld Z h' x ST "coder" "B" (.int 0) ∧
  (∃ kb, Z.vm.findClass "[B" = some kb ∧ RoadKit.Arv Z h' h.size kb .byte zn (cs.map fun c => .int (lo8 c)) (.int 0)) ∧
  ∀ (O n d : String) (w : Value), RoadKit.Fld Z h x O n d w → RoadKit.slotOf Z O n d ≠ RoadKit.slotOf Z ST "value" "[B" → RoadKit.slotOf Z O n d ≠ RoadKit.slotOf Z ST "coder" "B" → RoadKit.Fld Z h' x O n d w
/-- **new String(chars) AT A CALL, THE ARRAYS AS LISTS**: the char[] at b holds cs, not empty, no char above 255 -/
theorem backArv {p : Program} {l : Launch} {e : Env} {R : Room} {s : State} {args : Array Value} {below : List Frame} {len W : Nat} {Z : State} {a0 : Array Value} {h : Heap} (hZ : Z.Warmed39 s.vm) (hw : ∀ d ∈ words, d.before a0 Z = true) {kI : Nat} (wi : (Jvm.Cond.instantiable ST kI).before a0 Z = true)
    {x b : Addr} {k : ClassId} {zn z : Int32} {cs : List Int32} {dv v0 c0 : Value} (E : RoadKit.Exa Z h x ST) (V : RoadKit.Fld Z h x ST "value" "[B" v0) (C : RoadKit.Fld Z h x ST "coder" "B" c0) (K : RoadKit.Arv Z h b k .char zn (cs.map Value.int) dv) (S : RoadKit.Sta Z h ST "COMPACT_STRINGS" "Z" (.int z)) (hz : ¬ z = 0)
    (hlen : zn.toNatClampNeg = cs.length) (h0 : 0 < cs.length) (hbig : cs.length ≤ 536870912) (hall : ∀ c ∈ cs, ¬ 255 < c) (hfr : 4 ≤ R.frames) (hlo : W + 65 ≤ R.locals) :
    Back l R p e below s args New1.yN len W (fun P a => a = #[.ref x, .ref b] ∧ P.U.heap = h ∧ P.cells + 1 ≤ R.cells ∧ P.slots + cs.length ≤ R.slots)
      (fun P _ v B => ∃ L, QA Z x zn cs h v B.U.heap L ∧ B.locs = P.locs ++ L ∧ B.cells = P.cells + 1 ∧ B.slots = P.slots + cs.length) := by
  obtain ⟨A, K1, K2, K3, K4, K5, K6⟩ := K
  have e : A.slots.size = cs.length := K3.trans hlen
  have hat : ∀ (i : Nat) (hi : i < cs.length), A.slots[i]? = some (.int cs[i]) := fun i hi => by rw [K5 i (by omega)]; simp [List.getD_eq_getElem?_getD, hi]
  have hcv : ∀ (i : Nat) (hi : i < cs.length), cv A i = cs[i] := fun i hi => by unfold cv; rw [hat i hi]
  have hty : Typed .char A := fun i v hv => by
    have hi : i < A.slots.size := (Array.getElem?_eq_some_iff.mp hv).1
    have q := K5 i hi
    rw [hv] at q
    rw [Option.some.inj q]
    exact K6 i hi
  refine Back.mono (back hZ hw wi E V C K1 hty S hz (by omega) (by omega) (fun i hi => by rw [hcv i (by omega)]; exact hall _ (List.getElem_mem _)) hfr hlo) (fun P a hp => ⟨hp.1, hp.2.1, hp.2.2.1, by rw [e]; exact hp.2.2.2⟩) (fun P a v B hp hq => ?_)
  obtain ⟨L, ⟨q1, q2, q3, q4, q5, q6, q7, ⟨V', v1, v2, v3, v4, v5⟩, q9⟩, hl, hc, hs⟩ := hq
  refine ⟨L, ⟨q1, q2, q3, q4, q5, q6, q7, ⟨V'.cls, v3, V', v1, rfl, by rw [v4, e, hlen], K4, fun i hi => ?_, fun i hi => ?_⟩, q9⟩, hl, hc, by rw [hs, e]⟩
  · have hi' : i < cs.length := by omega
    rw [v5 i (by omega), hcv i hi']; simp [List.getD_eq_getElem?_getD, hi']
  · have hi' : i < cs.length := by omega
    simp only [List.getD_eq_getElem?_getD, List.getElem?_map, List.getElem?_eq_getElem hi', Option.map_some, Option.getD_some]
    exact fits_lo8 _
end StrChars.Road
namespace StrChars.Road
open Jvm Sem ClassFile Op Lib Jvm.Stand Jvm.Free Jvm.Free.XT
/-- WHAT COMES BACK, in the writer's own shape -/
def QV (Z : State) (x : Addr) (N : Int32) (bs : List Int32) (h : Heap) (n0 : Nat) (v : Option Value) (h' : Heap) (L : List Loc) : Prop := v = none ∧ RoadKit.Fr n0 L ∧ RoadKit.Keep h h' [x] ∧ RoadKit.Exa Z h' x ST ∧ RoadKit.Fld Z h' x ST "coder" "B" (.int 0) ∧
  ∃ (t : Addr) (kb : ClassId), n0 ≤ t ∧ h.size ≤ t ∧ ¬ t = x ∧ RoadKit.Fld Z h' x ST "value" "[B" (.ref t) ∧ RoadKit.Arv Z h' t kb .byte N (bs.map Value.int) (.int 0)
/-- **new String(chars) AT A CALL, FOR THE WRITER**: a char[] of n known ints, each 0 to 255 -/
theorem backV {p : Program} {l : Launch} {e : Env} {R : Room} {s : State} {args : Array Value} {below : List Frame} {len W : Nat} {Z : State} {a0 : Array Value} {h : Heap} (hZ : Z.Warmed39 s.vm) (hw : ∀ d ∈ words, d.before a0 Z = true) {kI : Nat} (wi : (Jvm.Cond.instantiable ST kI).before a0 Z = true)
    {x b : Addr} {kC : ClassId} {cs bs : List Int32} {d v0 c0 : Value} {z N : Int32} {n n0 : Nat} (hx0 : n0 ≤ x) (hh0 : n0 ≤ h.size) (E : RoadKit.Exa Z h x ST) (V : RoadKit.Fld Z h x ST "value" "[B" v0) (C : RoadKit.Fld Z h x ST "coder" "B" c0) (K : RoadKit.Arv Z h b kC .char N (cs.map Value.int) d) (S : RoadKit.Sta Z h ST "COMPACT_STRINGS" "Z" (.int z)) (hz : ¬ z = 0)
    (hn : cs.length = n) (hN : N = Int32.ofNat n) (l0 : 0 < n) (l2 : n ≤ 4000) (hp : ∀ c ∈ cs, ¬ c < 0 ∧ ¬ (255 : Int32) < c) (hb : bs = cs.map (fun c => c.toInt8.toInt32)) (hfr : 4 ≤ R.frames) (hlo : W + 65 ≤ R.locals) :
    Back l R p e below s args (⟨"java/lang/String", "<init>", "([C)V"⟩ : MethodName) len W (fun P a => a = #[.ref x, .ref b] ∧ P.U.heap = h ∧ P.cells + 1 ≤ R.cells ∧ P.slots + n ≤ R.slots)
      (fun P _ v B => ∃ L, QV Z x N bs h n0 v B.U.heap L ∧ B.locs = P.locs ++ L ∧ B.cells = P.cells + 1 ∧ B.slots = P.slots + n) := by
  subst hn hN hb
  refine Back.mono (backArv hZ hw wi E V C K S hz (n32 (by omega)) l0 (by omega) (fun c hc => (hp c hc).2) hfr hlo) (fun P a hp => hp) (fun P a v B hp hq => ?_)
  obtain ⟨L, ⟨q1, q2, q3, q4, q5, q6, q7, ⟨kb, v1, v2⟩, q9⟩, hl, hc, hs⟩ := hq
  exact ⟨L, ⟨q1, fun y hy => by rw [q2 y hy]; exact hx0, q3, q5, q7, h.size, kb, hh0, Nat.le_refl _, Nat.ne_of_gt E.lt, q6, by rw [List.map_map]; exact v2⟩, hl, hc, hs⟩
end StrChars.Road
end Jvm.Pilot.@@N@@
namespace Jvm.Pilot.@@N@@
open Jvm Jvm.ClassFile Sem Op Lib Jvm.Free Jvm.Stand Jvm.LawKit Jvm.RoadKit Bundle Jvm.Pilot.@@N@@.Jvm.D
set_option maxRecDepth 65536
set_option maxHeartbeats 40000000
abbrev kc0 : String := "com/example/ringfence/ringfence/gate/Measures"
abbrev kc1 : String := "java/math/BigDecimal"
abbrev kc2 : String := "java/lang/String"
abbrev kc3 : String := "java/lang/Enum"
abbrev kc4 : String := "com/example/ringfence/ringfence/gate/Measure"
abbrev kc5 : String := "com/example/ringfence/ringfence/gate/Pool"
abbrev EL : List (String × Nat) := []
theorem own_and255 (x : Int32) : ¬ ((x &&& (255 : Int32)).toUInt32.toUInt16.toUInt32.toInt32) < 0 ∧ ¬ (255 : Int32) < ((x &&& (255 : Int32)).toUInt32.toUInt16.toUInt32.toInt32) := by
  have t : ∀ k : Fin 256, ¬ ((Int32.ofNat k.val).toUInt32.toUInt16.toUInt32.toInt32) < 0 ∧ ¬ (255 : Int32) < ((Int32.ofNat k.val).toUInt32.toUInt16.toUInt32.toInt32) := by decide +kernel
  have h : (x &&& 255).toBitVec.toNat < 256 := by
    rw [Int32.toBitVec_and, BitVec.toNat_and]
    exact Nat.lt_succ_of_le Nat.and_le_right
  have e : (x &&& 255) = Int32.ofNat (x &&& 255).toBitVec.toNat := by
    apply Int32.toBitVec_inj.mp
    show _ = BitVec.ofNat 32 _
    rw [BitVec.ofNat_toNat]; simp
  rw [e]
  exact t ⟨_, h⟩
theorem own_lat (x : Int32) : (((((x &&& (255 : Int32)).toUInt32.toUInt16.toUInt32.toInt32).toInt8.toInt32) &&& (255 : Int32)).toUInt32.toUInt16.toUInt32.toInt32) = ((x &&& (255 : Int32)).toUInt32.toUInt16.toUInt32.toInt32) := by
  have t : ∀ k : Fin 256, (((((Int32.ofNat k.val).toUInt32.toUInt16.toUInt32.toInt32).toInt8.toInt32) &&& (255 : Int32)).toUInt32.toUInt16.toUInt32.toInt32) = ((Int32.ofNat k.val).toUInt32.toUInt16.toUInt32.toInt32) := by decide +kernel
  have h : (x &&& 255).toBitVec.toNat < 256 := by
    rw [Int32.toBitVec_and, BitVec.toNat_and]
    exact Nat.lt_succ_of_le Nat.and_le_right
  have e : (x &&& 255) = Int32.ofNat (x &&& 255).toBitVec.toNat := by
    apply Int32.toBitVec_inj.mp
    show _ = BitVec.ofNat 32 _
    rw [BitVec.ofNat_toNat]; simp
  rw [e]
  exact t ⟨_, h⟩
theorem own_hws {Z : State} {a0 : Array Value} (hw : ∀ d ∈ tables_1, d.before a0 Z = true) : ∀ d ∈ StrChars.Road.words, d.before a0 Z = true := fun d hd => hw d ((by decide +kernel : ∀ d ∈ StrChars.Road.words, d ∈ tables_1) d hd)
theorem own_sz {c : Cell} {z : Int32} {n : Nat} (q : c.slots.size < 2 ^ 31) (e : c.slots.size.toInt32 = z) (h : z.toInt = (n : Int)) : c.slots.size = n := by
  have h1 := len_toInt q
  rw [e, h] at h1
  omega
theorem own_sw {Z : State} {args : Array Value} {t : Term} {a : Addr} {c : Cell} (ev : ∀ idx, t.eval args Z none idx Z = some (.ref a)) (A : Arr Z Z.heap a c .int) (q : c.slots.size < 2 ^ 31) (h : (Cond.all t (.eq (.op1 .i2l (.elem t (.index 0))) (.op2 .ladd (.op1 .i2l (.index 0)) (.long 1)))).value args Z none Z [] = some true) {i : Nat} (hi : i < c.slots.size) (z : Int32) (hz : (Int32.ofNat i).toInt64 + 1 = z.toInt64) : c.slots[i]? = some (.int z) := by
  have ha := A.fin (U := Z) (Vm.Alike.refl _)
  have h1 := Jvm.Example.Scan.all_true (ev []) ha h i hi
  have hi' : i < 2 ^ 31 := Nat.lt_trans hi q
  have hx : (Term.index 0).eval args Z none [i] Z = some (.int (Int32.ofNat i)) := rfl
  have e1 : (Term.op1 .i2l (.index 0)).eval args Z none [i] Z = some (.long (Int32.ofNat i).toInt64) := op1_f hx
  have e2 : (Term.long 1).eval args Z none [i] Z = some (.long 1) := rfl
  have e3 : (Term.op2 .ladd (.op1 .i2l (.index 0)) (.long 1)).eval args Z none [i] Z = some (.long ((Int32.ofNat i).toInt64 + 1)) := op2_f e1 e2
  have h2 := eqv_l e3 h1
  obtain ⟨x, h3, h4⟩ := op1_v h2
  rw [elem_f (ev [i]) hx ha (Int32.ofNat_not_neg hi'), Example.SumArray.toNatClampNeg_ofNat hi'] at h3
  cases x with
  | int w =>
    have h5 : w.toInt64 = (Int32.ofNat i).toInt64 + 1 := Value.long.inj (Option.some.inj (show some (Value.long w.toInt64) = some (Value.long _) from h4))
    have h6 : w = z := by
      have h7 := congrArg Int64.toInt (h5.trans hz)
      rw [Int32.toInt_toInt64, Int32.toInt_toInt64] at h7
      exact Int32.toInt_inj.mp h7
    rw [h3, h6]
  | _ => exact absurd (show (none : Option Value) = some _ from h4) (by simp)
abbrev DC (b : ByteArray) (p : Nat) (i : Instr) (n : Nat) : Prop := ∀ {c : Code}, c.code = b → decode c.code p = .ok (i, n)
abbrev WD (w : Jvm.Cond) : Prop := ∀ {Z : State} {a0 : Array Value}, (∀ d ∈ tables_1, d.before a0 Z = true) → w.before a0 Z = true
theorem own_wd (i : Nat) {w : Jvm.Cond} (h : tables_1[i]? = some w) {Z : State} {a0 : Array Value} (hw : ∀ d ∈ tables_1, d.before a0 Z = true) : w.before a0 Z = true := hw _ (List.mem_of_getElem? h)
abbrev yn_1 : MethodName := ⟨"com/example/ringfence/ringfence/gate/Measures", "<init>", "(Lcom/example/ringfence/ringfence/gate/Pool;)V"⟩
abbrev yn_3 : MethodName := ⟨"java/lang/String", "valueOf", "(C)Ljava/lang/String;"⟩
abbrev yn_4 : MethodName := ⟨"java/lang/StringLatin1", "canEncode", "(C)Z"⟩
abbrev yn_5 : MethodName := ⟨"java/lang/StringLatin1", "toBytes", "(C)[B"⟩
abbrev yn_6 : MethodName := ⟨"java/lang/String", "<init>", "([BB)V"⟩
abbrev yn_7 : MethodName := ⟨"com/example/ringfence/ringfence/gate/Measures", "setUnrated", "(Ljava/lang/String;)V"⟩
abbrev yn_8 : MethodName := ⟨"com/example/ringfence/ringfence/gate/Measures", "clear", "()V"⟩
abbrev yn_9 : MethodName := ⟨"com/example/ringfence/ringfence/gate/Measures", "unrated", "()Ljava/lang/String;"⟩
abbrev yn_10 : MethodName := ⟨"com/example/ringfence/ringfence/gate/Measures", "value", "(Lcom/example/ringfence/ringfence/gate/Measure;)Ljava/math/BigDecimal;"⟩
abbrev yn_11 : MethodName := ⟨"java/lang/Enum", "ordinal", "()I"⟩
abbrev yn_12 : MethodName := ⟨"java/lang/String", "<init>", "([C)V"⟩
theorem d11_0 : DC jdk_37_method_2_code 0 (.aload_n 0) 1 := fun h => hb h (by decide +kernel)
theorem d11_1 : DC jdk_37_method_2_code 1 (.getfield 7) 3 := fun h => hb h (by decide +kernel)
theorem d11_4 : DC jdk_37_method_2_code 4 (.ireturn) 1 := fun h => hb h (by decide +kernel)
theorem d3_0 : DC jdk_42_method_139_code 0 (.getstatic 38) 3 := fun h => hb h (by decide +kernel)
theorem d3_3 : DC jdk_42_method_139_code 3 (.ifCond .eq 23) 3 := fun h => hb h (by decide +kernel)
theorem d3_6 : DC jdk_42_method_139_code 6 (.iload_n 0) 1 := fun h => hb h (by decide +kernel)
theorem d3_7 : DC jdk_42_method_139_code 7 (.invokestatic 1015) 3 := fun h => hb h (by decide +kernel)
theorem d3_10 : DC jdk_42_method_139_code 10 (.ifCond .eq 16) 3 := fun h => hb h (by decide +kernel)
theorem d3_13 : DC jdk_42_method_139_code 13 (.new 10) 3 := fun h => hb h (by decide +kernel)
theorem d3_16 : DC jdk_42_method_139_code 16 (.dup) 1 := fun h => hb h (by decide +kernel)
theorem d3_17 : DC jdk_42_method_139_code 17 (.iload_n 0) 1 := fun h => hb h (by decide +kernel)
theorem d3_18 : DC jdk_42_method_139_code 18 (.invokestatic 1018) 3 := fun h => hb h (by decide +kernel)
theorem d3_21 : DC jdk_42_method_139_code 21 (.iconst 0) 1 := fun h => hb h (by decide +kernel)
theorem d3_22 : DC jdk_42_method_139_code 22 (.invokespecial 209) 3 := fun h => hb h (by decide +kernel)
theorem d3_25 : DC jdk_42_method_139_code 25 (.areturn) 1 := fun h => hb h (by decide +kernel)
theorem d6_0 : DC jdk_42_method_151_code 0 (.aload_n 0) 1 := fun h => hb h (by decide +kernel)
theorem d6_1 : DC jdk_42_method_151_code 1 (.invokespecial 1) 3 := fun h => hb h (by decide +kernel)
theorem d6_4 : DC jdk_42_method_151_code 4 (.aload_n 0) 1 := fun h => hb h (by decide +kernel)
theorem d6_5 : DC jdk_42_method_151_code 5 (.aload_n 1) 1 := fun h => hb h (by decide +kernel)
theorem d6_6 : DC jdk_42_method_151_code 6 (.putfield 9) 3 := fun h => hb h (by decide +kernel)
theorem d6_9 : DC jdk_42_method_151_code 9 (.aload_n 0) 1 := fun h => hb h (by decide +kernel)
theorem d6_10 : DC jdk_42_method_151_code 10 (.iload_n 2) 1 := fun h => hb h (by decide +kernel)
theorem d6_11 : DC jdk_42_method_151_code 11 (.putfield 15) 3 := fun h => hb h (by decide +kernel)
theorem d6_14 : DC jdk_42_method_151_code 14 (.return_) 1 := fun h => hb h (by decide +kernel)
theorem d4_0 : DC jdk_43_method_3_code 0 (.iload_n 0) 1 := fun h => hb h (by decide +kernel)
theorem d4_1 : DC jdk_43_method_3_code 1 (.sipush 255) 3 := fun h => hb h (by decide +kernel)
theorem d4_4 : DC jdk_43_method_3_code 4 (.if_icmp .gt 7) 3 := fun h => hb h (by decide +kernel)
theorem d4_7 : DC jdk_43_method_3_code 7 (.iconst 1) 1 := fun h => hb h (by decide +kernel)
theorem d4_8 : DC jdk_43_method_3_code 8 (.goto 4) 3 := fun h => hb h (by decide +kernel)
theorem d4_12 : DC jdk_43_method_3_code 12 (.ireturn) 1 := fun h => hb h (by decide +kernel)
theorem d5_0 : DC jdk_43_method_46_code 0 (.iconst 1) 1 := fun h => hb h (by decide +kernel)
theorem d5_1 : DC jdk_43_method_46_code 1 (.newarray .byte) 2 := fun h => hb h (by decide +kernel)
theorem d5_3 : DC jdk_43_method_46_code 3 (.dup) 1 := fun h => hb h (by decide +kernel)
theorem d5_4 : DC jdk_43_method_46_code 4 (.iconst 0) 1 := fun h => hb h (by decide +kernel)
theorem d5_5 : DC jdk_43_method_46_code 5 (.iload_n 0) 1 := fun h => hb h (by decide +kernel)
theorem d5_6 : DC jdk_43_method_46_code 6 (.i2b) 1 := fun h => hb h (by decide +kernel)
theorem d5_7 : DC jdk_43_method_46_code 7 (.bastore) 1 := fun h => hb h (by decide +kernel)
theorem d5_8 : DC jdk_43_method_46_code 8 (.areturn) 1 := fun h => hb h (by decide +kernel)
theorem d1_0 : DC prog_36_method_1_code 0 (.aload_n 0) 1 := fun h => hb h (by decide +kernel)
theorem d1_1 : DC prog_36_method_1_code 1 (.invokespecial 1) 3 := fun h => hb h (by decide +kernel)
theorem d1_4 : DC prog_36_method_1_code 4 (.aload_n 0) 1 := fun h => hb h (by decide +kernel)
theorem d1_5 : DC prog_36_method_1_code 5 (.getstatic 7) 3 := fun h => hb h (by decide +kernel)
theorem d1_8 : DC prog_36_method_1_code 8 (.putfield 13) 3 := fun h => hb h (by decide +kernel)
theorem d1_11 : DC prog_36_method_1_code 11 (.aload_n 0) 1 := fun h => hb h (by decide +kernel)
theorem d1_12 : DC prog_36_method_1_code 12 (.getstatic 7) 3 := fun h => hb h (by decide +kernel)
theorem d1_15 : DC prog_36_method_1_code 15 (.putfield 18) 3 := fun h => hb h (by decide +kernel)
theorem d1_18 : DC prog_36_method_1_code 18 (.aload_n 0) 1 := fun h => hb h (by decide +kernel)
theorem d1_19 : DC prog_36_method_1_code 19 (.getstatic 7) 3 := fun h => hb h (by decide +kernel)
theorem d1_22 : DC prog_36_method_1_code 22 (.putfield 21) 3 := fun h => hb h (by decide +kernel)
theorem d1_25 : DC prog_36_method_1_code 25 (.aload_n 0) 1 := fun h => hb h (by decide +kernel)
theorem d1_26 : DC prog_36_method_1_code 26 (.getstatic 7) 3 := fun h => hb h (by decide +kernel)
theorem d1_29 : DC prog_36_method_1_code 29 (.putfield 24) 3 := fun h => hb h (by decide +kernel)
theorem d1_32 : DC prog_36_method_1_code 32 (.aload_n 0) 1 := fun h => hb h (by decide +kernel)
theorem d1_33 : DC prog_36_method_1_code 33 (.aload_n 1) 1 := fun h => hb h (by decide +kernel)
theorem d1_34 : DC prog_36_method_1_code 34 (.putfield 27) 3 := fun h => hb h (by decide +kernel)
theorem d1_37 : DC prog_36_method_1_code 37 (.return_) 1 := fun h => hb h (by decide +kernel)
theorem d10_0 : DC prog_36_method_3_code 0 (.aload_n 0) 1 := fun h => hb h (by decide +kernel)
theorem d10_1 : DC prog_36_method_3_code 1 (.getfield 31) 3 := fun h => hb h (by decide +kernel)
theorem d10_4 : DC prog_36_method_3_code 4 (.ifnull 5) 3 := fun h => hb h (by decide +kernel)
theorem d10_9 : DC prog_36_method_3_code 9 (.getstatic 35) 3 := fun h => hb h (by decide +kernel)
theorem d10_12 : DC prog_36_method_3_code 12 (.aload_n 1) 1 := fun h => hb h (by decide +kernel)
theorem d10_13 : DC prog_36_method_3_code 13 (.invokevirtual 41) 3 := fun h => hb h (by decide +kernel)
theorem d10_16 : DC prog_36_method_3_code 16 (.iaload) 1 := fun h => hb h (by decide +kernel)
theorem d10_17 : DC prog_36_method_3_code 17 (.tableswitch 35 1 5 #[45, 58, 65, 72, 79]) 35 := fun h => hb h (by decide +kernel)
theorem d10_75 : DC prog_36_method_3_code 75 (.aload_n 0) 1 := fun h => hb h (by decide +kernel)
theorem d10_76 : DC prog_36_method_3_code 76 (.getfield 18) 3 := fun h => hb h (by decide +kernel)
theorem d10_79 : DC prog_36_method_3_code 79 (.goto 28) 3 := fun h => hb h (by decide +kernel)
theorem d10_82 : DC prog_36_method_3_code 82 (.aload_n 0) 1 := fun h => hb h (by decide +kernel)
theorem d10_83 : DC prog_36_method_3_code 83 (.getfield 21) 3 := fun h => hb h (by decide +kernel)
theorem d10_86 : DC prog_36_method_3_code 86 (.goto 21) 3 := fun h => hb h (by decide +kernel)
theorem d10_89 : DC prog_36_method_3_code 89 (.aload_n 0) 1 := fun h => hb h (by decide +kernel)
theorem d10_90 : DC prog_36_method_3_code 90 (.getfield 24) 3 := fun h => hb h (by decide +kernel)
theorem d10_93 : DC prog_36_method_3_code 93 (.goto 14) 3 := fun h => hb h (by decide +kernel)
theorem d10_107 : DC prog_36_method_3_code 107 (.areturn) 1 := fun h => hb h (by decide +kernel)
theorem d9_0 : DC prog_36_method_4_code 0 (.aload_n 0) 1 := fun h => hb h (by decide +kernel)
theorem d9_1 : DC prog_36_method_4_code 1 (.getfield 31) 3 := fun h => hb h (by decide +kernel)
theorem d9_4 : DC prog_36_method_4_code 4 (.areturn) 1 := fun h => hb h (by decide +kernel)
theorem d7_0 : DC prog_36_method_5_code 0 (.aload_n 0) 1 := fun h => hb h (by decide +kernel)
theorem d7_1 : DC prog_36_method_5_code 1 (.aload_n 1) 1 := fun h => hb h (by decide +kernel)
theorem d7_2 : DC prog_36_method_5_code 2 (.putfield 31) 3 := fun h => hb h (by decide +kernel)
theorem d7_5 : DC prog_36_method_5_code 5 (.return_) 1 := fun h => hb h (by decide +kernel)
theorem d8_0 : DC prog_36_method_7_code 0 (.aload_n 0) 1 := fun h => hb h (by decide +kernel)
theorem d8_1 : DC prog_36_method_7_code 1 (.aconst_null) 1 := fun h => hb h (by decide +kernel)
theorem d8_2 : DC prog_36_method_7_code 2 (.putfield 31) 3 := fun h => hb h (by decide +kernel)
theorem d8_5 : DC prog_36_method_7_code 5 (.aload_n 0) 1 := fun h => hb h (by decide +kernel)
theorem d8_6 : DC prog_36_method_7_code 6 (.getstatic 7) 3 := fun h => hb h (by decide +kernel)
theorem d8_9 : DC prog_36_method_7_code 9 (.putfield 13) 3 := fun h => hb h (by decide +kernel)
theorem d8_12 : DC prog_36_method_7_code 12 (.aload_n 0) 1 := fun h => hb h (by decide +kernel)
theorem d8_13 : DC prog_36_method_7_code 13 (.getstatic 7) 3 := fun h => hb h (by decide +kernel)
theorem d8_16 : DC prog_36_method_7_code 16 (.putfield 18) 3 := fun h => hb h (by decide +kernel)
theorem d8_19 : DC prog_36_method_7_code 19 (.aload_n 0) 1 := fun h => hb h (by decide +kernel)
theorem d8_20 : DC prog_36_method_7_code 20 (.getstatic 7) 3 := fun h => hb h (by decide +kernel)
theorem d8_23 : DC prog_36_method_7_code 23 (.putfield 21) 3 := fun h => hb h (by decide +kernel)
theorem d8_26 : DC prog_36_method_7_code 26 (.aload_n 0) 1 := fun h => hb h (by decide +kernel)
theorem d8_27 : DC prog_36_method_7_code 27 (.getstatic 7) 3 := fun h => hb h (by decide +kernel)
theorem d8_30 : DC prog_36_method_7_code 30 (.putfield 24) 3 := fun h => hb h (by decide +kernel)
theorem d8_33 : DC prog_36_method_7_code 33 (.return_) 1 := fun h => hb h (by decide +kernel)
theorem pn_0 : plainName "com/example/ringfence/ringfence/gate/Measures" = true := by first | (simp [plainName, overriddenIn]; done) | decide +kernel
theorem pn_1 : plainName "java/lang/Enum" = true := by first | (simp [plainName, overriddenIn]; done) | decide +kernel
theorem pn_2 : plainName "java/lang/StringLatin1" = true := by first | (simp [plainName, overriddenIn]; done) | decide +kernel
theorem pn_3 : plainName "java/lang/String" = true := by first | (simp [plainName, overriddenIn]; done) | decide +kernel
theorem pn_4 : plainName "com/example/ringfence/ringfence/gate/MeasuresClearPinLaw" = true := by first | (simp [plainName, overriddenIn]; done) | decide +kernel
theorem pd_0 : parseMethodDescriptor "(Lcom/example/ringfence/ringfence/gate/Pool;)V" = some ⟨[(.object "com/example/ringfence/ringfence/gate/Pool")], none⟩ := by decide +kernel
theorem pd_1 : parseMethodDescriptor "(Ljava/lang/String;)V" = some ⟨[(.object "java/lang/String")], none⟩ := by decide +kernel
theorem pd_2 : parseMethodDescriptor "()V" = some ⟨[], none⟩ := by decide +kernel
theorem pd_3 : parseMethodDescriptor "()Ljava/lang/String;" = some ⟨[], some (.object "java/lang/String")⟩ := by decide +kernel
theorem pd_4 : parseMethodDescriptor "()I" = some ⟨[], some .int⟩ := by decide +kernel
theorem pd_5 : parseMethodDescriptor "(Lcom/example/ringfence/ringfence/gate/Measure;)Ljava/math/BigDecimal;" = some ⟨[(.object "com/example/ringfence/ringfence/gate/Measure")], some (.object "java/math/BigDecimal")⟩ := by decide +kernel
theorem pd_6 : parseMethodDescriptor "(C)Z" = some ⟨[.char], some .boolean⟩ := by decide +kernel
theorem pd_7 : parseMethodDescriptor "(C)[B" = some ⟨[.char], some (.array .byte)⟩ := by decide +kernel
theorem pd_8 : parseMethodDescriptor "([BB)V" = some ⟨[(.array .byte), .byte], none⟩ := by decide +kernel
theorem pd_9 : parseMethodDescriptor "(C)Ljava/lang/String;" = some ⟨[.char], some (.object "java/lang/String")⟩ := by decide +kernel
theorem pd_10 : parseMethodDescriptor "([C)V" = some ⟨[(.array .char)], none⟩ := by decide +kernel
theorem wd_0 : WD (Jvm.Cond.classLink "com/example/ringfence/ringfence/gate/MeasuresClearPinLaw" (7 : Nat) kc0) := own_wd 0 rfl
theorem wd_1 : WD (Jvm.Cond.instantiable kc0 (6 : Nat)) := own_wd 1 rfl
theorem wd_2 : WD (Jvm.Cond.initialized kc0) := own_wd 2 rfl
theorem wd_3 : WD (Jvm.Cond.methodLink "com/example/ringfence/ringfence/gate/MeasuresClearPinLaw" (9 : Nat) ({ cls := kc0, name := "<init>", desc := "(Lcom/example/ringfence/ringfence/gate/Pool;)V" } : Jvm.MethodName)) := own_wd 3 rfl
theorem wd_4 : WD (Jvm.Cond.instanceMethod ({ cls := kc0, name := "<init>", desc := "(Lcom/example/ringfence/ringfence/gate/Pool;)V" } : Jvm.MethodName)) := own_wd 4 rfl
theorem wd_5 : WD (Jvm.Cond.code ({ cls := kc0, name := "<init>", desc := "(Lcom/example/ringfence/ringfence/gate/Pool;)V" } : Jvm.MethodName) prog_36_method_1_code (2 : Nat) (Option.none : Option Jvm.ClassFile.FieldType)) := own_wd 5 rfl
theorem wd_6 : WD (Jvm.Cond.methodLink kc0 (1 : Nat) ({ cls := "java/lang/Object", name := "<init>", desc := "()V" } : Jvm.MethodName)) := own_wd 6 rfl
theorem wd_7 : WD (Jvm.Cond.instanceMethod ({ cls := "java/lang/Object", name := "<init>", desc := "()V" } : Jvm.MethodName)) := own_wd 7 rfl
theorem wd_8 : WD (Jvm.Cond.code ({ cls := "java/lang/Object", name := "<init>", desc := "()V" } : Jvm.MethodName) object_method_1_code (1 : Nat) (Option.none : Option Jvm.ClassFile.FieldType)) := own_wd 8 rfl
theorem wd_9 : WD (Jvm.Cond.fieldLink kc0 (7 : Nat) kc1 "ZERO" "Ljava/math/BigDecimal;") := own_wd 9 rfl
theorem wd_11 : WD (Jvm.Cond.fieldLink kc0 (13 : Nat) kc0 "open" "Ljava/math/BigDecimal;") := own_wd 11 rfl
theorem wd_12 : WD (Jvm.Cond.lays kc0 kc0 "open" "Ljava/math/BigDecimal;") := own_wd 12 rfl
theorem wd_13 : WD (Jvm.Cond.fieldLink kc0 (18 : Nat) kc0 "downside" "Ljava/math/BigDecimal;") := own_wd 13 rfl
theorem wd_14 : WD (Jvm.Cond.lays kc0 kc0 "downside" "Ljava/math/BigDecimal;") := own_wd 14 rfl
theorem wd_15 : WD (Jvm.Cond.fieldLink kc0 (21 : Nat) kc0 "upside" "Ljava/math/BigDecimal;") := own_wd 15 rfl
theorem wd_16 : WD (Jvm.Cond.lays kc0 kc0 "upside" "Ljava/math/BigDecimal;") := own_wd 16 rfl
theorem wd_17 : WD (Jvm.Cond.fieldLink kc0 (24 : Nat) kc0 "exposure" "Ljava/math/BigDecimal;") := own_wd 17 rfl
theorem wd_18 : WD (Jvm.Cond.lays kc0 kc0 "exposure" "Ljava/math/BigDecimal;") := own_wd 18 rfl
theorem wd_19 : WD (Jvm.Cond.fieldLink kc0 (27 : Nat) kc0 "pool" "Lcom/example/ringfence/ringfence/gate/Pool;") := own_wd 19 rfl
theorem wd_20 : WD (Jvm.Cond.laysFinal kc0 kc0 "pool" "Lcom/example/ringfence/ringfence/gate/Pool;") := own_wd 20 rfl
theorem wd_21 : WD (Jvm.Cond.methodLink "com/example/ringfence/ringfence/gate/MeasuresClearPinLaw" (14 : Nat) ({ cls := kc2, name := "valueOf", desc := "(C)Ljava/lang/String;" } : Jvm.MethodName)) := own_wd 21 rfl
theorem wd_22 : WD (Jvm.Cond.static ({ cls := kc2, name := "valueOf", desc := "(C)Ljava/lang/String;" } : Jvm.MethodName)) := own_wd 22 rfl
theorem wd_23 : WD (Jvm.Cond.initialized kc2) := own_wd 23 rfl
theorem wd_24 : WD (Jvm.Cond.code ({ cls := kc2, name := "valueOf", desc := "(C)Ljava/lang/String;" } : Jvm.MethodName) jdk_42_method_139_code (1 : Nat) (Option.some (Jvm.ClassFile.FieldType.object kc2))) := own_wd 24 rfl
theorem wd_25 : WD (Jvm.Cond.fieldLink kc2 (38 : Nat) kc2 "COMPACT_STRINGS" "Z") := own_wd 25 rfl
theorem wd_26 : WD (Jvm.Cond.methodLink kc2 (1015 : Nat) ({ cls := "java/lang/StringLatin1", name := "canEncode", desc := "(C)Z" } : Jvm.MethodName)) := own_wd 26 rfl
theorem wd_27 : WD (Jvm.Cond.static ({ cls := "java/lang/StringLatin1", name := "canEncode", desc := "(C)Z" } : Jvm.MethodName)) := own_wd 27 rfl
theorem wd_28 : WD (Jvm.Cond.initialized "java/lang/StringLatin1") := own_wd 28 rfl
theorem wd_29 : WD (Jvm.Cond.code ({ cls := "java/lang/StringLatin1", name := "canEncode", desc := "(C)Z" } : Jvm.MethodName) jdk_43_method_3_code (1 : Nat) (Option.some Jvm.ClassFile.FieldType.boolean)) := own_wd 29 rfl
theorem wd_30 : WD (Jvm.Cond.classLink kc2 (10 : Nat) kc2) := own_wd 30 rfl
theorem wd_31 : WD (Jvm.Cond.instantiable kc2 (4 : Nat)) := own_wd 31 rfl
theorem wd_32 : WD (Jvm.Cond.methodLink kc2 (1018 : Nat) ({ cls := "java/lang/StringLatin1", name := "toBytes", desc := "(C)[B" } : Jvm.MethodName)) := own_wd 32 rfl
theorem wd_33 : WD (Jvm.Cond.static ({ cls := "java/lang/StringLatin1", name := "toBytes", desc := "(C)[B" } : Jvm.MethodName)) := own_wd 33 rfl
theorem wd_34 : WD (Jvm.Cond.code ({ cls := "java/lang/StringLatin1", name := "toBytes", desc := "(C)[B" } : Jvm.MethodName) jdk_43_method_46_code (1 : Nat) (Option.some (Jvm.ClassFile.FieldType.array Jvm.ClassFile.FieldType.byte))) := own_wd 34 rfl
theorem wd_35 : WD (Jvm.Cond.arrayClass Jvm.ClassFile.FieldType.byte) := own_wd 35 rfl
theorem wd_36 : WD (Jvm.Cond.methodLink kc2 (209 : Nat) ({ cls := kc2, name := "<init>", desc := "([BB)V" } : Jvm.MethodName)) := own_wd 36 rfl
theorem wd_37 : WD (Jvm.Cond.instanceMethod ({ cls := kc2, name := "<init>", desc := "([BB)V" } : Jvm.MethodName)) := own_wd 37 rfl
theorem wd_39 : WD (Jvm.Cond.code ({ cls := kc2, name := "<init>", desc := "([BB)V" } : Jvm.MethodName) jdk_42_method_151_code (3 : Nat) (Option.none : Option Jvm.ClassFile.FieldType)) := own_wd 39 rfl
theorem wd_40 : WD (Jvm.Cond.methodLink kc2 (1 : Nat) ({ cls := "java/lang/Object", name := "<init>", desc := "()V" } : Jvm.MethodName)) := own_wd 40 rfl
theorem wd_41 : WD (Jvm.Cond.fieldLink kc2 (9 : Nat) kc2 "value" "[B") := own_wd 41 rfl
theorem wd_42 : WD (Jvm.Cond.laysFinal kc2 kc2 "value" "[B") := own_wd 42 rfl
theorem wd_43 : WD (Jvm.Cond.fieldLink kc2 (15 : Nat) kc2 "coder" "B") := own_wd 43 rfl
theorem wd_44 : WD (Jvm.Cond.laysFinal kc2 kc2 "coder" "B") := own_wd 44 rfl
theorem wd_45 : WD (Jvm.Cond.methodLink "com/example/ringfence/ringfence/gate/MeasuresClearPinLaw" (23 : Nat) ({ cls := kc0, name := "setUnrated", desc := "(Ljava/lang/String;)V" } : Jvm.MethodName)) := own_wd 45 rfl
theorem wd_46 : WD (Jvm.Cond.declares ({ cls := kc0, name := "setUnrated", desc := "(Ljava/lang/String;)V" } : Jvm.MethodName)) := own_wd 46 rfl
theorem wd_47 : WD (Jvm.Cond.instanceMethod ({ cls := kc0, name := "setUnrated", desc := "(Ljava/lang/String;)V" } : Jvm.MethodName)) := own_wd 47 rfl
theorem wd_48 : WD (Jvm.Cond.selects kc0 ({ cls := kc0, name := "setUnrated", desc := "(Ljava/lang/String;)V" } : Jvm.MethodName) ({ cls := kc0, name := "setUnrated", desc := "(Ljava/lang/String;)V" } : Jvm.MethodName)) := own_wd 48 rfl
theorem wd_49 : WD (Jvm.Cond.code ({ cls := kc0, name := "setUnrated", desc := "(Ljava/lang/String;)V" } : Jvm.MethodName) prog_36_method_5_code (2 : Nat) (Option.none : Option Jvm.ClassFile.FieldType)) := own_wd 49 rfl
theorem wd_50 : WD (Jvm.Cond.fieldLink kc0 (31 : Nat) kc0 "unrated" "Ljava/lang/String;") := own_wd 50 rfl
theorem wd_51 : WD (Jvm.Cond.lays kc0 kc0 "unrated" "Ljava/lang/String;") := own_wd 51 rfl
theorem wd_52 : WD (Jvm.Cond.methodLink "com/example/ringfence/ringfence/gate/MeasuresClearPinLaw" (27 : Nat) ({ cls := kc0, name := "clear", desc := "()V" } : Jvm.MethodName)) := own_wd 52 rfl
theorem wd_53 : WD (Jvm.Cond.declares ({ cls := kc0, name := "clear", desc := "()V" } : Jvm.MethodName)) := own_wd 53 rfl
theorem wd_54 : WD (Jvm.Cond.instanceMethod ({ cls := kc0, name := "clear", desc := "()V" } : Jvm.MethodName)) := own_wd 54 rfl
theorem wd_55 : WD (Jvm.Cond.selects kc0 ({ cls := kc0, name := "clear", desc := "()V" } : Jvm.MethodName) ({ cls := kc0, name := "clear", desc := "()V" } : Jvm.MethodName)) := own_wd 55 rfl
theorem wd_56 : WD (Jvm.Cond.code ({ cls := kc0, name := "clear", desc := "()V" } : Jvm.MethodName) prog_36_method_7_code (1 : Nat) (Option.none : Option Jvm.ClassFile.FieldType)) := own_wd 56 rfl
theorem wd_57 : WD (Jvm.Cond.methodLink "com/example/ringfence/ringfence/gate/MeasuresClearPinLaw" (30 : Nat) ({ cls := kc0, name := "unrated", desc := "()Ljava/lang/String;" } : Jvm.MethodName)) := own_wd 57 rfl
theorem wd_58 : WD (Jvm.Cond.declares ({ cls := kc0, name := "unrated", desc := "()Ljava/lang/String;" } : Jvm.MethodName)) := own_wd 58 rfl
theorem wd_59 : WD (Jvm.Cond.instanceMethod ({ cls := kc0, name := "unrated", desc := "()Ljava/lang/String;" } : Jvm.MethodName)) := own_wd 59 rfl
theorem wd_60 : WD (Jvm.Cond.selects kc0 ({ cls := kc0, name := "unrated", desc := "()Ljava/lang/String;" } : Jvm.MethodName) ({ cls := kc0, name := "unrated", desc := "()Ljava/lang/String;" } : Jvm.MethodName)) := own_wd 60 rfl
theorem wd_61 : WD (Jvm.Cond.code ({ cls := kc0, name := "unrated", desc := "()Ljava/lang/String;" } : Jvm.MethodName) prog_36_method_4_code (1 : Nat) (Option.some (Jvm.ClassFile.FieldType.object kc2))) := own_wd 61 rfl
theorem wd_62 : WD (Jvm.Cond.fieldLink "com/example/ringfence/ringfence/gate/MeasuresClearPinLaw" (34 : Nat) kc4 "DOWNSIDE" "Lcom/example/ringfence/ringfence/gate/Measure;") := own_wd 62 rfl
theorem wd_63 : WD (Jvm.Cond.initialized kc4) := own_wd 63 rfl
theorem wd_64 : WD (Jvm.Cond.laysStatic kc4 "DOWNSIDE" "Lcom/example/ringfence/ringfence/gate/Measure;") := own_wd 64 rfl
theorem wd_65 : WD (Jvm.Cond.methodLink "com/example/ringfence/ringfence/gate/MeasuresClearPinLaw" (40 : Nat) ({ cls := kc0, name := "value", desc := "(Lcom/example/ringfence/ringfence/gate/Measure;)Ljava/math/BigDecimal;" } : Jvm.MethodName)) := own_wd 65 rfl
theorem wd_66 : WD (Jvm.Cond.declares ({ cls := kc0, name := "value", desc := "(Lcom/example/ringfence/ringfence/gate/Measure;)Ljava/math/BigDecimal;" } : Jvm.MethodName)) := own_wd 66 rfl
theorem wd_67 : WD (Jvm.Cond.instanceMethod ({ cls := kc0, name := "value", desc := "(Lcom/example/ringfence/ringfence/gate/Measure;)Ljava/math/BigDecimal;" } : Jvm.MethodName)) := own_wd 67 rfl
theorem wd_68 : WD (Jvm.Cond.selects kc0 ({ cls := kc0, name := "value", desc := "(Lcom/example/ringfence/ringfence/gate/Measure;)Ljava/math/BigDecimal;" } : Jvm.MethodName) ({ cls := kc0, name := "value", desc := "(Lcom/example/ringfence/ringfence/gate/Measure;)Ljava/math/BigDecimal;" } : Jvm.MethodName)) := own_wd 68 rfl
theorem wd_69 : WD (Jvm.Cond.code ({ cls := kc0, name := "value", desc := "(Lcom/example/ringfence/ringfence/gate/Measure;)Ljava/math/BigDecimal;" } : Jvm.MethodName) prog_36_method_3_code (2 : Nat) (Option.some (Jvm.ClassFile.FieldType.object kc1))) := own_wd 69 rfl
theorem wd_70 : WD (Jvm.Cond.fieldLink kc0 (35 : Nat) "com/example/ringfence/ringfence/gate/Measures$1" "$SwitchMap$com$example$ringfence$ringfence$gate$Measure" "[I") := own_wd 70 rfl
theorem wd_71 : WD (Jvm.Cond.initialized "com/example/ringfence/ringfence/gate/Measures$1") := own_wd 71 rfl
theorem wd_72 : WD (Jvm.Cond.laysStatic "com/example/ringfence/ringfence/gate/Measures$1" "$SwitchMap$com$example$ringfence$ringfence$gate$Measure" "[I") := own_wd 72 rfl
theorem wd_73 : WD (Jvm.Cond.methodLink kc0 (41 : Nat) ({ cls := kc4, name := "ordinal", desc := "()I" } : Jvm.MethodName)) := own_wd 73 rfl
theorem wd_74 : WD (Jvm.Cond.sameMethod kc4 kc3 "ordinal" "()I") := own_wd 74 rfl
theorem wd_75 : WD (Jvm.Cond.declares ({ cls := kc3, name := "ordinal", desc := "()I" } : Jvm.MethodName)) := own_wd 75 rfl
theorem wd_76 : WD (Jvm.Cond.instanceMethod ({ cls := kc3, name := "ordinal", desc := "()I" } : Jvm.MethodName)) := own_wd 76 rfl
theorem wd_77 : WD (Jvm.Cond.selects kc4 ({ cls := kc4, name := "ordinal", desc := "()I" } : Jvm.MethodName) ({ cls := kc3, name := "ordinal", desc := "()I" } : Jvm.MethodName)) := own_wd 77 rfl
theorem wd_78 : WD (Jvm.Cond.initialized kc3) := own_wd 78 rfl
theorem wd_79 : WD (Jvm.Cond.code ({ cls := kc3, name := "ordinal", desc := "()I" } : Jvm.MethodName) jdk_37_method_2_code (1 : Nat) (Option.some Jvm.ClassFile.FieldType.int)) := own_wd 79 rfl
theorem wd_80 : WD (Jvm.Cond.fieldLink kc3 (7 : Nat) kc3 "ordinal" "I") := own_wd 80 rfl
theorem wd_82 : WD (Jvm.Cond.fieldLink "com/example/ringfence/ringfence/gate/MeasuresClearPinLaw" (44 : Nat) kc4 "UPSIDE" "Lcom/example/ringfence/ringfence/gate/Measure;") := own_wd 82 rfl
theorem wd_83 : WD (Jvm.Cond.laysStatic kc4 "UPSIDE" "Lcom/example/ringfence/ringfence/gate/Measure;") := own_wd 83 rfl
theorem wd_84 : WD (Jvm.Cond.fieldLink "com/example/ringfence/ringfence/gate/MeasuresClearPinLaw" (47 : Nat) kc4 "EXPOSURE" "Lcom/example/ringfence/ringfence/gate/Measure;") := own_wd 84 rfl
theorem wd_85 : WD (Jvm.Cond.laysStatic kc4 "EXPOSURE" "Lcom/example/ringfence/ringfence/gate/Measure;") := own_wd 85 rfl
theorem wd_86 : WD (Jvm.Cond.classLink "com/example/ringfence/ringfence/gate/MeasuresClearPinLaw" (15 : Nat) kc2) := own_wd 86 rfl
theorem wd_87 : WD (Jvm.Cond.arrayClass Jvm.ClassFile.FieldType.char) := own_wd 87 rfl
theorem wd_88 : WD (Jvm.Cond.methodLink "com/example/ringfence/ringfence/gate/MeasuresClearPinLaw" (20 : Nat) ({ cls := kc2, name := "<init>", desc := "([C)V" } : Jvm.MethodName)) := own_wd 88 rfl
theorem wd_89 : WD (Jvm.Cond.instanceMethod ({ cls := kc2, name := "<init>", desc := "([C)V" } : Jvm.MethodName)) := own_wd 89 rfl
theorem wd_90 : WD (Jvm.Cond.code ({ cls := kc2, name := "<init>", desc := "([C)V" } : Jvm.MethodName) jdk_42_method_3_code (2 : Nat) (Option.none : Option Jvm.ClassFile.FieldType)) := own_wd 90 rfl
theorem wd_104 : WD (Jvm.Cond.stringLink "com/example/ringfence/ringfence/gate/MeasuresClearPinLaw" (12 : Nat) "") := own_wd 104 rfl
theorem own_EW {Z : State} {a0 : Array Value} (hw : ∀ d ∈ tables_1, d.before a0 Z = true) : EW Z a0 EL := EW.nil
theorem own_wS {Z : State} {a0 : Array Value} (hw : ∀ d ∈ tables_1, d.before a0 Z = true) : ∀ d ∈ Bundle.stringAtoms, d.before a0 Z = true := fun d hd => hw d ((by decide +kernel : ∀ d ∈ Bundle.stringAtoms, d ∈ tables_1) d hd)
theorem ef_m1_1 (m : MethodId) (a0 : Addr)  : entryFrame m #[(.ref a0), .null] 2 = mkF m 0 #[.val (.ref a0), .val .null] [] := by first | (simp [entryFrame, mkF, argsToLocals, Value.category]; done) | rfl
def Q_m1_1 (Z : State) (a0 : Addr) (jj0 : Addr) (h0 : Heap) (n0 : Nat) (v : Option Value) (h : Heap) (L : List Loc) : Prop := v = none ∧ Fr n0 L ∧ Keep h0 h [a0] ∧ Exa Z h a0 kc0 ∧ Fld Z h a0 kc0 "open" "Ljava/math/BigDecimal;" (.ref jj0) ∧ Fld Z h a0 kc0 "downside" "Ljava/math/BigDecimal;" (.ref jj0) ∧ Fld Z h a0 kc0 "upside" "Ljava/math/BigDecimal;" (.ref jj0) ∧ Fld Z h a0 kc0 "exposure" "Ljava/math/BigDecimal;" (.ref jj0) ∧ Fld Z h a0 kc0 "pool" "Lcom/example/ringfence/ringfence/gate/Pool;" .null ∧ Fld Z h a0 kc0 "unrated" "Ljava/lang/String;" .null
theorem rm_m1_1 (l : Launch) (Z : State) (aZ : Array Value) (hw : ∀ d ∈ tables_1, d.before aZ Z = true) (ws : List Jvm.Cond) (a0 : Addr) (jj0 : Addr) (h0 : Heap) (n0 : Nat) (Z0 : n0 ≤ h0.size) (zz1 : Sta Z Z.heap kc1 "ZERO" "Ljava/math/BigDecimal;" (.ref jj0)) (O0 : Old Z n0 h0) (E_a0 : Exa Z h0 a0 kc0) (zz2 : Fld Z h0 a0 kc0 "open" "Ljava/math/BigDecimal;" .null) (zz3 : n0 ≤ a0) (zz4 : Fld Z h0 a0 kc0 "downside" "Ljava/math/BigDecimal;" .null) (zz5 : Fld Z h0 a0 kc0 "upside" "Ljava/math/BigDecimal;" .null) (zz6 : Fld Z h0 a0 kc0 "exposure" "Ljava/math/BigDecimal;" .null) (zz7 : Fld Z h0 a0 kc0 "pool" "Lcom/example/ringfence/ringfence/gate/Pool;" .null) (zz8 : Fld Z h0 a0 kc0 "unrated" "Ljava/lang/String;" .null) :
    MetN l Z yn_1 prog_36_method_1_code 2 none ws ({ frames := 1, cells := 0, slots := 0, locals := 12 } : Room) #[(.ref a0), .null] h0 (Q_m1_1 Z a0 jj0 h0 n0) := by
 refine MetN.of (plainFor_of_name pn_0) ?_
 intro p e s m below meth c s₁ hret hx hby hml hown hnm hlk hZ X0 e0
 have N0 := Fr.nil n0
 rw [ef_m1_1 m a0]
 refine w_aloadN X0 hx (d1_0 hby) rfl rfl (pc' := 1) rfl ?_
 refine w_initO X0 hx 0 hZ hown (wd_6 hw) (wd_7 hw) (wd_8 hw) e0 (by rw [hml]; rfl) (d1_1 hby) (by decide) (Nat.le_of_eq rfl) (by decide) (pc' := 4) rfl ?_
 intro T20 X20 e20
 refine w_aloadN X20 hx (d1_4 hby) rfl rfl (pc' := 5) rfl ?_
 refine w_getS X20 hx "" hZ hown (Or.inl (wd_9 hw)) Via.refl e20 (zz1.ext O0.2) (d1_5 hby) (pc' := 8) rfl ?_
 intro T21 X21 e21
 refine w_putF X21 hx "" hZ hown (Or.inl (wd_11 hw)) Via.refl e21 zz2 E_a0 (Or.inl (wd_12 hw)) (wd_1 hw) (ty := (.object kc1)) (by decide) rfl rfl (d1_8 hby) (pc' := 11) rfl ?_
 intro T22 h22 X22 e22 W22
 have f23 : Fld Z h22 a0 kc0 "open" "Ljava/math/BigDecimal;" (.ref jj0) := zz2.same W22
 have K24 : Keep h0 h22 [a0] := (Keep.refl h0 [a0]).wr W22 (Or.inl (by simp))
 have N25 := Fr.snoc X22 N0 zz3
 refine w_aloadN X22 hx (d1_11 hby) rfl rfl (pc' := 12) rfl ?_
 have f26 : Old Z n0 h22 := (O0.wr W22 zz3)
 refine w_getS X22 hx "" hZ hown (Or.inl (wd_9 hw)) Via.refl e22 (zz1.ext f26.2) (d1_12 hby) (pc' := 15) rfl ?_
 intro T27 X27 e27
 have f28 : Exa Z h22 a0 kc0 := (E_a0.wr W22)
 have f29 : Fld Z h22 a0 kc0 "downside" "Ljava/math/BigDecimal;" .null := (zz4.other W22 (Or.inr (slot_ne (Or.inl (wd_14 hw)) (Or.inl (wd_12 hw)) (by decide) (t := (.object kc1)) (t' := (.object kc1)) (by decide) (by decide))))
 refine w_putF X27 hx "" hZ hown (Or.inl (wd_13 hw)) Via.refl e27 f29 f28 (Or.inl (wd_14 hw)) (wd_1 hw) (ty := (.object kc1)) (by decide) rfl rfl (d1_15 hby) (pc' := 18) rfl ?_
 intro T30 h30 X30 e30 W30
 have f31 : Fld Z h30 a0 kc0 "downside" "Ljava/math/BigDecimal;" (.ref jj0) := f29.same W30
 have K32 : Keep h0 h30 [a0] := K24.wr W30 (Or.inl (by simp))
 have N33 := Fr.snoc X30 N25 zz3
 refine w_aloadN X30 hx (d1_18 hby) rfl rfl (pc' := 19) rfl ?_
 have f34 : Old Z n0 h30 := (f26.wr W30 zz3)
 refine w_getS X30 hx "" hZ hown (Or.inl (wd_9 hw)) Via.refl e30 (zz1.ext f34.2) (d1_19 hby) (pc' := 22) rfl ?_
 intro T35 X35 e35
 have f36 : Exa Z h30 a0 kc0 := (f28.wr W30)
 have f37 : Fld Z h30 a0 kc0 "upside" "Ljava/math/BigDecimal;" .null := ((zz5.other W22 (Or.inr (slot_ne (Or.inl (wd_16 hw)) (Or.inl (wd_12 hw)) (by decide) (t := (.object kc1)) (t' := (.object kc1)) (by decide) (by decide)))).other W30 (Or.inr (slot_ne (Or.inl (wd_16 hw)) (Or.inl (wd_14 hw)) (by decide) (t := (.object kc1)) (t' := (.object kc1)) (by decide) (by decide))))
 refine w_putF X35 hx "" hZ hown (Or.inl (wd_15 hw)) Via.refl e35 f37 f36 (Or.inl (wd_16 hw)) (wd_1 hw) (ty := (.object kc1)) (by decide) rfl rfl (d1_22 hby) (pc' := 25) rfl ?_
 intro T38 h38 X38 e38 W38
 have f39 : Fld Z h38 a0 kc0 "upside" "Ljava/math/BigDecimal;" (.ref jj0) := f37.same W38
 have K40 : Keep h0 h38 [a0] := K32.wr W38 (Or.inl (by simp))
 have N41 := Fr.snoc X38 N33 zz3
 refine w_aloadN X38 hx (d1_25 hby) rfl rfl (pc' := 26) rfl ?_
 have f42 : Old Z n0 h38 := (f34.wr W38 zz3)
 refine w_getS X38 hx "" hZ hown (Or.inl (wd_9 hw)) Via.refl e38 (zz1.ext f42.2) (d1_26 hby) (pc' := 29) rfl ?_
 intro T43 X43 e43
 have f44 : Exa Z h38 a0 kc0 := (f36.wr W38)
 have f45 : Fld Z h38 a0 kc0 "exposure" "Ljava/math/BigDecimal;" .null := (((zz6.other W22 (Or.inr (slot_ne (Or.inl (wd_18 hw)) (Or.inl (wd_12 hw)) (by decide) (t := (.object kc1)) (t' := (.object kc1)) (by decide) (by decide)))).other W30 (Or.inr (slot_ne (Or.inl (wd_18 hw)) (Or.inl (wd_14 hw)) (by decide) (t := (.object kc1)) (t' := (.object kc1)) (by decide) (by decide)))).other W38 (Or.inr (slot_ne (Or.inl (wd_18 hw)) (Or.inl (wd_16 hw)) (by decide) (t := (.object kc1)) (t' := (.object kc1)) (by decide) (by decide))))
 refine w_putF X43 hx "" hZ hown (Or.inl (wd_17 hw)) Via.refl e43 f45 f44 (Or.inl (wd_18 hw)) (wd_1 hw) (ty := (.object kc1)) (by decide) rfl rfl (d1_29 hby) (pc' := 32) rfl ?_
 intro T46 h46 X46 e46 W46
 have f47 : Fld Z h46 a0 kc0 "exposure" "Ljava/math/BigDecimal;" (.ref jj0) := f45.same W46
 have K48 : Keep h0 h46 [a0] := K40.wr W46 (Or.inl (by simp))
 have N49 := Fr.snoc X46 N41 zz3
 refine w_aloadN X46 hx (d1_32 hby) rfl rfl (pc' := 33) rfl ?_
 refine w_aloadN X46 hx (d1_33 hby) rfl rfl (pc' := 34) rfl ?_
 have f50 : Exa Z h46 a0 kc0 := (f44.wr W46)
 have f51 : Fld Z h46 a0 kc0 "pool" "Lcom/example/ringfence/ringfence/gate/Pool;" .null := ((((zz7.other W22 (Or.inr (slot_ne (Or.inr (wd_20 hw)) (Or.inl (wd_12 hw)) (by decide) (t := (.object kc5)) (t' := (.object kc1)) (by decide) (by decide)))).other W30 (Or.inr (slot_ne (Or.inr (wd_20 hw)) (Or.inl (wd_14 hw)) (by decide) (t := (.object kc5)) (t' := (.object kc1)) (by decide) (by decide)))).other W38 (Or.inr (slot_ne (Or.inr (wd_20 hw)) (Or.inl (wd_16 hw)) (by decide) (t := (.object kc5)) (t' := (.object kc1)) (by decide) (by decide)))).other W46 (Or.inr (slot_ne (Or.inr (wd_20 hw)) (Or.inl (wd_18 hw)) (by decide) (t := (.object kc5)) (t' := (.object kc1)) (by decide) (by decide))))
 refine w_putF X46 hx "" hZ hown (Or.inl (wd_19 hw)) Via.refl e46 f51 f50 (Or.inr ⟨(wd_20 hw), rfl, hnm⟩) (wd_1 hw) (ty := (.object kc5)) (by decide) rfl rfl (d1_34 hby) (pc' := 37) rfl ?_
 intro T52 h52 X52 e52 W52
 have f53 : Fld Z h52 a0 kc0 "pool" "Lcom/example/ringfence/ringfence/gate/Pool;" .null := f51.same W52
 have K54 : Keep h0 h52 [a0] := K48.wr W52 (Or.inl (by simp))
 have N55 := Fr.snoc X52 N49 zz3
 have f56 : Exa Z h52 a0 kc0 := (f50.wr W52)
 have f57 : Fld Z h52 a0 kc0 "open" "Ljava/math/BigDecimal;" (.ref jj0) := ((((f23.other W30 (Or.inr (slot_ne (Or.inl (wd_12 hw)) (Or.inl (wd_14 hw)) (by decide) (t := (.object kc1)) (t' := (.object kc1)) (by decide) (by decide)))).other W38 (Or.inr (slot_ne (Or.inl (wd_12 hw)) (Or.inl (wd_16 hw)) (by decide) (t := (.object kc1)) (t' := (.object kc1)) (by decide) (by decide)))).other W46 (Or.inr (slot_ne (Or.inl (wd_12 hw)) (Or.inl (wd_18 hw)) (by decide) (t := (.object kc1)) (t' := (.object kc1)) (by decide) (by decide)))).other W52 (Or.inr (slot_ne (Or.inl (wd_12 hw)) (Or.inr (wd_20 hw)) (by decide) (t := (.object kc1)) (t' := (.object kc5)) (by decide) (by decide))))
 have f58 : Fld Z h52 a0 kc0 "downside" "Ljava/math/BigDecimal;" (.ref jj0) := (((f31.other W38 (Or.inr (slot_ne (Or.inl (wd_14 hw)) (Or.inl (wd_16 hw)) (by decide) (t := (.object kc1)) (t' := (.object kc1)) (by decide) (by decide)))).other W46 (Or.inr (slot_ne (Or.inl (wd_14 hw)) (Or.inl (wd_18 hw)) (by decide) (t := (.object kc1)) (t' := (.object kc1)) (by decide) (by decide)))).other W52 (Or.inr (slot_ne (Or.inl (wd_14 hw)) (Or.inr (wd_20 hw)) (by decide) (t := (.object kc1)) (t' := (.object kc5)) (by decide) (by decide))))
 have f59 : Fld Z h52 a0 kc0 "upside" "Ljava/math/BigDecimal;" (.ref jj0) := ((f39.other W46 (Or.inr (slot_ne (Or.inl (wd_16 hw)) (Or.inl (wd_18 hw)) (by decide) (t := (.object kc1)) (t' := (.object kc1)) (by decide) (by decide)))).other W52 (Or.inr (slot_ne (Or.inl (wd_16 hw)) (Or.inr (wd_20 hw)) (by decide) (t := (.object kc1)) (t' := (.object kc5)) (by decide) (by decide))))
 have f60 : Fld Z h52 a0 kc0 "exposure" "Ljava/math/BigDecimal;" (.ref jj0) := (f47.other W52 (Or.inr (slot_ne (Or.inl (wd_18 hw)) (Or.inr (wd_20 hw)) (by decide) (t := (.object kc1)) (t' := (.object kc5)) (by decide) (by decide))))
 have f61 : Fld Z h52 a0 kc0 "unrated" "Ljava/lang/String;" .null := (((((zz8.other W22 (Or.inr (slot_ne (Or.inl (wd_51 hw)) (Or.inl (wd_12 hw)) (by decide) (t := (.object kc2)) (t' := (.object kc1)) (by decide) (by decide)))).other W30 (Or.inr (slot_ne (Or.inl (wd_51 hw)) (Or.inl (wd_14 hw)) (by decide) (t := (.object kc2)) (t' := (.object kc1)) (by decide) (by decide)))).other W38 (Or.inr (slot_ne (Or.inl (wd_51 hw)) (Or.inl (wd_16 hw)) (by decide) (t := (.object kc2)) (t' := (.object kc1)) (by decide) (by decide)))).other W46 (Or.inr (slot_ne (Or.inl (wd_51 hw)) (Or.inl (wd_18 hw)) (by decide) (t := (.object kc2)) (t' := (.object kc1)) (by decide) (by decide)))).other W52 (Or.inr (slot_ne (Or.inl (wd_51 hw)) (Or.inr (wd_20 hw)) (by decide) (t := (.object kc2)) (t' := (.object kc5)) (by decide) (by decide))))
 exact w_done X52 hlk (v := none) e52 (fun _ => rfl) (fun fs hr => X52.returnOut hx hret (d1_37 hby) hr) (by decide) (by decide) (⟨rfl, N55, K54, f56, f57, f58, f59, f60, f53, f61⟩)
theorem ef_m7_2 (m : MethodId) (a0 : Addr)  : entryFrame m #[(.ref a0), .null] 2 = mkF m 0 #[.val (.ref a0), .val .null] [] := by first | (simp [entryFrame, mkF, argsToLocals, Value.category]; done) | rfl
def Q_m7_2 (Z : State) (a0 : Addr) (jj0 : Addr) (h0 : Heap) (n0 : Nat) (v : Option Value) (h : Heap) (L : List Loc) : Prop := v = none ∧ Fr n0 L ∧ Keep h0 h [a0] ∧ Exa Z h a0 kc0 ∧ Fld Z h a0 kc0 "unrated" "Ljava/lang/String;" .null ∧ Fld Z h a0 kc0 "open" "Ljava/math/BigDecimal;" (.ref jj0) ∧ Fld Z h a0 kc0 "downside" "Ljava/math/BigDecimal;" (.ref jj0) ∧ Fld Z h a0 kc0 "upside" "Ljava/math/BigDecimal;" (.ref jj0) ∧ Fld Z h a0 kc0 "exposure" "Ljava/math/BigDecimal;" (.ref jj0) ∧ Fld Z h a0 kc0 "pool" "Lcom/example/ringfence/ringfence/gate/Pool;" .null
theorem rm_m7_2 (l : Launch) (Z : State) (aZ : Array Value) (hw : ∀ d ∈ tables_1, d.before aZ Z = true) (ws : List Jvm.Cond) (a0 : Addr) (jj0 : Addr) (h0 : Heap) (n0 : Nat) (Z0 : n0 ≤ h0.size) (E_a0 : Exa Z h0 a0 kc0) (zz1 : Fld Z h0 a0 kc0 "unrated" "Ljava/lang/String;" .null) (zz2 : n0 ≤ a0) (zz3 : Fld Z h0 a0 kc0 "open" "Ljava/math/BigDecimal;" (.ref jj0)) (zz4 : Fld Z h0 a0 kc0 "downside" "Ljava/math/BigDecimal;" (.ref jj0)) (zz5 : Fld Z h0 a0 kc0 "upside" "Ljava/math/BigDecimal;" (.ref jj0)) (zz6 : Fld Z h0 a0 kc0 "exposure" "Ljava/math/BigDecimal;" (.ref jj0)) (zz7 : Fld Z h0 a0 kc0 "pool" "Lcom/example/ringfence/ringfence/gate/Pool;" .null) :
    MetN l Z yn_7 prog_36_method_5_code 2 none ws ({ frames := 0, cells := 0, slots := 0, locals := 0 } : Room) #[(.ref a0), .null] h0 (Q_m7_2 Z a0 jj0 h0 n0) := by
 refine MetN.of (plainFor_of_name pn_0) ?_
 intro p e s m below meth c s₁ hret hx hby hml hown hnm hlk hZ X0 e0
 have N0 := Fr.nil n0
 rw [ef_m7_2 m a0]
 refine w_aloadN X0 hx (d7_0 hby) rfl rfl (pc' := 1) rfl ?_
 refine w_aloadN X0 hx (d7_1 hby) rfl rfl (pc' := 2) rfl ?_
 refine w_putF X0 hx "" hZ hown (Or.inl (wd_50 hw)) Via.refl e0 zz1 E_a0 (Or.inl (wd_51 hw)) (wd_1 hw) (ty := (.object kc2)) (by decide) rfl rfl (d7_2 hby) (pc' := 5) rfl ?_
 intro T20 h20 X20 e20 W20
 have f21 : Fld Z h20 a0 kc0 "unrated" "Ljava/lang/String;" .null := zz1.same W20
 have K22 : Keep h0 h20 [a0] := (Keep.refl h0 [a0]).wr W20 (Or.inl (by simp))
 have N23 := Fr.snoc X20 N0 zz2
 have f24 : Exa Z h20 a0 kc0 := (E_a0.wr W20)
 have f25 : Fld Z h20 a0 kc0 "open" "Ljava/math/BigDecimal;" (.ref jj0) := (zz3.other W20 (Or.inr (slot_ne (Or.inl (wd_12 hw)) (Or.inl (wd_51 hw)) (by decide) (t := (.object kc1)) (t' := (.object kc2)) (by decide) (by decide))))
 have f26 : Fld Z h20 a0 kc0 "downside" "Ljava/math/BigDecimal;" (.ref jj0) := (zz4.other W20 (Or.inr (slot_ne (Or.inl (wd_14 hw)) (Or.inl (wd_51 hw)) (by decide) (t := (.object kc1)) (t' := (.object kc2)) (by decide) (by decide))))
 have f27 : Fld Z h20 a0 kc0 "upside" "Ljava/math/BigDecimal;" (.ref jj0) := (zz5.other W20 (Or.inr (slot_ne (Or.inl (wd_16 hw)) (Or.inl (wd_51 hw)) (by decide) (t := (.object kc1)) (t' := (.object kc2)) (by decide) (by decide))))
 have f28 : Fld Z h20 a0 kc0 "exposure" "Ljava/math/BigDecimal;" (.ref jj0) := (zz6.other W20 (Or.inr (slot_ne (Or.inl (wd_18 hw)) (Or.inl (wd_51 hw)) (by decide) (t := (.object kc1)) (t' := (.object kc2)) (by decide) (by decide))))
 have f29 : Fld Z h20 a0 kc0 "pool" "Lcom/example/ringfence/ringfence/gate/Pool;" .null := (zz7.other W20 (Or.inr (slot_ne (Or.inr (wd_20 hw)) (Or.inl (wd_51 hw)) (by decide) (t := (.object kc5)) (t' := (.object kc2)) (by decide) (by decide))))
 exact w_done X20 hlk (v := none) e20 (fun _ => rfl) (fun fs hr => X20.returnOut hx hret (d7_5 hby) hr) (by decide) (by decide) (⟨rfl, N23, K22, f24, f21, f25, f26, f27, f28, f29⟩)
theorem ef_m8_3 (m : MethodId) (a0 : Addr)  : entryFrame m #[(.ref a0)] 1 = mkF m 0 #[.val (.ref a0)] [] := by first | (simp [entryFrame, mkF, argsToLocals, Value.category]; done) | rfl
def Q_m8_3 (Z : State) (a0 : Addr) (jj0 : Addr) (h0 : Heap) (n0 : Nat) (v : Option Value) (h : Heap) (L : List Loc) : Prop := v = none ∧ Fr n0 L ∧ Keep h0 h [a0] ∧ Exa Z h a0 kc0 ∧ Fld Z h a0 kc0 "unrated" "Ljava/lang/String;" .null ∧ Fld Z h a0 kc0 "open" "Ljava/math/BigDecimal;" (.ref jj0) ∧ Fld Z h a0 kc0 "downside" "Ljava/math/BigDecimal;" (.ref jj0) ∧ Fld Z h a0 kc0 "upside" "Ljava/math/BigDecimal;" (.ref jj0) ∧ Fld Z h a0 kc0 "exposure" "Ljava/math/BigDecimal;" (.ref jj0) ∧ Fld Z h a0 kc0 "pool" "Lcom/example/ringfence/ringfence/gate/Pool;" .null
theorem rm_m8_3 (l : Launch) (Z : State) (aZ : Array Value) (hw : ∀ d ∈ tables_1, d.before aZ Z = true) (ws : List Jvm.Cond) (a0 : Addr) (jj0 : Addr) (h0 : Heap) (n0 : Nat) (Z0 : n0 ≤ h0.size) (E_a0 : Exa Z h0 a0 kc0) (zz1 : Fld Z h0 a0 kc0 "unrated" "Ljava/lang/String;" .null) (zz2 : n0 ≤ a0) (zz3 : Sta Z Z.heap kc1 "ZERO" "Ljava/math/BigDecimal;" (.ref jj0)) (O0 : Old Z n0 h0) (zz4 : Fld Z h0 a0 kc0 "open" "Ljava/math/BigDecimal;" (.ref jj0)) (zz5 : Fld Z h0 a0 kc0 "downside" "Ljava/math/BigDecimal;" (.ref jj0)) (zz6 : Fld Z h0 a0 kc0 "upside" "Ljava/math/BigDecimal;" (.ref jj0)) (zz7 : Fld Z h0 a0 kc0 "exposure" "Ljava/math/BigDecimal;" (.ref jj0)) (zz8 : Fld Z h0 a0 kc0 "pool" "Lcom/example/ringfence/ringfence/gate/Pool;" .null) :
    MetN l Z yn_8 prog_36_method_7_code 1 none ws ({ frames := 0, cells := 0, slots := 0, locals := 0 } : Room) #[(.ref a0)] h0 (Q_m8_3 Z a0 jj0 h0 n0) := by
 refine MetN.of (plainFor_of_name pn_0) ?_
 intro p e s m below meth c s₁ hret hx hby hml hown hnm hlk hZ X0 e0
 have N0 := Fr.nil n0
 rw [ef_m8_3 m a0]
 refine w_aloadN X0 hx (d8_0 hby) rfl rfl (pc' := 1) rfl ?_
 refine w_null X0 hx (d8_1 hby) (pc' := 2) rfl ?_
 refine w_putF X0 hx "" hZ hown (Or.inl (wd_50 hw)) Via.refl e0 zz1 E_a0 (Or.inl (wd_51 hw)) (wd_1 hw) (ty := (.object kc2)) (by decide) rfl rfl (d8_2 hby) (pc' := 5) rfl ?_
 intro T20 h20 X20 e20 W20
 have f21 : Fld Z h20 a0 kc0 "unrated" "Ljava/lang/String;" .null := zz1.same W20
 have K22 : Keep h0 h20 [a0] := (Keep.refl h0 [a0]).wr W20 (Or.inl (by simp))
 have N23 := Fr.snoc X20 N0 zz2
 refine w_aloadN X20 hx (d8_5 hby) rfl rfl (pc' := 6) rfl ?_
 have f24 : Old Z n0 h20 := (O0.wr W20 zz2)
 refine w_getS X20 hx "" hZ hown (Or.inl (wd_9 hw)) Via.refl e20 (zz3.ext f24.2) (d8_6 hby) (pc' := 9) rfl ?_
 intro T25 X25 e25
 have f26 : Exa Z h20 a0 kc0 := (E_a0.wr W20)
 have f27 : Fld Z h20 a0 kc0 "open" "Ljava/math/BigDecimal;" (.ref jj0) := (zz4.other W20 (Or.inr (slot_ne (Or.inl (wd_12 hw)) (Or.inl (wd_51 hw)) (by decide) (t := (.object kc1)) (t' := (.object kc2)) (by decide) (by decide))))
 refine w_putF X25 hx "" hZ hown (Or.inl (wd_11 hw)) Via.refl e25 f27 f26 (Or.inl (wd_12 hw)) (wd_1 hw) (ty := (.object kc1)) (by decide) rfl rfl (d8_9 hby) (pc' := 12) rfl ?_
 intro T28 h28 X28 e28 W28
 have f29 : Fld Z h28 a0 kc0 "open" "Ljava/math/BigDecimal;" (.ref jj0) := f27.same W28
 have K30 : Keep h0 h28 [a0] := K22.wr W28 (Or.inl (by simp))
 have N31 := Fr.snoc X28 N23 zz2
 refine w_aloadN X28 hx (d8_12 hby) rfl rfl (pc' := 13) rfl ?_
 have f32 : Old Z n0 h28 := (f24.wr W28 zz2)
 refine w_getS X28 hx "" hZ hown (Or.inl (wd_9 hw)) Via.refl e28 (zz3.ext f32.2) (d8_13 hby) (pc' := 16) rfl ?_
 intro T33 X33 e33
 have f34 : Exa Z h28 a0 kc0 := (f26.wr W28)
 have f35 : Fld Z h28 a0 kc0 "downside" "Ljava/math/BigDecimal;" (.ref jj0) := ((zz5.other W20 (Or.inr (slot_ne (Or.inl (wd_14 hw)) (Or.inl (wd_51 hw)) (by decide) (t := (.object kc1)) (t' := (.object kc2)) (by decide) (by decide)))).other W28 (Or.inr (slot_ne (Or.inl (wd_14 hw)) (Or.inl (wd_12 hw)) (by decide) (t := (.object kc1)) (t' := (.object kc1)) (by decide) (by decide))))
 refine w_putF X33 hx "" hZ hown (Or.inl (wd_13 hw)) Via.refl e33 f35 f34 (Or.inl (wd_14 hw)) (wd_1 hw) (ty := (.object kc1)) (by decide) rfl rfl (d8_16 hby) (pc' := 19) rfl ?_
 intro T36 h36 X36 e36 W36
 have f37 : Fld Z h36 a0 kc0 "downside" "Ljava/math/BigDecimal;" (.ref jj0) := f35.same W36
 have K38 : Keep h0 h36 [a0] := K30.wr W36 (Or.inl (by simp))
 have N39 := Fr.snoc X36 N31 zz2
 refine w_aloadN X36 hx (d8_19 hby) rfl rfl (pc' := 20) rfl ?_
 have f40 : Old Z n0 h36 := (f32.wr W36 zz2)
 refine w_getS X36 hx "" hZ hown (Or.inl (wd_9 hw)) Via.refl e36 (zz3.ext f40.2) (d8_20 hby) (pc' := 23) rfl ?_
 intro T41 X41 e41
 have f42 : Exa Z h36 a0 kc0 := (f34.wr W36)
 have f43 : Fld Z h36 a0 kc0 "upside" "Ljava/math/BigDecimal;" (.ref jj0) := (((zz6.other W20 (Or.inr (slot_ne (Or.inl (wd_16 hw)) (Or.inl (wd_51 hw)) (by decide) (t := (.object kc1)) (t' := (.object kc2)) (by decide) (by decide)))).other W28 (Or.inr (slot_ne (Or.inl (wd_16 hw)) (Or.inl (wd_12 hw)) (by decide) (t := (.object kc1)) (t' := (.object kc1)) (by decide) (by decide)))).other W36 (Or.inr (slot_ne (Or.inl (wd_16 hw)) (Or.inl (wd_14 hw)) (by decide) (t := (.object kc1)) (t' := (.object kc1)) (by decide) (by decide))))
 refine w_putF X41 hx "" hZ hown (Or.inl (wd_15 hw)) Via.refl e41 f43 f42 (Or.inl (wd_16 hw)) (wd_1 hw) (ty := (.object kc1)) (by decide) rfl rfl (d8_23 hby) (pc' := 26) rfl ?_
 intro T44 h44 X44 e44 W44
 have f45 : Fld Z h44 a0 kc0 "upside" "Ljava/math/BigDecimal;" (.ref jj0) := f43.same W44
 have K46 : Keep h0 h44 [a0] := K38.wr W44 (Or.inl (by simp))
 have N47 := Fr.snoc X44 N39 zz2
 refine w_aloadN X44 hx (d8_26 hby) rfl rfl (pc' := 27) rfl ?_
 have f48 : Old Z n0 h44 := (f40.wr W44 zz2)
 refine w_getS X44 hx "" hZ hown (Or.inl (wd_9 hw)) Via.refl e44 (zz3.ext f48.2) (d8_27 hby) (pc' := 30) rfl ?_
 intro T49 X49 e49
 have f50 : Exa Z h44 a0 kc0 := (f42.wr W44)
 have f51 : Fld Z h44 a0 kc0 "exposure" "Ljava/math/BigDecimal;" (.ref jj0) := ((((zz7.other W20 (Or.inr (slot_ne (Or.inl (wd_18 hw)) (Or.inl (wd_51 hw)) (by decide) (t := (.object kc1)) (t' := (.object kc2)) (by decide) (by decide)))).other W28 (Or.inr (slot_ne (Or.inl (wd_18 hw)) (Or.inl (wd_12 hw)) (by decide) (t := (.object kc1)) (t' := (.object kc1)) (by decide) (by decide)))).other W36 (Or.inr (slot_ne (Or.inl (wd_18 hw)) (Or.inl (wd_14 hw)) (by decide) (t := (.object kc1)) (t' := (.object kc1)) (by decide) (by decide)))).other W44 (Or.inr (slot_ne (Or.inl (wd_18 hw)) (Or.inl (wd_16 hw)) (by decide) (t := (.object kc1)) (t' := (.object kc1)) (by decide) (by decide))))
 refine w_putF X49 hx "" hZ hown (Or.inl (wd_17 hw)) Via.refl e49 f51 f50 (Or.inl (wd_18 hw)) (wd_1 hw) (ty := (.object kc1)) (by decide) rfl rfl (d8_30 hby) (pc' := 33) rfl ?_
 intro T52 h52 X52 e52 W52
 have f53 : Fld Z h52 a0 kc0 "exposure" "Ljava/math/BigDecimal;" (.ref jj0) := f51.same W52
 have K54 : Keep h0 h52 [a0] := K46.wr W52 (Or.inl (by simp))
 have N55 := Fr.snoc X52 N47 zz2
 have f56 : Exa Z h52 a0 kc0 := (f50.wr W52)
 have f57 : Fld Z h52 a0 kc0 "unrated" "Ljava/lang/String;" .null := ((((f21.other W28 (Or.inr (slot_ne (Or.inl (wd_51 hw)) (Or.inl (wd_12 hw)) (by decide) (t := (.object kc2)) (t' := (.object kc1)) (by decide) (by decide)))).other W36 (Or.inr (slot_ne (Or.inl (wd_51 hw)) (Or.inl (wd_14 hw)) (by decide) (t := (.object kc2)) (t' := (.object kc1)) (by decide) (by decide)))).other W44 (Or.inr (slot_ne (Or.inl (wd_51 hw)) (Or.inl (wd_16 hw)) (by decide) (t := (.object kc2)) (t' := (.object kc1)) (by decide) (by decide)))).other W52 (Or.inr (slot_ne (Or.inl (wd_51 hw)) (Or.inl (wd_18 hw)) (by decide) (t := (.object kc2)) (t' := (.object kc1)) (by decide) (by decide))))
 have f58 : Fld Z h52 a0 kc0 "open" "Ljava/math/BigDecimal;" (.ref jj0) := (((f29.other W36 (Or.inr (slot_ne (Or.inl (wd_12 hw)) (Or.inl (wd_14 hw)) (by decide) (t := (.object kc1)) (t' := (.object kc1)) (by decide) (by decide)))).other W44 (Or.inr (slot_ne (Or.inl (wd_12 hw)) (Or.inl (wd_16 hw)) (by decide) (t := (.object kc1)) (t' := (.object kc1)) (by decide) (by decide)))).other W52 (Or.inr (slot_ne (Or.inl (wd_12 hw)) (Or.inl (wd_18 hw)) (by decide) (t := (.object kc1)) (t' := (.object kc1)) (by decide) (by decide))))
 have f59 : Fld Z h52 a0 kc0 "downside" "Ljava/math/BigDecimal;" (.ref jj0) := ((f37.other W44 (Or.inr (slot_ne (Or.inl (wd_14 hw)) (Or.inl (wd_16 hw)) (by decide) (t := (.object kc1)) (t' := (.object kc1)) (by decide) (by decide)))).other W52 (Or.inr (slot_ne (Or.inl (wd_14 hw)) (Or.inl (wd_18 hw)) (by decide) (t := (.object kc1)) (t' := (.object kc1)) (by decide) (by decide))))
 have f60 : Fld Z h52 a0 kc0 "upside" "Ljava/math/BigDecimal;" (.ref jj0) := (f45.other W52 (Or.inr (slot_ne (Or.inl (wd_16 hw)) (Or.inl (wd_18 hw)) (by decide) (t := (.object kc1)) (t' := (.object kc1)) (by decide) (by decide))))
 have f61 : Fld Z h52 a0 kc0 "pool" "Lcom/example/ringfence/ringfence/gate/Pool;" .null := (((((zz8.other W20 (Or.inr (slot_ne (Or.inr (wd_20 hw)) (Or.inl (wd_51 hw)) (by decide) (t := (.object kc5)) (t' := (.object kc2)) (by decide) (by decide)))).other W28 (Or.inr (slot_ne (Or.inr (wd_20 hw)) (Or.inl (wd_12 hw)) (by decide) (t := (.object kc5)) (t' := (.object kc1)) (by decide) (by decide)))).other W36 (Or.inr (slot_ne (Or.inr (wd_20 hw)) (Or.inl (wd_14 hw)) (by decide) (t := (.object kc5)) (t' := (.object kc1)) (by decide) (by decide)))).other W44 (Or.inr (slot_ne (Or.inr (wd_20 hw)) (Or.inl (wd_16 hw)) (by decide) (t := (.object kc5)) (t' := (.object kc1)) (by decide) (by decide)))).other W52 (Or.inr (slot_ne (Or.inr (wd_20 hw)) (Or.inl (wd_18 hw)) (by decide) (t := (.object kc5)) (t' := (.object kc1)) (by decide) (by decide))))
 exact w_done X52 hlk (v := none) e52 (fun _ => rfl) (fun fs hr => X52.returnOut hx hret (d8_33 hby) hr) (by decide) (by decide) (⟨rfl, N55, K54, f56, f57, f58, f59, f60, f53, f61⟩)
theorem ef_m9_4 (m : MethodId) (a0 : Addr)  : entryFrame m #[(.ref a0)] 1 = mkF m 0 #[.val (.ref a0)] [] := by first | (simp [entryFrame, mkF, argsToLocals, Value.category]; done) | rfl
def Q_m9_4 (Z : State) (a0 : Addr) (h0 : Heap) (n0 : Nat) (v : Option Value) (h : Heap) (L : List Loc) : Prop := v = some .null ∧ Fr n0 L ∧ h = h0
theorem rm_m9_4 (l : Launch) (Z : State) (aZ : Array Value) (hw : ∀ d ∈ tables_1, d.before aZ Z = true) (ws : List Jvm.Cond) (a0 : Addr) (h0 : Heap) (n0 : Nat) (Z0 : n0 ≤ h0.size) (zz0 : Fld Z h0 a0 kc0 "unrated" "Ljava/lang/String;" .null) :
    MetN l Z yn_9 prog_36_method_4_code 1 (some (.object kc2)) ws ({ frames := 0, cells := 0, slots := 0, locals := 0 } : Room) #[(.ref a0)] h0 (Q_m9_4 Z a0 h0 n0) := by
 refine MetN.of (plainFor_of_name pn_0) ?_
 intro p e s m below meth c s₁ hret hx hby hml hown hnm hlk hZ X0 e0
 have N0 := Fr.nil n0
 rw [ef_m9_4 m a0]
 refine w_aloadN X0 hx (d9_0 hby) rfl rfl (pc' := 1) rfl ?_
 refine w_getF X0 hx "" hZ hown (Or.inl (wd_50 hw)) Via.refl e0 zz0 (d9_1 hby) (pc' := 4) rfl ?_
 intro T20 X20 e20
 exact w_done X20 hlk (v := some .null) e20 (fun h => by rw [hret] at h; cases h) (fun fs hr => retOut X20 hx hret rfl (Or.inr (Or.inr (Or.inr (Or.inr ⟨rfl, rfl, rfl⟩)))) (d9_4 hby) hr) (by decide) (by decide) (⟨rfl, N0, rfl⟩)
theorem ef_m11_6 (m : MethodId) (jj0 : Addr)  : entryFrame m #[(.ref jj0)] 1 = mkF m 0 #[.val (.ref jj0)] [] := by first | (simp [entryFrame, mkF, argsToLocals, Value.category]; done) | rfl
def Q_m11_6 (Z : State) (jj0 : Addr) (h0 : Heap) (n0 : Nat) (v : Option Value) (h : Heap) (L : List Loc) : Prop := v = some (.int (1 : Int32)) ∧ Fr n0 L ∧ h = h0
theorem rm_m11_6 (l : Launch) (Z : State) (aZ : Array Value) (hw : ∀ d ∈ tables_1, d.before aZ Z = true) (ws : List Jvm.Cond) (jj0 : Addr) (h0 : Heap) (n0 : Nat) (Z0 : n0 ≤ h0.size) (zz1 : Fld Z h0 jj0 kc3 "ordinal" "I" (.int (1 : Int32))) :
    MetN l Z yn_11 jdk_37_method_2_code 1 (some .int) ws ({ frames := 0, cells := 0, slots := 0, locals := 0 } : Room) #[(.ref jj0)] h0 (Q_m11_6 Z jj0 h0 n0) := by
 refine MetN.of (plainFor_of_name pn_1) ?_
 intro p e s m below meth c s₁ hret hx hby hml hown hnm hlk hZ X0 e0
 have N0 := Fr.nil n0
 rw [ef_m11_6 m jj0]
 refine w_aloadN X0 hx (d11_0 hby) rfl rfl (pc' := 1) rfl ?_
 refine w_getF X0 hx "" hZ hown (Or.inl (wd_80 hw)) Via.refl e0 zz1 (d11_1 hby) (pc' := 4) rfl ?_
 intro T20 X20 e20
 exact w_done X20 hlk (v := some (.int (1 : Int32))) e20 (fun h => by rw [hret] at h; cases h) (fun fs hr => retI X20 hx hret (d11_4 hby) hr) (by decide) (by decide) (⟨rfl, N0, rfl⟩)
theorem ef_m10_5 (m : MethodId) (a0 : Addr) (jj0 : Addr)  : entryFrame m #[(.ref a0), (.ref jj0)] 2 = mkF m 0 #[.val (.ref a0), .val (.ref jj0)] [] := by first | (simp [entryFrame, mkF, argsToLocals, Value.category]; done) | rfl
def Q_m10_5 (Z : State) (a0 : Addr) (jj0 : Addr) (jj1 : Addr) (jj2 : ClassId) (jj3 : Addr) (h0 : Heap) (n0 : Nat) (v : Option Value) (h : Heap) (L : List Loc) : Prop := v = some (.ref jj3) ∧ Fr n0 L ∧ h = h0
theorem rm_m10_5 (l : Launch) (Z : State) (aZ : Array Value) (hw : ∀ d ∈ tables_1, d.before aZ Z = true) (ws : List Jvm.Cond) (a0 : Addr) (jj0 : Addr) (jj1 : Addr) (jj2 : ClassId) (jj3 : Addr) (h0 : Heap) (n0 : Nat) (Z0 : n0 ≤ h0.size) (zz4 : Fld Z h0 a0 kc0 "unrated" "Ljava/lang/String;" .null) (zz5 : Sta Z Z.heap "com/example/ringfence/ringfence/gate/Measures$1" "$SwitchMap$com$example$ringfence$ringfence$gate$Measure" "[I" (.ref jj1)) (O0 : Old Z n0 h0) (zz6 : Exa Z h0 jj0 kc4) (zz7 : Fld Z h0 jj0 kc3 "ordinal" "I" (.int (1 : Int32))) (zz8 : Arv Z h0 jj1 jj2 .int (5 : Int32) [(.int (1 : Int32)), (.int (2 : Int32)), (.int (3 : Int32)), (.int (4 : Int32)), (.int (5 : Int32))] (.int (0 : Int32))) (zz9 : Fld Z h0 a0 kc0 "downside" "Ljava/math/BigDecimal;" (.ref jj3)) :
    MetN l Z yn_10 prog_36_method_3_code 2 (some (.object kc1)) ws ({ frames := 1, cells := 0, slots := 0, locals := 13 } : Room) #[(.ref a0), (.ref jj0)] h0 (Q_m10_5 Z a0 jj0 jj1 jj2 jj3 h0 n0) := by
 refine MetN.of (plainFor_of_name pn_0) ?_
 intro p e s m below meth c s₁ hret hx hby hml hown hnm hlk hZ X0 e0
 have N0 := Fr.nil n0
 rw [ef_m10_5 m a0 jj0]
 refine w_aloadN X0 hx (d10_0 hby) rfl rfl (pc' := 1) rfl ?_
 refine w_getF X0 hx "" hZ hown (Or.inl (wd_50 hw)) Via.refl e0 zz4 (d10_1 hby) (pc' := 4) rfl ?_
 intro T20 X20 e20
 refine w_ifnullY X20 hx (d10_4 hby) (pc' := 9) (by decide) (by decide) ?_
 refine w_getS X20 hx "" hZ hown (Or.inl (wd_70 hw)) Via.refl e20 (zz5.ext O0.2) (d10_9 hby) (pc' := 12) rfl ?_
 intro T21 X21 e21
 refine w_aloadN X21 hx (d10_12 hby) rfl rfl (pc' := 13) rfl ?_
 obtain ⟨cq22, kq22, q22a, q22b, q22c⟩ := isOf hZ e21 zz6
 refine w_virtualUp X21 hx (y := (⟨kc4, "ordinal", "()I"⟩ : MethodName)) (z := yn_11) (owner := kc3) hown (mvT hZ (wd_73 hw)) (mvT hZ (wd_74 hw)) (mvT hZ (wd_75 hw)) (by decide) (mvT hZ (wd_77 hw)) (mvT hZ (wd_76 hw)) (backOf (W := 1) (rm_m11_6 l Z aZ hw [] jj0 h0 n0 Z0 zz7) hZ (wd_79 hw) (wd_78 hw) (by decide) (by decide)) q22a q22c (by rw [hml]; rfl) [] (lenOf pd_4 rfl) rfl (Nat.le_of_eq rfl) (d10_13 hby) (fun _ _ => ⟨rfl, e21, (by decide : 0 + 0 ≤ _), (by decide : 0 + 0 ≤ _)⟩) (pc' := 16) rfl ?_
 rintro _ _ ⟨T22, L22, k22, n22⟩ X22 ⟨Lc22, hQ22, l22, y22, z22⟩
 dsimp only [Pt.U, Pt.locs, Pt.cells, Pt.slots] at X22 l22 y22 z22 hQ22 ⊢
 subst l22 y22 z22
 obtain ⟨rfl, N22q, e22⟩ := hQ22
 have N23 := Fr.app N0 N22q
 show Runs _ _ _ _ (T22.setTop (mkF m 16 #[.val (.ref a0), .val (.ref jj0)] [(.int (1 : Int32)), (.ref jj1)]))
 obtain ⟨clu24, Aru24, qu24, Su24, Nu24, Hu24, Gu24⟩ := id zz8
 have hinu24 := inb_of (j := (1 : Int32)) Su24 ⟨by decide, by decide⟩
 refine w_iaload X22 hx hZ e22 Aru24 hinu24 (Hu24.at hinu24 rfl) (d10_16 hby) (pc' := 17) rfl ?_
 refine w_tswIn X22 hx (d10_17 hby) (by decide) (o := 58) rfl (pc' := 75) (by decide) (by decide) ?_
 refine w_aloadN X22 hx (d10_75 hby) rfl rfl (pc' := 76) rfl ?_
 refine w_getF X22 hx "" hZ hown (Or.inl (wd_13 hw)) Via.refl e22 zz9 (d10_76 hby) (pc' := 79) rfl ?_
 intro T25 X25 e25
 refine w_goto X25 hx (d10_79 hby) (pc' := 107) (by decide) (by decide) ?_
 exact w_done X25 hlk (v := some (.ref jj3)) e25 (fun h => by rw [hret] at h; cases h) (fun fs hr => retOut X25 hx hret rfl (Or.inr (Or.inr (Or.inr (Or.inr ⟨rfl, rfl, rfl⟩)))) (d10_107 hby) hr) (by decide) (by decide) (⟨rfl, N23, rfl⟩)
theorem ef_m11_8 (m : MethodId) (jj0 : Addr)  : entryFrame m #[(.ref jj0)] 1 = mkF m 0 #[.val (.ref jj0)] [] := by first | (simp [entryFrame, mkF, argsToLocals, Value.category]; done) | rfl
def Q_m11_8 (Z : State) (jj0 : Addr) (h0 : Heap) (n0 : Nat) (v : Option Value) (h : Heap) (L : List Loc) : Prop := v = some (.int (2 : Int32)) ∧ Fr n0 L ∧ h = h0
theorem rm_m11_8 (l : Launch) (Z : State) (aZ : Array Value) (hw : ∀ d ∈ tables_1, d.before aZ Z = true) (ws : List Jvm.Cond) (jj0 : Addr) (h0 : Heap) (n0 : Nat) (Z0 : n0 ≤ h0.size) (zz1 : Fld Z h0 jj0 kc3 "ordinal" "I" (.int (2 : Int32))) :
    MetN l Z yn_11 jdk_37_method_2_code 1 (some .int) ws ({ frames := 0, cells := 0, slots := 0, locals := 0 } : Room) #[(.ref jj0)] h0 (Q_m11_8 Z jj0 h0 n0) := by
 refine MetN.of (plainFor_of_name pn_1) ?_
 intro p e s m below meth c s₁ hret hx hby hml hown hnm hlk hZ X0 e0
 have N0 := Fr.nil n0
 rw [ef_m11_8 m jj0]
 refine w_aloadN X0 hx (d11_0 hby) rfl rfl (pc' := 1) rfl ?_
 refine w_getF X0 hx "" hZ hown (Or.inl (wd_80 hw)) Via.refl e0 zz1 (d11_1 hby) (pc' := 4) rfl ?_
 intro T20 X20 e20
 exact w_done X20 hlk (v := some (.int (2 : Int32))) e20 (fun h => by rw [hret] at h; cases h) (fun fs hr => retI X20 hx hret (d11_4 hby) hr) (by decide) (by decide) (⟨rfl, N0, rfl⟩)
theorem ef_m10_7 (m : MethodId) (a0 : Addr) (jj0 : Addr)  : entryFrame m #[(.ref a0), (.ref jj0)] 2 = mkF m 0 #[.val (.ref a0), .val (.ref jj0)] [] := by first | (simp [entryFrame, mkF, argsToLocals, Value.category]; done) | rfl
def Q_m10_7 (Z : State) (a0 : Addr) (jj0 : Addr) (jj1 : Addr) (jj2 : ClassId) (jj3 : Addr) (h0 : Heap) (n0 : Nat) (v : Option Value) (h : Heap) (L : List Loc) : Prop := v = some (.ref jj3) ∧ Fr n0 L ∧ h = h0
theorem rm_m10_7 (l : Launch) (Z : State) (aZ : Array Value) (hw : ∀ d ∈ tables_1, d.before aZ Z = true) (ws : List Jvm.Cond) (a0 : Addr) (jj0 : Addr) (jj1 : Addr) (jj2 : ClassId) (jj3 : Addr) (h0 : Heap) (n0 : Nat) (Z0 : n0 ≤ h0.size) (zz4 : Fld Z h0 a0 kc0 "unrated" "Ljava/lang/String;" .null) (zz5 : Sta Z Z.heap "com/example/ringfence/ringfence/gate/Measures$1" "$SwitchMap$com$example$ringfence$ringfence$gate$Measure" "[I" (.ref jj1)) (O0 : Old Z n0 h0) (zz6 : Exa Z h0 jj0 kc4) (zz7 : Fld Z h0 jj0 kc3 "ordinal" "I" (.int (2 : Int32))) (zz8 : Arv Z h0 jj1 jj2 .int (5 : Int32) [(.int (1 : Int32)), (.int (2 : Int32)), (.int (3 : Int32)), (.int (4 : Int32)), (.int (5 : Int32))] (.int (0 : Int32))) (zz9 : Fld Z h0 a0 kc0 "upside" "Ljava/math/BigDecimal;" (.ref jj3)) :
    MetN l Z yn_10 prog_36_method_3_code 2 (some (.object kc1)) ws ({ frames := 1, cells := 0, slots := 0, locals := 13 } : Room) #[(.ref a0), (.ref jj0)] h0 (Q_m10_7 Z a0 jj0 jj1 jj2 jj3 h0 n0) := by
 refine MetN.of (plainFor_of_name pn_0) ?_
 intro p e s m below meth c s₁ hret hx hby hml hown hnm hlk hZ X0 e0
 have N0 := Fr.nil n0
 rw [ef_m10_7 m a0 jj0]
 refine w_aloadN X0 hx (d10_0 hby) rfl rfl (pc' := 1) rfl ?_
 refine w_getF X0 hx "" hZ hown (Or.inl (wd_50 hw)) Via.refl e0 zz4 (d10_1 hby) (pc' := 4) rfl ?_
 intro T20 X20 e20
 refine w_ifnullY X20 hx (d10_4 hby) (pc' := 9) (by decide) (by decide) ?_
 refine w_getS X20 hx "" hZ hown (Or.inl (wd_70 hw)) Via.refl e20 (zz5.ext O0.2) (d10_9 hby) (pc' := 12) rfl ?_
 intro T21 X21 e21
 refine w_aloadN X21 hx (d10_12 hby) rfl rfl (pc' := 13) rfl ?_
 obtain ⟨cq22, kq22, q22a, q22b, q22c⟩ := isOf hZ e21 zz6
 refine w_virtualUp X21 hx (y := (⟨kc4, "ordinal", "()I"⟩ : MethodName)) (z := yn_11) (owner := kc3) hown (mvT hZ (wd_73 hw)) (mvT hZ (wd_74 hw)) (mvT hZ (wd_75 hw)) (by decide) (mvT hZ (wd_77 hw)) (mvT hZ (wd_76 hw)) (backOf (W := 1) (rm_m11_8 l Z aZ hw [] jj0 h0 n0 Z0 zz7) hZ (wd_79 hw) (wd_78 hw) (by decide) (by decide)) q22a q22c (by rw [hml]; rfl) [] (lenOf pd_4 rfl) rfl (Nat.le_of_eq rfl) (d10_13 hby) (fun _ _ => ⟨rfl, e21, (by decide : 0 + 0 ≤ _), (by decide : 0 + 0 ≤ _)⟩) (pc' := 16) rfl ?_
 rintro _ _ ⟨T22, L22, k22, n22⟩ X22 ⟨Lc22, hQ22, l22, y22, z22⟩
 dsimp only [Pt.U, Pt.locs, Pt.cells, Pt.slots] at X22 l22 y22 z22 hQ22 ⊢
 subst l22 y22 z22
 obtain ⟨rfl, N22q, e22⟩ := hQ22
 have N23 := Fr.app N0 N22q
 show Runs _ _ _ _ (T22.setTop (mkF m 16 #[.val (.ref a0), .val (.ref jj0)] [(.int (2 : Int32)), (.ref jj1)]))
 obtain ⟨clu24, Aru24, qu24, Su24, Nu24, Hu24, Gu24⟩ := id zz8
 have hinu24 := inb_of (j := (2 : Int32)) Su24 ⟨by decide, by decide⟩
 refine w_iaload X22 hx hZ e22 Aru24 hinu24 (Hu24.at hinu24 rfl) (d10_16 hby) (pc' := 17) rfl ?_
 refine w_tswIn X22 hx (d10_17 hby) (by decide) (o := 65) rfl (pc' := 82) (by decide) (by decide) ?_
 refine w_aloadN X22 hx (d10_82 hby) rfl rfl (pc' := 83) rfl ?_
 refine w_getF X22 hx "" hZ hown (Or.inl (wd_15 hw)) Via.refl e22 zz9 (d10_83 hby) (pc' := 86) rfl ?_
 intro T25 X25 e25
 refine w_goto X25 hx (d10_86 hby) (pc' := 107) (by decide) (by decide) ?_
 exact w_done X25 hlk (v := some (.ref jj3)) e25 (fun h => by rw [hret] at h; cases h) (fun fs hr => retOut X25 hx hret rfl (Or.inr (Or.inr (Or.inr (Or.inr ⟨rfl, rfl, rfl⟩)))) (d10_107 hby) hr) (by decide) (by decide) (⟨rfl, N23, rfl⟩)
theorem ef_m11_10 (m : MethodId) (jj0 : Addr)  : entryFrame m #[(.ref jj0)] 1 = mkF m 0 #[.val (.ref jj0)] [] := by first | (simp [entryFrame, mkF, argsToLocals, Value.category]; done) | rfl
def Q_m11_10 (Z : State) (jj0 : Addr) (h0 : Heap) (n0 : Nat) (v : Option Value) (h : Heap) (L : List Loc) : Prop := v = some (.int (3 : Int32)) ∧ Fr n0 L ∧ h = h0
theorem rm_m11_10 (l : Launch) (Z : State) (aZ : Array Value) (hw : ∀ d ∈ tables_1, d.before aZ Z = true) (ws : List Jvm.Cond) (jj0 : Addr) (h0 : Heap) (n0 : Nat) (Z0 : n0 ≤ h0.size) (zz1 : Fld Z h0 jj0 kc3 "ordinal" "I" (.int (3 : Int32))) :
    MetN l Z yn_11 jdk_37_method_2_code 1 (some .int) ws ({ frames := 0, cells := 0, slots := 0, locals := 0 } : Room) #[(.ref jj0)] h0 (Q_m11_10 Z jj0 h0 n0) := by
 refine MetN.of (plainFor_of_name pn_1) ?_
 intro p e s m below meth c s₁ hret hx hby hml hown hnm hlk hZ X0 e0
 have N0 := Fr.nil n0
 rw [ef_m11_10 m jj0]
 refine w_aloadN X0 hx (d11_0 hby) rfl rfl (pc' := 1) rfl ?_
 refine w_getF X0 hx "" hZ hown (Or.inl (wd_80 hw)) Via.refl e0 zz1 (d11_1 hby) (pc' := 4) rfl ?_
 intro T20 X20 e20
 exact w_done X20 hlk (v := some (.int (3 : Int32))) e20 (fun h => by rw [hret] at h; cases h) (fun fs hr => retI X20 hx hret (d11_4 hby) hr) (by decide) (by decide) (⟨rfl, N0, rfl⟩)
theorem ef_m10_9 (m : MethodId) (a0 : Addr) (jj0 : Addr)  : entryFrame m #[(.ref a0), (.ref jj0)] 2 = mkF m 0 #[.val (.ref a0), .val (.ref jj0)] [] := by first | (simp [entryFrame, mkF, argsToLocals, Value.category]; done) | rfl
def Q_m10_9 (Z : State) (a0 : Addr) (jj0 : Addr) (jj1 : Addr) (jj2 : ClassId) (jj3 : Addr) (h0 : Heap) (n0 : Nat) (v : Option Value) (h : Heap) (L : List Loc) : Prop := v = some (.ref jj3) ∧ Fr n0 L ∧ h = h0
theorem rm_m10_9 (l : Launch) (Z : State) (aZ : Array Value) (hw : ∀ d ∈ tables_1, d.before aZ Z = true) (ws : List Jvm.Cond) (a0 : Addr) (jj0 : Addr) (jj1 : Addr) (jj2 : ClassId) (jj3 : Addr) (h0 : Heap) (n0 : Nat) (Z0 : n0 ≤ h0.size) (zz4 : Fld Z h0 a0 kc0 "unrated" "Ljava/lang/String;" .null) (zz5 : Sta Z Z.heap "com/example/ringfence/ringfence/gate/Measures$1" "$SwitchMap$com$example$ringfence$ringfence$gate$Measure" "[I" (.ref jj1)) (O0 : Old Z n0 h0) (zz6 : Exa Z h0 jj0 kc4) (zz7 : Fld Z h0 jj0 kc3 "ordinal" "I" (.int (3 : Int32))) (zz8 : Arv Z h0 jj1 jj2 .int (5 : Int32) [(.int (1 : Int32)), (.int (2 : Int32)), (.int (3 : Int32)), (.int (4 : Int32)), (.int (5 : Int32))] (.int (0 : Int32))) (zz9 : Fld Z h0 a0 kc0 "exposure" "Ljava/math/BigDecimal;" (.ref jj3)) :
    MetN l Z yn_10 prog_36_method_3_code 2 (some (.object kc1)) ws ({ frames := 1, cells := 0, slots := 0, locals := 13 } : Room) #[(.ref a0), (.ref jj0)] h0 (Q_m10_9 Z a0 jj0 jj1 jj2 jj3 h0 n0) := by
 refine MetN.of (plainFor_of_name pn_0) ?_
 intro p e s m below meth c s₁ hret hx hby hml hown hnm hlk hZ X0 e0
 have N0 := Fr.nil n0
 rw [ef_m10_9 m a0 jj0]
 refine w_aloadN X0 hx (d10_0 hby) rfl rfl (pc' := 1) rfl ?_
 refine w_getF X0 hx "" hZ hown (Or.inl (wd_50 hw)) Via.refl e0 zz4 (d10_1 hby) (pc' := 4) rfl ?_
 intro T20 X20 e20
 refine w_ifnullY X20 hx (d10_4 hby) (pc' := 9) (by decide) (by decide) ?_
 refine w_getS X20 hx "" hZ hown (Or.inl (wd_70 hw)) Via.refl e20 (zz5.ext O0.2) (d10_9 hby) (pc' := 12) rfl ?_
 intro T21 X21 e21
 refine w_aloadN X21 hx (d10_12 hby) rfl rfl (pc' := 13) rfl ?_
 obtain ⟨cq22, kq22, q22a, q22b, q22c⟩ := isOf hZ e21 zz6
 refine w_virtualUp X21 hx (y := (⟨kc4, "ordinal", "()I"⟩ : MethodName)) (z := yn_11) (owner := kc3) hown (mvT hZ (wd_73 hw)) (mvT hZ (wd_74 hw)) (mvT hZ (wd_75 hw)) (by decide) (mvT hZ (wd_77 hw)) (mvT hZ (wd_76 hw)) (backOf (W := 1) (rm_m11_10 l Z aZ hw [] jj0 h0 n0 Z0 zz7) hZ (wd_79 hw) (wd_78 hw) (by decide) (by decide)) q22a q22c (by rw [hml]; rfl) [] (lenOf pd_4 rfl) rfl (Nat.le_of_eq rfl) (d10_13 hby) (fun _ _ => ⟨rfl, e21, (by decide : 0 + 0 ≤ _), (by decide : 0 + 0 ≤ _)⟩) (pc' := 16) rfl ?_
 rintro _ _ ⟨T22, L22, k22, n22⟩ X22 ⟨Lc22, hQ22, l22, y22, z22⟩
 dsimp only [Pt.U, Pt.locs, Pt.cells, Pt.slots] at X22 l22 y22 z22 hQ22 ⊢
 subst l22 y22 z22
 obtain ⟨rfl, N22q, e22⟩ := hQ22
 have N23 := Fr.app N0 N22q
 show Runs _ _ _ _ (T22.setTop (mkF m 16 #[.val (.ref a0), .val (.ref jj0)] [(.int (3 : Int32)), (.ref jj1)]))
 obtain ⟨clu24, Aru24, qu24, Su24, Nu24, Hu24, Gu24⟩ := id zz8
 have hinu24 := inb_of (j := (3 : Int32)) Su24 ⟨by decide, by decide⟩
 refine w_iaload X22 hx hZ e22 Aru24 hinu24 (Hu24.at hinu24 rfl) (d10_16 hby) (pc' := 17) rfl ?_
 refine w_tswIn X22 hx (d10_17 hby) (by decide) (o := 72) rfl (pc' := 89) (by decide) (by decide) ?_
 refine w_aloadN X22 hx (d10_89 hby) rfl rfl (pc' := 90) rfl ?_
 refine w_getF X22 hx "" hZ hown (Or.inl (wd_17 hw)) Via.refl e22 zz9 (d10_90 hby) (pc' := 93) rfl ?_
 intro T25 X25 e25
 refine w_goto X25 hx (d10_93 hby) (pc' := 107) (by decide) (by decide) ?_
 exact w_done X25 hlk (v := some (.ref jj3)) e25 (fun h => by rw [hret] at h; cases h) (fun fs hr => retOut X25 hx hret rfl (Or.inr (Or.inr (Or.inr (Or.inr ⟨rfl, rfl, rfl⟩)))) (d10_107 hby) hr) (by decide) (by decide) (⟨rfl, N23, rfl⟩)
theorem ef_m7_11 (m : MethodId) (a0 : Addr) (a1 : Addr)  : entryFrame m #[(.ref a0), (.ref a1)] 2 = mkF m 0 #[.val (.ref a0), .val (.ref a1)] [] := by first | (simp [entryFrame, mkF, argsToLocals, Value.category]; done) | rfl
def Q_m7_11 (Z : State) (a0 : Addr) (a1 : Addr) (jj0 : Addr) (h0 : Heap) (n0 : Nat) (v : Option Value) (h : Heap) (L : List Loc) : Prop := v = none ∧ Fr n0 L ∧ Keep h0 h [a0] ∧ Exa Z h a0 kc0 ∧ Fld Z h a0 kc0 "unrated" "Ljava/lang/String;" (.ref a1) ∧ Fld Z h a0 kc0 "open" "Ljava/math/BigDecimal;" (.ref jj0) ∧ Fld Z h a0 kc0 "downside" "Ljava/math/BigDecimal;" (.ref jj0) ∧ Fld Z h a0 kc0 "upside" "Ljava/math/BigDecimal;" (.ref jj0) ∧ Fld Z h a0 kc0 "exposure" "Ljava/math/BigDecimal;" (.ref jj0) ∧ Fld Z h a0 kc0 "pool" "Lcom/example/ringfence/ringfence/gate/Pool;" .null
theorem rm_m7_11 (l : Launch) (Z : State) (aZ : Array Value) (hw : ∀ d ∈ tables_1, d.before aZ Z = true) (ws : List Jvm.Cond) (a0 : Addr) (a1 : Addr) (jj0 : Addr) (h0 : Heap) (n0 : Nat) (Z0 : n0 ≤ h0.size) (E_a0 : Exa Z h0 a0 kc0) (zz1 : Fld Z h0 a0 kc0 "unrated" "Ljava/lang/String;" .null) (zz2 : n0 ≤ a0) (zz3 : Fld Z h0 a0 kc0 "open" "Ljava/math/BigDecimal;" (.ref jj0)) (zz4 : Fld Z h0 a0 kc0 "downside" "Ljava/math/BigDecimal;" (.ref jj0)) (zz5 : Fld Z h0 a0 kc0 "upside" "Ljava/math/BigDecimal;" (.ref jj0)) (zz6 : Fld Z h0 a0 kc0 "exposure" "Ljava/math/BigDecimal;" (.ref jj0)) (zz7 : Fld Z h0 a0 kc0 "pool" "Lcom/example/ringfence/ringfence/gate/Pool;" .null) :
    MetN l Z yn_7 prog_36_method_5_code 2 none ws ({ frames := 0, cells := 0, slots := 0, locals := 0 } : Room) #[(.ref a0), (.ref a1)] h0 (Q_m7_11 Z a0 a1 jj0 h0 n0) := by
 refine MetN.of (plainFor_of_name pn_0) ?_
 intro p e s m below meth c s₁ hret hx hby hml hown hnm hlk hZ X0 e0
 have N0 := Fr.nil n0
 rw [ef_m7_11 m a0 a1]
 refine w_aloadN X0 hx (d7_0 hby) rfl rfl (pc' := 1) rfl ?_
 refine w_aloadN X0 hx (d7_1 hby) rfl rfl (pc' := 2) rfl ?_
 refine w_putF X0 hx "" hZ hown (Or.inl (wd_50 hw)) Via.refl e0 zz1 E_a0 (Or.inl (wd_51 hw)) (wd_1 hw) (ty := (.object kc2)) (by decide) rfl rfl (d7_2 hby) (pc' := 5) rfl ?_
 intro T20 h20 X20 e20 W20
 have f21 : Fld Z h20 a0 kc0 "unrated" "Ljava/lang/String;" (.ref a1) := zz1.same W20
 have K22 : Keep h0 h20 [a0] := (Keep.refl h0 [a0]).wr W20 (Or.inl (by simp))
 have N23 := Fr.snoc X20 N0 zz2
 have f24 : Exa Z h20 a0 kc0 := (E_a0.wr W20)
 have f25 : Fld Z h20 a0 kc0 "open" "Ljava/math/BigDecimal;" (.ref jj0) := (zz3.other W20 (Or.inr (slot_ne (Or.inl (wd_12 hw)) (Or.inl (wd_51 hw)) (by decide) (t := (.object kc1)) (t' := (.object kc2)) (by decide) (by decide))))
 have f26 : Fld Z h20 a0 kc0 "downside" "Ljava/math/BigDecimal;" (.ref jj0) := (zz4.other W20 (Or.inr (slot_ne (Or.inl (wd_14 hw)) (Or.inl (wd_51 hw)) (by decide) (t := (.object kc1)) (t' := (.object kc2)) (by decide) (by decide))))
 have f27 : Fld Z h20 a0 kc0 "upside" "Ljava/math/BigDecimal;" (.ref jj0) := (zz5.other W20 (Or.inr (slot_ne (Or.inl (wd_16 hw)) (Or.inl (wd_51 hw)) (by decide) (t := (.object kc1)) (t' := (.object kc2)) (by decide) (by decide))))
 have f28 : Fld Z h20 a0 kc0 "exposure" "Ljava/math/BigDecimal;" (.ref jj0) := (zz6.other W20 (Or.inr (slot_ne (Or.inl (wd_18 hw)) (Or.inl (wd_51 hw)) (by decide) (t := (.object kc1)) (t' := (.object kc2)) (by decide) (by decide))))
 have f29 : Fld Z h20 a0 kc0 "pool" "Lcom/example/ringfence/ringfence/gate/Pool;" .null := (zz7.other W20 (Or.inr (slot_ne (Or.inr (wd_20 hw)) (Or.inl (wd_51 hw)) (by decide) (t := (.object kc5)) (t' := (.object kc2)) (by decide) (by decide))))
 exact w_done X20 hlk (v := none) e20 (fun _ => rfl) (fun fs hr => X20.returnOut hx hret (d7_5 hby) hr) (by decide) (by decide) (⟨rfl, N23, K22, f24, f21, f25, f26, f27, f28, f29⟩)
theorem ef_m8_12 (m : MethodId) (a0 : Addr)  : entryFrame m #[(.ref a0)] 1 = mkF m 0 #[.val (.ref a0)] [] := by first | (simp [entryFrame, mkF, argsToLocals, Value.category]; done) | rfl
def Q_m8_12 (Z : State) (a0 : Addr) (jj0 : Addr) (jj1 : Addr) (h0 : Heap) (n0 : Nat) (v : Option Value) (h : Heap) (L : List Loc) : Prop := v = none ∧ Fr n0 L ∧ Keep h0 h [a0] ∧ Exa Z h a0 kc0 ∧ Fld Z h a0 kc0 "unrated" "Ljava/lang/String;" .null ∧ Fld Z h a0 kc0 "open" "Ljava/math/BigDecimal;" (.ref jj1) ∧ Fld Z h a0 kc0 "downside" "Ljava/math/BigDecimal;" (.ref jj1) ∧ Fld Z h a0 kc0 "upside" "Ljava/math/BigDecimal;" (.ref jj1) ∧ Fld Z h a0 kc0 "exposure" "Ljava/math/BigDecimal;" (.ref jj1) ∧ Fld Z h a0 kc0 "pool" "Lcom/example/ringfence/ringfence/gate/Pool;" .null
theorem rm_m8_12 (l : Launch) (Z : State) (aZ : Array Value) (hw : ∀ d ∈ tables_1, d.before aZ Z = true) (ws : List Jvm.Cond) (a0 : Addr) (jj0 : Addr) (jj1 : Addr) (h0 : Heap) (n0 : Nat) (Z0 : n0 ≤ h0.size) (E_a0 : Exa Z h0 a0 kc0) (zz2 : Fld Z h0 a0 kc0 "unrated" "Ljava/lang/String;" (.ref jj0)) (zz3 : n0 ≤ a0) (zz4 : Sta Z Z.heap kc1 "ZERO" "Ljava/math/BigDecimal;" (.ref jj1)) (O0 : Old Z n0 h0) (zz5 : Fld Z h0 a0 kc0 "open" "Ljava/math/BigDecimal;" (.ref jj1)) (zz6 : Fld Z h0 a0 kc0 "downside" "Ljava/math/BigDecimal;" (.ref jj1)) (zz7 : Fld Z h0 a0 kc0 "upside" "Ljava/math/BigDecimal;" (.ref jj1)) (zz8 : Fld Z h0 a0 kc0 "exposure" "Ljava/math/BigDecimal;" (.ref jj1)) (zz9 : Fld Z h0 a0 kc0 "pool" "Lcom/example/ringfence/ringfence/gate/Pool;" .null) :
    MetN l Z yn_8 prog_36_method_7_code 1 none ws ({ frames := 0, cells := 0, slots := 0, locals := 0 } : Room) #[(.ref a0)] h0 (Q_m8_12 Z a0 jj0 jj1 h0 n0) := by
 refine MetN.of (plainFor_of_name pn_0) ?_
 intro p e s m below meth c s₁ hret hx hby hml hown hnm hlk hZ X0 e0
 have N0 := Fr.nil n0
 rw [ef_m8_12 m a0]
 refine w_aloadN X0 hx (d8_0 hby) rfl rfl (pc' := 1) rfl ?_
 refine w_null X0 hx (d8_1 hby) (pc' := 2) rfl ?_
 refine w_putF X0 hx "" hZ hown (Or.inl (wd_50 hw)) Via.refl e0 zz2 E_a0 (Or.inl (wd_51 hw)) (wd_1 hw) (ty := (.object kc2)) (by decide) rfl rfl (d8_2 hby) (pc' := 5) rfl ?_
 intro T20 h20 X20 e20 W20
 have f21 : Fld Z h20 a0 kc0 "unrated" "Ljava/lang/String;" .null := zz2.same W20
 have K22 : Keep h0 h20 [a0] := (Keep.refl h0 [a0]).wr W20 (Or.inl (by simp))
 have N23 := Fr.snoc X20 N0 zz3
 refine w_aloadN X20 hx (d8_5 hby) rfl rfl (pc' := 6) rfl ?_
 have f24 : Old Z n0 h20 := (O0.wr W20 zz3)
 refine w_getS X20 hx "" hZ hown (Or.inl (wd_9 hw)) Via.refl e20 (zz4.ext f24.2) (d8_6 hby) (pc' := 9) rfl ?_
 intro T25 X25 e25
 have f26 : Exa Z h20 a0 kc0 := (E_a0.wr W20)
 have f27 : Fld Z h20 a0 kc0 "open" "Ljava/math/BigDecimal;" (.ref jj1) := (zz5.other W20 (Or.inr (slot_ne (Or.inl (wd_12 hw)) (Or.inl (wd_51 hw)) (by decide) (t := (.object kc1)) (t' := (.object kc2)) (by decide) (by decide))))
 refine w_putF X25 hx "" hZ hown (Or.inl (wd_11 hw)) Via.refl e25 f27 f26 (Or.inl (wd_12 hw)) (wd_1 hw) (ty := (.object kc1)) (by decide) rfl rfl (d8_9 hby) (pc' := 12) rfl ?_
 intro T28 h28 X28 e28 W28
 have f29 : Fld Z h28 a0 kc0 "open" "Ljava/math/BigDecimal;" (.ref jj1) := f27.same W28
 have K30 : Keep h0 h28 [a0] := K22.wr W28 (Or.inl (by simp))
 have N31 := Fr.snoc X28 N23 zz3
 refine w_aloadN X28 hx (d8_12 hby) rfl rfl (pc' := 13) rfl ?_
 have f32 : Old Z n0 h28 := (f24.wr W28 zz3)
 refine w_getS X28 hx "" hZ hown (Or.inl (wd_9 hw)) Via.refl e28 (zz4.ext f32.2) (d8_13 hby) (pc' := 16) rfl ?_
 intro T33 X33 e33
 have f34 : Exa Z h28 a0 kc0 := (f26.wr W28)
 have f35 : Fld Z h28 a0 kc0 "downside" "Ljava/math/BigDecimal;" (.ref jj1) := ((zz6.other W20 (Or.inr (slot_ne (Or.inl (wd_14 hw)) (Or.inl (wd_51 hw)) (by decide) (t := (.object kc1)) (t' := (.object kc2)) (by decide) (by decide)))).other W28 (Or.inr (slot_ne (Or.inl (wd_14 hw)) (Or.inl (wd_12 hw)) (by decide) (t := (.object kc1)) (t' := (.object kc1)) (by decide) (by decide))))
 refine w_putF X33 hx "" hZ hown (Or.inl (wd_13 hw)) Via.refl e33 f35 f34 (Or.inl (wd_14 hw)) (wd_1 hw) (ty := (.object kc1)) (by decide) rfl rfl (d8_16 hby) (pc' := 19) rfl ?_
 intro T36 h36 X36 e36 W36
 have f37 : Fld Z h36 a0 kc0 "downside" "Ljava/math/BigDecimal;" (.ref jj1) := f35.same W36
 have K38 : Keep h0 h36 [a0] := K30.wr W36 (Or.inl (by simp))
 have N39 := Fr.snoc X36 N31 zz3
 refine w_aloadN X36 hx (d8_19 hby) rfl rfl (pc' := 20) rfl ?_
 have f40 : Old Z n0 h36 := (f32.wr W36 zz3)
 refine w_getS X36 hx "" hZ hown (Or.inl (wd_9 hw)) Via.refl e36 (zz4.ext f40.2) (d8_20 hby) (pc' := 23) rfl ?_
 intro T41 X41 e41
 have f42 : Exa Z h36 a0 kc0 := (f34.wr W36)
 have f43 : Fld Z h36 a0 kc0 "upside" "Ljava/math/BigDecimal;" (.ref jj1) := (((zz7.other W20 (Or.inr (slot_ne (Or.inl (wd_16 hw)) (Or.inl (wd_51 hw)) (by decide) (t := (.object kc1)) (t' := (.object kc2)) (by decide) (by decide)))).other W28 (Or.inr (slot_ne (Or.inl (wd_16 hw)) (Or.inl (wd_12 hw)) (by decide) (t := (.object kc1)) (t' := (.object kc1)) (by decide) (by decide)))).other W36 (Or.inr (slot_ne (Or.inl (wd_16 hw)) (Or.inl (wd_14 hw)) (by decide) (t := (.object kc1)) (t' := (.object kc1)) (by decide) (by decide))))
 refine w_putF X41 hx "" hZ hown (Or.inl (wd_15 hw)) Via.refl e41 f43 f42 (Or.inl (wd_16 hw)) (wd_1 hw) (ty := (.object kc1)) (by decide) rfl rfl (d8_23 hby) (pc' := 26) rfl ?_
 intro T44 h44 X44 e44 W44
 have f45 : Fld Z h44 a0 kc0 "upside" "Ljava/math/BigDecimal;" (.ref jj1) := f43.same W44
 have K46 : Keep h0 h44 [a0] := K38.wr W44 (Or.inl (by simp))
 have N47 := Fr.snoc X44 N39 zz3
 refine w_aloadN X44 hx (d8_26 hby) rfl rfl (pc' := 27) rfl ?_
 have f48 : Old Z n0 h44 := (f40.wr W44 zz3)
 refine w_getS X44 hx "" hZ hown (Or.inl (wd_9 hw)) Via.refl e44 (zz4.ext f48.2) (d8_27 hby) (pc' := 30) rfl ?_
 intro T49 X49 e49
 have f50 : Exa Z h44 a0 kc0 := (f42.wr W44)
 have f51 : Fld Z h44 a0 kc0 "exposure" "Ljava/math/BigDecimal;" (.ref jj1) := ((((zz8.other W20 (Or.inr (slot_ne (Or.inl (wd_18 hw)) (Or.inl (wd_51 hw)) (by decide) (t := (.object kc1)) (t' := (.object kc2)) (by decide) (by decide)))).other W28 (Or.inr (slot_ne (Or.inl (wd_18 hw)) (Or.inl (wd_12 hw)) (by decide) (t := (.object kc1)) (t' := (.object kc1)) (by decide) (by decide)))).other W36 (Or.inr (slot_ne (Or.inl (wd_18 hw)) (Or.inl (wd_14 hw)) (by decide) (t := (.object kc1)) (t' := (.object kc1)) (by decide) (by decide)))).other W44 (Or.inr (slot_ne (Or.inl (wd_18 hw)) (Or.inl (wd_16 hw)) (by decide) (t := (.object kc1)) (t' := (.object kc1)) (by decide) (by decide))))
 refine w_putF X49 hx "" hZ hown (Or.inl (wd_17 hw)) Via.refl e49 f51 f50 (Or.inl (wd_18 hw)) (wd_1 hw) (ty := (.object kc1)) (by decide) rfl rfl (d8_30 hby) (pc' := 33) rfl ?_
 intro T52 h52 X52 e52 W52
 have f53 : Fld Z h52 a0 kc0 "exposure" "Ljava/math/BigDecimal;" (.ref jj1) := f51.same W52
 have K54 : Keep h0 h52 [a0] := K46.wr W52 (Or.inl (by simp))
 have N55 := Fr.snoc X52 N47 zz3
 have f56 : Exa Z h52 a0 kc0 := (f50.wr W52)
 have f57 : Fld Z h52 a0 kc0 "unrated" "Ljava/lang/String;" .null := ((((f21.other W28 (Or.inr (slot_ne (Or.inl (wd_51 hw)) (Or.inl (wd_12 hw)) (by decide) (t := (.object kc2)) (t' := (.object kc1)) (by decide) (by decide)))).other W36 (Or.inr (slot_ne (Or.inl (wd_51 hw)) (Or.inl (wd_14 hw)) (by decide) (t := (.object kc2)) (t' := (.object kc1)) (by decide) (by decide)))).other W44 (Or.inr (slot_ne (Or.inl (wd_51 hw)) (Or.inl (wd_16 hw)) (by decide) (t := (.object kc2)) (t' := (.object kc1)) (by decide) (by decide)))).other W52 (Or.inr (slot_ne (Or.inl (wd_51 hw)) (Or.inl (wd_18 hw)) (by decide) (t := (.object kc2)) (t' := (.object kc1)) (by decide) (by decide))))
 have f58 : Fld Z h52 a0 kc0 "open" "Ljava/math/BigDecimal;" (.ref jj1) := (((f29.other W36 (Or.inr (slot_ne (Or.inl (wd_12 hw)) (Or.inl (wd_14 hw)) (by decide) (t := (.object kc1)) (t' := (.object kc1)) (by decide) (by decide)))).other W44 (Or.inr (slot_ne (Or.inl (wd_12 hw)) (Or.inl (wd_16 hw)) (by decide) (t := (.object kc1)) (t' := (.object kc1)) (by decide) (by decide)))).other W52 (Or.inr (slot_ne (Or.inl (wd_12 hw)) (Or.inl (wd_18 hw)) (by decide) (t := (.object kc1)) (t' := (.object kc1)) (by decide) (by decide))))
 have f59 : Fld Z h52 a0 kc0 "downside" "Ljava/math/BigDecimal;" (.ref jj1) := ((f37.other W44 (Or.inr (slot_ne (Or.inl (wd_14 hw)) (Or.inl (wd_16 hw)) (by decide) (t := (.object kc1)) (t' := (.object kc1)) (by decide) (by decide)))).other W52 (Or.inr (slot_ne (Or.inl (wd_14 hw)) (Or.inl (wd_18 hw)) (by decide) (t := (.object kc1)) (t' := (.object kc1)) (by decide) (by decide))))
 have f60 : Fld Z h52 a0 kc0 "upside" "Ljava/math/BigDecimal;" (.ref jj1) := (f45.other W52 (Or.inr (slot_ne (Or.inl (wd_16 hw)) (Or.inl (wd_18 hw)) (by decide) (t := (.object kc1)) (t' := (.object kc1)) (by decide) (by decide))))
 have f61 : Fld Z h52 a0 kc0 "pool" "Lcom/example/ringfence/ringfence/gate/Pool;" .null := (((((zz9.other W20 (Or.inr (slot_ne (Or.inr (wd_20 hw)) (Or.inl (wd_51 hw)) (by decide) (t := (.object kc5)) (t' := (.object kc2)) (by decide) (by decide)))).other W28 (Or.inr (slot_ne (Or.inr (wd_20 hw)) (Or.inl (wd_12 hw)) (by decide) (t := (.object kc5)) (t' := (.object kc1)) (by decide) (by decide)))).other W36 (Or.inr (slot_ne (Or.inr (wd_20 hw)) (Or.inl (wd_14 hw)) (by decide) (t := (.object kc5)) (t' := (.object kc1)) (by decide) (by decide)))).other W44 (Or.inr (slot_ne (Or.inr (wd_20 hw)) (Or.inl (wd_16 hw)) (by decide) (t := (.object kc5)) (t' := (.object kc1)) (by decide) (by decide)))).other W52 (Or.inr (slot_ne (Or.inr (wd_20 hw)) (Or.inl (wd_18 hw)) (by decide) (t := (.object kc5)) (t' := (.object kc1)) (by decide) (by decide))))
 exact w_done X52 hlk (v := none) e52 (fun _ => rfl) (fun fs hr => X52.returnOut hx hret (d8_33 hby) hr) (by decide) (by decide) (⟨rfl, N55, K54, f56, f57, f58, f59, f60, f53, f61⟩)
theorem ef_m4_14 (m : MethodId) (p0 : Int32)  : entryFrame m #[(.int p0)] 1 = mkF m 0 #[.val (.int p0)] [] := by first | (simp [entryFrame, mkF, argsToLocals, Value.category]; done) | rfl
def Q_m4_14 (Z : State) (p0 : Int32) (h0 : Heap) (n0 : Nat) (v : Option Value) (h : Heap) (L : List Loc) : Prop := v = some (.int (1 : Int32)) ∧ Fr n0 L ∧ h = h0
theorem rm_m4_14 (l : Launch) (Z : State) (aZ : Array Value) (hw : ∀ d ∈ tables_1, d.before aZ Z = true) (ws : List Jvm.Cond) (p0 : Int32) (h0 : Heap) (n0 : Nat) (Z0 : n0 ≤ h0.size) (hP_0 : ¬ ((255 : Int32) < p0)) :
    MetN l Z yn_4 jdk_43_method_3_code 1 (some .boolean) ws ({ frames := 0, cells := 0, slots := 0, locals := 0 } : Room) #[(.int p0)] h0 (Q_m4_14 Z p0 h0 n0) := by
 refine MetN.of (plainFor_of_name pn_2) ?_
 intro p e s m below meth c s₁ hret hx hby hml hown hnm hlk hZ X0 e0
 have N0 := Fr.nil n0
 rw [ef_m4_14 m p0]
 refine w_iloadN X0 hx (d4_0 hby) rfl (pc' := 1) rfl ?_
 refine w_sipush X0 hx (d4_1 hby) (v := (255 : Int32)) rfl (pc' := 4) rfl ?_
 refine w_icN X0 hx (d4_4 hby) (flt hP_0).2.2.1 (pc' := 7) rfl ?_
 refine w_iconst X0 hx (d4_7 hby) (v := (1 : Int32)) rfl (pc' := 8) rfl ?_
 refine w_goto X0 hx (d4_8 hby) (pc' := 12) (by decide) (by decide) ?_
 exact w_done X0 hlk (v := some (.int (1 : Int32))) e0 (fun h => by rw [hret] at h; cases h) (fun fs hr => retN X0 hx (t := .boolean) hret (by simp) (d4_12 hby) hr) (by decide) (by decide) (⟨rfl, N0, rfl⟩)
theorem ef_m5_15 (m : MethodId) (p0 : Int32)  : entryFrame m #[(.int p0)] 1 = mkF m 0 #[.val (.int p0)] [] := by first | (simp [entryFrame, mkF, argsToLocals, Value.category]; done) | rfl
def Q_m5_15 (Z : State) (p0 : Int32) (h0 : Heap) (n0 : Nat) (v : Option Value) (h : Heap) (L : List Loc) : Prop := ∃ (r0 : Addr) (c0 : ClassId), v = some (.ref r0) ∧ Fr n0 L ∧ Keep h0 h [] ∧ h0.size ≤ r0 ∧ Arv Z h r0 c0 .byte (1 : Int32) [(.int (p0.toInt8.toInt32))] (.int (0 : Int32))
theorem rm_m5_15 (l : Launch) (Z : State) (aZ : Array Value) (hw : ∀ d ∈ tables_1, d.before aZ Z = true) (ws : List Jvm.Cond) (p0 : Int32) (h0 : Heap) (n0 : Nat) (Z0 : n0 ≤ h0.size) :
    MetN l Z yn_5 jdk_43_method_46_code 1 (some (.array .byte)) ws ({ frames := 0, cells := 1, slots := 1, locals := 0 } : Room) #[(.int p0)] h0 (Q_m5_15 Z p0 h0 n0) := by
 refine MetN.of (plainFor_of_name pn_2) ?_
 intro p e s m below meth c s₁ hret hx hby hml hown hnm hlk hZ X0 e0
 have N0 := Fr.nil n0
 rw [ef_m5_15 m p0]
 refine w_iconst X0 hx (d5_0 hby) (v := (1 : Int32)) rfl (pc' := 1) rfl ?_
 refine w_newP X0 hx .byte .byte 1 rfl hZ (wd_35 hw) e0 (d5_1 hby) (by decide) (by decide) (by decide) (by decide) (by decide) (pc' := 3) rfl ?_
 intro T20 h20 k20 b20 X20 e20 E20 g20 A20
 have ge21 : n0 ≤ b20 := Nat.le_trans Z0 (Nat.le_of_eq g20.symm)
 have sz22 : h0.size ≤ b20 := Nat.le_trans (Nat.le_refl _) (Nat.le_of_eq g20.symm)
 have K23 : Keep h0 h20 [] := (Keep.refl h0 []).ext E20
 have V24 : Arv Z h20 b20 k20 .byte (1 : Int32) [(.int (0 : Int32))] (.int (0 : Int32)) := (Arv.new A20 (by decide)).pad (pad_rep [] (.int (0 : Int32)) 1)
 refine w_dup X20 hx (d5_3 hby) rfl (pc' := 4) rfl ?_
 refine w_iconst X20 hx (d5_4 hby) (v := (0 : Int32)) rfl (pc' := 5) rfl ?_
 refine w_iloadN X20 hx (d5_5 hby) rfl (pc' := 6) rfl ?_
 refine w_i2b X20 hx (d5_6 hby) (pc' := 7) rfl ?_
 obtain ⟨clu25, Aru25, qu25, Su25, Nu25, Hu25, Gu25⟩ := id V24
 have hinu25 := inb_of (j := (0 : Int32)) Su25 ⟨by decide, by decide⟩
 refine w_stB X20 hx hZ e20 Aru25 hinu25 (d5_7 hby) (pc' := 8) rfl ?_
 intro T26 h26 X26 e26 W26
 have V27 : Arv Z h26 b20 k20 .byte (1 : Int32) [(.int (nar .byte (p0.toInt8.toInt32)))] (.int (0 : Int32)) := Arv.set Aru25 qu25 Su25 Nu25 Hu25 Gu25 (fits_nar_byte _) W26 0 rfl (Nat.le_of_ble_eq_true rfl)
 have V28 : Arv Z h26 b20 k20 .byte (1 : Int32) [(.int (p0.toInt8.toInt32))] (.int (0 : Int32)) := by rw [nar_b] at V27; exact V27
 have K29 : Keep h0 h26 [] := K23.wr W26 (Or.inr sz22)
 have N30 := Fr.snoc X26 N0 ge21
 exact w_done X26 hlk (v := some (.ref b20)) e26 (fun h => by rw [hret] at h; cases h) (fun fs hr => retOut X26 hx hret rfl (Or.inr (Or.inr (Or.inr (Or.inr ⟨rfl, rfl, rfl⟩)))) (d5_8 hby) hr) (by decide) (by decide) (⟨b20, k20, rfl, N30, K29, sz22, V28⟩)
theorem ef_m6_16 (m : MethodId) (a0 : Addr) (a1 : Addr)  : entryFrame m #[(.ref a0), (.ref a1), (.int (0 : Int32))] 3 = mkF m 0 #[.val (.ref a0), .val (.ref a1), .val (.int (0 : Int32))] [] := by first | (simp [entryFrame, mkF, argsToLocals, Value.category]; done) | rfl
def Q_m6_16 (Z : State) (a0 : Addr) (a1 : Addr) (h0 : Heap) (n0 : Nat) (v : Option Value) (h : Heap) (L : List Loc) : Prop := v = none ∧ Fr n0 L ∧ Keep h0 h [a0] ∧ Exa Z h a0 kc2 ∧ Fld Z h a0 kc2 "value" "[B" (.ref a1) ∧ Fld Z h a0 kc2 "coder" "B" (.int (0 : Int32))
theorem rm_m6_16 (l : Launch) (Z : State) (aZ : Array Value) (hw : ∀ d ∈ tables_1, d.before aZ Z = true) (ws : List Jvm.Cond) (a0 : Addr) (a1 : Addr) (h0 : Heap) (n0 : Nat) (Z0 : n0 ≤ h0.size) (E_a0 : Exa Z h0 a0 kc2) (zz0 : Fld Z h0 a0 kc2 "value" "[B" .null) (zz1 : n0 ≤ a0) (zz2 : Fld Z h0 a0 kc2 "coder" "B" (.int (0 : Int32))) :
    MetN l Z yn_6 jdk_42_method_151_code 3 none ws ({ frames := 1, cells := 0, slots := 0, locals := 12 } : Room) #[(.ref a0), (.ref a1), (.int (0 : Int32))] h0 (Q_m6_16 Z a0 a1 h0 n0) := by
 refine MetN.of (plainFor_of_name pn_3) ?_
 intro p e s m below meth c s₁ hret hx hby hml hown hnm hlk hZ X0 e0
 have N0 := Fr.nil n0
 rw [ef_m6_16 m a0 a1]
 refine w_aloadN X0 hx (d6_0 hby) rfl rfl (pc' := 1) rfl ?_
 refine w_initO X0 hx 0 hZ hown (wd_40 hw) (wd_7 hw) (wd_8 hw) e0 (by rw [hml]; rfl) (d6_1 hby) (by decide) (Nat.le_of_eq rfl) (by decide) (pc' := 4) rfl ?_
 intro T20 X20 e20
 refine w_aloadN X20 hx (d6_4 hby) rfl rfl (pc' := 5) rfl ?_
 refine w_aloadN X20 hx (d6_5 hby) rfl rfl (pc' := 6) rfl ?_
 refine w_putF X20 hx "" hZ hown (Or.inl (wd_41 hw)) Via.refl e20 zz0 E_a0 (Or.inr ⟨(wd_42 hw), rfl, hnm⟩) (wd_31 hw) (ty := (.array .byte)) (by decide) rfl rfl (d6_6 hby) (pc' := 9) rfl ?_
 intro T21 h21 X21 e21 W21
 have f22 : Fld Z h21 a0 kc2 "value" "[B" (.ref a1) := zz0.same W21
 have K23 : Keep h0 h21 [a0] := (Keep.refl h0 [a0]).wr W21 (Or.inl (by simp))
 have N24 := Fr.snoc X21 N0 zz1
 refine w_aloadN X21 hx (d6_9 hby) rfl rfl (pc' := 10) rfl ?_
 refine w_iloadN X21 hx (d6_10 hby) rfl (pc' := 11) rfl ?_
 have f25 : Exa Z h21 a0 kc2 := (E_a0.wr W21)
 have f26 : Fld Z h21 a0 kc2 "coder" "B" (.int (0 : Int32)) := (zz2.other W21 (Or.inr (slot_ne (Or.inr (wd_44 hw)) (Or.inr (wd_42 hw)) (by decide) (t := .byte) (t' := (.array .byte)) (by decide) (by decide))))
 refine w_putF X21 hx "" hZ hown (Or.inl (wd_43 hw)) Via.refl e21 f26 f25 (Or.inr ⟨(wd_44 hw), rfl, hnm⟩) (wd_31 hw) (ty := .byte) (by decide) rfl rfl (d6_11 hby) (pc' := 14) rfl ?_
 intro T27 h27 X27 e27 W27
 have f28 : Fld Z h27 a0 kc2 "coder" "B" (.int (0 : Int32)) := f26.same W27
 have K29 : Keep h0 h27 [a0] := K23.wr W27 (Or.inl (by simp))
 have N30 := Fr.snoc X27 N24 zz1
 have f31 : Exa Z h27 a0 kc2 := (f25.wr W27)
 have f32 : Fld Z h27 a0 kc2 "value" "[B" (.ref a1) := (f22.other W27 (Or.inr (slot_ne (Or.inr (wd_42 hw)) (Or.inr (wd_44 hw)) (by decide) (t := (.array .byte)) (t' := .byte) (by decide) (by decide))))
 exact w_done X27 hlk (v := none) e27 (fun _ => rfl) (fun fs hr => X27.returnOut hx hret (d6_14 hby) hr) (by decide) (by decide) (⟨rfl, N30, K29, f31, f32, f28⟩)
theorem ef_m3_13 (m : MethodId) (p0 : Int32)  : entryFrame m #[(.int p0)] 1 = mkF m 0 #[.val (.int p0)] [] := by first | (simp [entryFrame, mkF, argsToLocals, Value.category]; done) | rfl
def Q_m3_13 (Z : State) (p0 : Int32) (jj0 : Int32) (h0 : Heap) (n0 : Nat) (v : Option Value) (h : Heap) (L : List Loc) : Prop := ∃ (r0 : Addr) (r1 : Addr) (c0 : ClassId), v = some (.ref r0) ∧ Fr n0 L ∧ Keep h0 h [] ∧ h0.size ≤ r0 ∧ h0.size ≤ r1 ∧ Exa Z h r0 kc2 ∧ Fld Z h r0 kc2 "value" "[B" (.ref r1) ∧ Fld Z h r0 kc2 "coder" "B" (.int (0 : Int32)) ∧ Arv Z h r1 c0 .byte (1 : Int32) [(.int (p0.toInt8.toInt32))] (.int (0 : Int32))
theorem rm_m3_13 (l : Launch) (Z : State) (aZ : Array Value) (hw : ∀ d ∈ tables_1, d.before aZ Z = true) (ws : List Jvm.Cond) (p0 : Int32) (jj0 : Int32) (h0 : Heap) (n0 : Nat) (Z0 : n0 ≤ h0.size) (zz1 : Sta Z Z.heap kc2 "COMPACT_STRINGS" "Z" (.int jj0)) (O0 : Old Z n0 h0) (hP_2 : ¬ (jj0 = (0 : Int32))) (hP_3 : ¬ ((255 : Int32) < p0)) :
    MetN l Z yn_3 jdk_42_method_139_code 1 (some (.object kc2)) ws ({ frames := 2, cells := 2, slots := 5, locals := 27 } : Room) #[(.int p0)] h0 (Q_m3_13 Z p0 jj0 h0 n0) := by
 refine MetN.of (plainFor_of_name pn_3) ?_
 intro p e s m below meth c s₁ hret hx hby hml hown hnm hlk hZ X0 e0
 have N0 := Fr.nil n0
 rw [ef_m3_13 m p0]
 refine w_getS X0 hx "" hZ hown (Or.inl (wd_25 hw)) Via.refl e0 (zz1.ext O0.2) (d3_0 hby) (pc' := 3) rfl ?_
 intro T20 X20 e20
 refine w_ifN X20 hx (d3_3 hby) (feq hP_2).1 (pc' := 6) rfl ?_
 refine w_iloadN X20 hx (d3_6 hby) rfl (pc' := 7) rfl ?_
 refine w_static X20 hx (y := yn_4) hown (mvT hZ (wd_26 hw)) (mvT hZ (wd_27 hw)) (mvT hZ (wd_28 hw)) (mvT hZ (wd_29 hw)) (by decide) (backOf (W := 0) (rm_m4_14 l Z aZ hw [] p0 h0 n0 Z0 hP_3) hZ (wd_29 hw) (wd_28 hw) (by decide) (by decide)) (by rw [hml]; rfl) [(.int p0)] (lenOf pd_6 rfl) rfl (Nat.le_of_eq rfl) (d3_7 hby) (fun _ _ => ⟨rfl, e20, (by decide : 0 + 0 ≤ _), (by decide : 0 + 0 ≤ _)⟩) (pc' := 10) rfl ?_
 rintro _ _ ⟨T21, L21, k21, n21⟩ X21 ⟨Lc21, hQ21, l21, y21, z21⟩
 dsimp only [Pt.U, Pt.locs, Pt.cells, Pt.slots] at X21 l21 y21 z21 hQ21 ⊢
 subst l21 y21 z21
 obtain ⟨rfl, N21q, e21⟩ := hQ21
 have N22 := Fr.app N0 N21q
 show Runs _ _ _ _ (T21.setTop (mkF m 10 #[.val (.int p0)] [(.int (1 : Int32))]))
 refine w_ifN X21 hx (d3_10 hby) (feq (by decide : ¬ ((1 : Int32) = (0 : Int32)))).1 (pc' := 13) rfl ?_
 refine w_new X21 hx hZ hown (wd_30 hw) (wd_31 hw) (wd_23 hw) e21 (d3_13 hby) (by decide) (by decide) (pc' := 16) rfl ?_
 intro T23 h23 b23 X23 e23 E23 g23 A23 D23
 have ge24 : n0 ≤ b23 := Nat.le_trans Z0 (Nat.le_of_eq g23.symm)
 have sz25 : h0.size ≤ b23 := Nat.le_trans (Nat.le_refl _) (Nat.le_of_eq g23.symm)
 have K26 : Keep h0 h23 [] := (Keep.refl h0 []).ext E23
 have f27 : Fld Z h23 b23 kc2 "value" "[B" .null := D23 (Or.inr (wd_42 hw)) (ty := (.array .byte)) (by decide)
 have f28 : Fld Z h23 b23 kc2 "coder" "B" (.int (0 : Int32)) := D23 (Or.inr (wd_44 hw)) (ty := .byte) (by decide)
 refine w_dup X23 hx (d3_16 hby) rfl (pc' := 17) rfl ?_
 refine w_iloadN X23 hx (d3_17 hby) rfl (pc' := 18) rfl ?_
 refine w_static X23 hx (y := yn_5) hown (mvT hZ (wd_32 hw)) (mvT hZ (wd_33 hw)) (mvT hZ (wd_28 hw)) (mvT hZ (wd_34 hw)) (by decide) (backOf (W := 2) (rm_m5_15 l Z aZ hw [] p0 h23 n0 (Nat.le_trans Z0 E23.1) ) hZ (wd_34 hw) (wd_28 hw) (by decide) (by decide)) (by rw [hml]; rfl) [(.int p0)] (lenOf pd_7 rfl) rfl (Nat.le_of_eq rfl) (d3_18 hby) (fun _ _ => ⟨rfl, e23, (by decide : 1 + 1 ≤ _), (by decide : 4 + 1 ≤ _)⟩) (pc' := 21) rfl ?_
 rintro _ _ ⟨T29, L29, k29, n29⟩ X29 ⟨Lc29, hQ29, l29, y29, z29⟩
 dsimp only [Pt.U, Pt.locs, Pt.cells, Pt.slots] at X29 l29 y29 z29 hQ29 ⊢
 subst l29 y29 z29
 obtain ⟨r0_29, c0_29, rfl, N29q, K29, g29_0, g29_1⟩ := hQ29
 have N30 := Fr.app N22 N29q
 have K31 : Keep h0 T29.heap [] := K26.trans K29 (all0 (P := fun x => x ∈ [] ∨ h0.size ≤ x))
 have ge32 : n0 ≤ r0_29 := Nat.le_trans (Nat.le_trans Z0 E23.1) g29_0
 have sz33 : h0.size ≤ r0_29 := Nat.le_trans E23.1 g29_0
 show Runs _ _ _ _ (T29.setTop (mkF m 21 #[.val (.int p0)] [(.ref r0_29), (.ref b23), (.ref b23)]))
 refine w_iconst X29 hx (d3_21 hby) (v := (0 : Int32)) rfl (pc' := 22) rfl ?_
 have f34 : Exa Z T29.heap b23 kc2 := (A23.keep K29)
 have f35 : Fld Z T29.heap b23 kc2 "value" "[B" .null := (f27.keep K29 nin0)
 have f36 : Fld Z T29.heap b23 kc2 "coder" "B" (.int (0 : Int32)) := (f28.keep K29 nin0)
 have le37 : h0.size ≤ T29.heap.size := (Nat.le_trans E23.1 K29.1)
 refine w_special X29 hx (y := yn_6) rfl hown (mvT hZ (wd_36 hw)) (mvT hZ (wd_37 hw)) (mvT hZ (wd_39 hw)) (by decide) (backOf (W := 1) (rm_m6_16 l Z aZ hw [] b23 r0_29 T29.heap n0 (Nat.le_trans Z0 le37) f34 f35 ge24 f36) hZ (wd_39 hw) (wd_23 hw) (by decide) (by decide)) (by rw [hml]; rfl) [(.ref r0_29), (.int (0 : Int32))] (lenOf pd_8 rfl) rfl (Nat.le_of_eq rfl) (d3_22 hby) (fun _ _ => ⟨rfl, rfl, (by decide : 2 + 0 ≤ _), (by decide : 5 + 0 ≤ _)⟩) (pc' := 25) rfl ?_
 rintro _ _ ⟨T38, L38, k38, n38⟩ X38 ⟨Lc38, hQ38, l38, y38, z38⟩
 dsimp only [Pt.U, Pt.locs, Pt.cells, Pt.slots] at X38 l38 y38 z38 hQ38 ⊢
 subst l38 y38 z38
 obtain ⟨rfl, N38q, K38, g38_0, g38_1, g38_2⟩ := hQ38
 have N39 := Fr.app N30 N38q
 have K40 : Keep h0 T38.heap [] := K31.trans K38 (allS (Or.inr sz25) (all0 (P := fun x => x ∈ [] ∨ h0.size ≤ x)))
 show Runs _ _ _ _ (T38.setTop (mkF m 25 #[.val (.int p0)] [(.ref b23)]))
 have ne41 : b23 ≠ r0_29 := (Nat.ne_of_lt (Nat.lt_of_lt_of_le A23.lt (Nat.le_trans (Nat.le_refl _) g29_0)))
 have f42 : Arv Z T38.heap r0_29 c0_29 .byte (1 : Int32) [(.int (p0.toInt8.toInt32))] (.int (0 : Int32)) := (g29_1.keep K38 (ninS (Ne.symm ne41) nin0))
 exact w_done X38 hlk (v := some (.ref b23)) rfl (fun h => by rw [hret] at h; cases h) (fun fs hr => retOut X38 hx hret rfl (Or.inr (Or.inr (Or.inr (Or.inr ⟨rfl, rfl, rfl⟩)))) (d3_25 hby) hr) (by decide) (by decide) (⟨b23, r0_29, c0_29, rfl, N39, K40, sz25, sz33, g38_0, g38_1, g38_2, f42⟩)
theorem ef_law (m : MethodId) (p0 : Int32) (p1 : Int32) (p2 : Int32) (p3 : Int32)  : entryFrame m #[(.int p0), (.int p1), (.int p2), (.int p3)] maxLocals = mkF m 0 #[.val (.int p0), .val (.int p1), .val (.int p2), .val (.int p3), .unset, .unset, .unset, .unset, .unset, .unset, .unset, .unset] [] := by first | (simp [entryFrame, mkF, argsToLocals, Value.category, maxLocals]; done) | rfl
def Q_law (Z : State) (p0 : Int32) (p1 : Int32) (p2 : Int32) (p3 : Int32) (k_G__SwitchMap_com_example_ringfence_ringfence_gate_Measure : ClassId) (G_DOWNSIDE : Addr) (G_UPSIDE : Addr) (G_EXPOSURE : Addr) (G__SwitchMap_com_example_ringfence_ringfence_gate_Measure : Addr) (G_ZERO : Addr) (G_COMPACT_STRINGS : Int32) (h0 : Heap) (n0 : Nat) (v : Option Value) (h : Heap) (L : List Loc) (S : Addr → Prop) : Prop := v = some (.int (1 : Int32)) ∧ Fr n0 L
theorem rm_law (l : Launch) (Z : State) (aZ : Array Value) (hw : ∀ d ∈ tables_1, d.before aZ Z = true) (ws : List Jvm.Cond) (p0 : Int32) (p1 : Int32) (p2 : Int32) (p3 : Int32) (k_G__SwitchMap_com_example_ringfence_ringfence_gate_Measure : ClassId) (G_DOWNSIDE : Addr) (G_UPSIDE : Addr) (G_EXPOSURE : Addr) (G__SwitchMap_com_example_ringfence_ringfence_gate_Measure : Addr) (G_ZERO : Addr) (G_COMPACT_STRINGS : Int32) (h0 : Heap) (n0 : Nat) (Z0 : n0 ≤ h0.size) (S_DOWNSIDE : Sta Z Z.heap kc4 "DOWNSIDE" "Lcom/example/ringfence/ringfence/gate/Measure;" (.ref G_DOWNSIDE)) (S_UPSIDE : Sta Z Z.heap kc4 "UPSIDE" "Lcom/example/ringfence/ringfence/gate/Measure;" (.ref G_UPSIDE)) (S_EXPOSURE : Sta Z Z.heap kc4 "EXPOSURE" "Lcom/example/ringfence/ringfence/gate/Measure;" (.ref G_EXPOSURE)) (S__SwitchMap_com_example_ringfence_ringfence_gate_Measure : Sta Z Z.heap "com/example/ringfence/ringfence/gate/Measures$1" "$SwitchMap$com$example$ringfence$ringfence$gate$Measure" "[I" (.ref G__SwitchMap_com_example_ringfence_ringfence_gate_Measure)) (E_G_DOWNSIDE : Exa Z h0 G_DOWNSIDE kc4) (F_ordinal_G_DOWNSIDE : Fld Z h0 G_DOWNSIDE kc3 "ordinal" "I" (.int (1 : Int32))) (E_G_UPSIDE : Exa Z h0 G_UPSIDE kc4) (F_ordinal_G_UPSIDE : Fld Z h0 G_UPSIDE kc3 "ordinal" "I" (.int (2 : Int32))) (E_G_EXPOSURE : Exa Z h0 G_EXPOSURE kc4) (F_ordinal_G_EXPOSURE : Fld Z h0 G_EXPOSURE kc3 "ordinal" "I" (.int (3 : Int32))) (V_G__SwitchMap_com_example_ringfence_ringfence_gate_Measure : Arv Z h0 G__SwitchMap_com_example_ringfence_ringfence_gate_Measure k_G__SwitchMap_com_example_ringfence_ringfence_gate_Measure .int (5 : Int32) [(.int (1 : Int32)), (.int (2 : Int32)), (.int (3 : Int32)), (.int (4 : Int32)), (.int (5 : Int32))] (.int (0 : Int32))) (S_ZERO : Sta Z Z.heap kc1 "ZERO" "Ljava/math/BigDecimal;" (.ref G_ZERO)) (O0 : Old Z n0 h0) (hP_13 : ¬ (G_COMPACT_STRINGS = (0 : Int32))) (S_COMPACT_STRINGS : Sta Z Z.heap kc2 "COMPACT_STRINGS" "Z" (.int G_COMPACT_STRINGS)) :
    MetH l Z EL x code maxLocals ret ws room_1 #[(.int p0), (.int p1), (.int p2), (.int p3)] h0 (Q_law Z p0 p1 p2 p3 k_G__SwitchMap_com_example_ringfence_ringfence_gate_Measure G_DOWNSIDE G_UPSIDE G_EXPOSURE G__SwitchMap_com_example_ringfence_ringfence_gate_Measure G_ZERO G_COMPACT_STRINGS h0 n0) [] := by
 refine MetH.of (plainFor_of_name pn_4) ?_
 intro p e s m below meth c s₁ hret hx hby hml hown hnm hlk hZ X0 e0 hh hH hsf hS0 C0
 have N0 := Fr.nil n0
 rw [ef_law m p0 p1 p2 p3]
 refine w_new X0 hx hZ hown (wd_0 hw) (wd_1 hw) (wd_2 hw) e0 (hb hby at_0) (by decide) (by decide) (pc' := 3) rfl ?_
 intro T20 h20 b20 X20 e20 E20 g20 A20 D20
 have ge21 : n0 ≤ b20 := Nat.le_trans Z0 (Nat.le_of_eq g20.symm)
 have sz22 : h0.size ≤ b20 := Nat.le_trans (Nat.le_refl _) (Nat.le_of_eq g20.symm)
 have C23 : CHr Z EL s.vm h0 s.vm h20 := C0.trans (CHr.ext E20 C0.1)
 have K24 : Keep h0 h20 [] := (Keep.refl h0 []).ext E20
 have f25 : Fld Z h20 b20 kc0 "open" "Ljava/math/BigDecimal;" .null := D20 (Or.inl (wd_12 hw)) (ty := (.object kc1)) (by decide)
 have f26 : Fld Z h20 b20 kc0 "downside" "Ljava/math/BigDecimal;" .null := D20 (Or.inl (wd_14 hw)) (ty := (.object kc1)) (by decide)
 have f27 : Fld Z h20 b20 kc0 "upside" "Ljava/math/BigDecimal;" .null := D20 (Or.inl (wd_16 hw)) (ty := (.object kc1)) (by decide)
 have f28 : Fld Z h20 b20 kc0 "exposure" "Ljava/math/BigDecimal;" .null := D20 (Or.inl (wd_18 hw)) (ty := (.object kc1)) (by decide)
 have f29 : Fld Z h20 b20 kc0 "pool" "Lcom/example/ringfence/ringfence/gate/Pool;" .null := D20 (Or.inr (wd_20 hw)) (ty := (.object kc5)) (by decide)
 have f30 : Fld Z h20 b20 kc0 "unrated" "Ljava/lang/String;" .null := D20 (Or.inl (wd_51 hw)) (ty := (.object kc2)) (by decide)
 refine w_dup X20 hx (hb hby at_3) rfl (pc' := 4) rfl ?_
 refine w_null X20 hx (hb hby at_4) (pc' := 5) rfl ?_
 have f31 : Old Z n0 h20 := (O0.ext E20)
 refine w_special X20 hx (y := yn_1) rfl hown (mvT hZ (wd_3 hw)) (mvT hZ (wd_4 hw)) (mvT hZ (wd_5 hw)) (by decide) (backOf (W := 1) (rm_m1_1 l Z aZ hw [] b20 G_ZERO h20 n0 (Nat.le_trans Z0 E20.1) S_ZERO f31 A20 f25 ge21 f26 f27 f28 f29 f30) hZ (wd_5 hw) (wd_2 hw) (by decide) (by decide)) (by rw [hml]; rfl) [.null] (lenOf pd_0 rfl) rfl (Nat.le_of_eq rfl) (hb hby at_5) (fun _ _ => ⟨rfl, e20, (by decide : 1 + 0 ≤ _), (by decide : 6 + 0 ≤ _)⟩) (pc' := 8) rfl ?_
 rintro _ _ ⟨T32, L32, k32, n32⟩ X32 ⟨Lc32, hQ32, l32, y32, z32⟩
 dsimp only [Pt.U, Pt.locs, Pt.cells, Pt.slots] at X32 l32 y32 z32 hQ32 ⊢
 subst l32 y32 z32
 obtain ⟨rfl, N32q, K32, g32_0, g32_1, g32_2, g32_3, g32_4, g32_5, g32_6⟩ := hQ32
 have N33 := Fr.app N0 N32q
 have C34 : CHr Z EL s.vm h0 s.vm T32.heap := C23.trans (CHr.keep K32 (sfS (Safe.exa hZ.alike A20 (by decide) (by decide)) sf0) C23.1)
 have K35 : Keep h0 T32.heap [] := K24.trans K32 (allS (Or.inr sz22) (all0 (P := fun x => x ∈ [] ∨ h0.size ≤ x)))
 show Runs _ _ _ _ (T32.setTop (mkF m 8 #[.val (.int p0), .val (.int p1), .val (.int p2), .val (.int p3), .unset, .unset, .unset, .unset, .unset, .unset, .unset, .unset] [(.ref b20)]))
 refine w_astore X32 hx (hb hby at_8) rfl (L' := #[.val (.int p0), .val (.int p1), .val (.int p2), .val (.int p3), .val (.ref b20), .unset, .unset, .unset, .unset, .unset, .unset, .unset]) rfl (pc' := 10) rfl ?_
 refine w_new X32 hx hZ hown (wd_0 hw) (wd_1 hw) (wd_2 hw) rfl (hb hby at_10) (by decide) (by decide) (pc' := 13) rfl ?_
 intro T36 h36 b36 X36 e36 E36 g36 A36 D36
 have le38 : h0.size ≤ T32.heap.size := (Nat.le_trans E20.1 K32.1)
 have ge37 : n0 ≤ b36 := Nat.le_trans (Nat.le_trans Z0 le38) (Nat.le_of_eq g36.symm)
 have sz39 : h0.size ≤ b36 := Nat.le_trans le38 (Nat.le_of_eq g36.symm)
 have C40 : CHr Z EL s.vm h0 s.vm h36 := C34.trans (CHr.ext E36 C34.1)
 have K41 : Keep h0 h36 [] := K35.ext E36
 have f42 : Fld Z h36 b36 kc0 "open" "Ljava/math/BigDecimal;" .null := D36 (Or.inl (wd_12 hw)) (ty := (.object kc1)) (by decide)
 have f43 : Fld Z h36 b36 kc0 "downside" "Ljava/math/BigDecimal;" .null := D36 (Or.inl (wd_14 hw)) (ty := (.object kc1)) (by decide)
 have f44 : Fld Z h36 b36 kc0 "upside" "Ljava/math/BigDecimal;" .null := D36 (Or.inl (wd_16 hw)) (ty := (.object kc1)) (by decide)
 have f45 : Fld Z h36 b36 kc0 "exposure" "Ljava/math/BigDecimal;" .null := D36 (Or.inl (wd_18 hw)) (ty := (.object kc1)) (by decide)
 have f46 : Fld Z h36 b36 kc0 "pool" "Lcom/example/ringfence/ringfence/gate/Pool;" .null := D36 (Or.inr (wd_20 hw)) (ty := (.object kc5)) (by decide)
 have f47 : Fld Z h36 b36 kc0 "unrated" "Ljava/lang/String;" .null := D36 (Or.inl (wd_51 hw)) (ty := (.object kc2)) (by decide)
 refine w_dup X36 hx (hb hby at_13) rfl (pc' := 14) rfl ?_
 refine w_null X36 hx (hb hby at_14) (pc' := 15) rfl ?_
 have f48 : Old Z n0 h36 := ((f31.keep K32 (allS ge21 all0)).ext E36)
 have le49 : h0.size ≤ h36.size := (Nat.le_trans le38 E36.1)
 refine w_special X36 hx (y := yn_1) rfl hown (mvT hZ (wd_3 hw)) (mvT hZ (wd_4 hw)) (mvT hZ (wd_5 hw)) (by decide) (backOf (W := 1) (rm_m1_1 l Z aZ hw [] b36 G_ZERO h36 n0 (Nat.le_trans Z0 le49) S_ZERO f48 A36 f42 ge37 f43 f44 f45 f46 f47) hZ (wd_5 hw) (wd_2 hw) (by decide) (by decide)) (by rw [hml]; rfl) [.null] (lenOf pd_0 rfl) rfl (Nat.le_of_eq rfl) (hb hby at_15) (fun _ _ => ⟨rfl, e36, (by decide : 2 + 0 ≤ _), (by decide : 12 + 0 ≤ _)⟩) (pc' := 18) rfl ?_
 rintro _ _ ⟨T50, L50, k50, n50⟩ X50 ⟨Lc50, hQ50, l50, y50, z50⟩
 dsimp only [Pt.U, Pt.locs, Pt.cells, Pt.slots] at X50 l50 y50 z50 hQ50 ⊢
 subst l50 y50 z50
 obtain ⟨rfl, N50q, K50, g50_0, g50_1, g50_2, g50_3, g50_4, g50_5, g50_6⟩ := hQ50
 have N51 := Fr.app N33 N50q
 have C52 : CHr Z EL s.vm h0 s.vm T50.heap := C40.trans (CHr.keep K50 (sfS (Safe.exa hZ.alike A36 (by decide) (by decide)) sf0) C40.1)
 have K53 : Keep h0 T50.heap [] := K41.trans K50 (allS (Or.inr sz39) (all0 (P := fun x => x ∈ [] ∨ h0.size ≤ x)))
 show Runs _ _ _ _ (T50.setTop (mkF m 18 #[.val (.int p0), .val (.int p1), .val (.int p2), .val (.int p3), .val (.ref b20), .unset, .unset, .unset, .unset, .unset, .unset, .unset] [(.ref b36)]))
 refine w_astore X50 hx (hb hby at_18) rfl (L' := #[.val (.int p0), .val (.int p1), .val (.int p2), .val (.int p3), .val (.ref b20), .val (.ref b36), .unset, .unset, .unset, .unset, .unset, .unset]) rfl (pc' := 20) rfl ?_
 refine w_iloadN X50 hx (hb hby at_20) rfl (pc' := 21) rfl ?_
 refine w_sipush X50 hx (hb hby at_21) (v := (255 : Int32)) rfl (pc' := 24) rfl ?_
 refine w_iand X50 hx (hb hby at_24) (pc' := 25) rfl ?_
 refine w_i2c X50 hx (hb hby at_25) (pc' := 26) rfl ?_
 refine w_istore X50 hx (hb hby at_26) (L' := #[.val (.int p0), .val (.int p1), .val (.int p2), .val (.int p3), .val (.ref b20), .val (.ref b36), .val (.int ((p0 &&& (255 : Int32)).toUInt32.toUInt16.toUInt32.toInt32)), .unset, .unset, .unset, .unset, .unset]) rfl (pc' := 28) rfl ?_
 refine w_iloadN X50 hx (hb hby at_28) rfl (pc' := 29) rfl ?_
 refine w_sipush X50 hx (hb hby at_29) (v := (255 : Int32)) rfl (pc' := 32) rfl ?_
 refine w_iand X50 hx (hb hby at_32) (pc' := 33) rfl ?_
 refine w_i2c X50 hx (hb hby at_33) (pc' := 34) rfl ?_
 refine w_istore X50 hx (hb hby at_34) (L' := #[.val (.int p0), .val (.int p1), .val (.int p2), .val (.int p3), .val (.ref b20), .val (.ref b36), .val (.int ((p0 &&& (255 : Int32)).toUInt32.toUInt16.toUInt32.toInt32)), .val (.int ((p1 &&& (255 : Int32)).toUInt32.toUInt16.toUInt32.toInt32)), .unset, .unset, .unset, .unset]) rfl (pc' := 36) rfl ?_
 refine w_iloadN X50 hx (hb hby at_36) rfl (pc' := 37) rfl ?_
 refine w_sipush X50 hx (hb hby at_37) (v := (255 : Int32)) rfl (pc' := 40) rfl ?_
 refine w_iand X50 hx (hb hby at_40) (pc' := 41) rfl ?_
 refine w_i2c X50 hx (hb hby at_41) (pc' := 42) rfl ?_
 refine w_istore X50 hx (hb hby at_42) (L' := #[.val (.int p0), .val (.int p1), .val (.int p2), .val (.int p3), .val (.ref b20), .val (.ref b36), .val (.int ((p0 &&& (255 : Int32)).toUInt32.toUInt16.toUInt32.toInt32)), .val (.int ((p1 &&& (255 : Int32)).toUInt32.toUInt16.toUInt32.toInt32)), .val (.int ((p2 &&& (255 : Int32)).toUInt32.toUInt16.toUInt32.toInt32)), .unset, .unset, .unset]) rfl (pc' := 44) rfl ?_
 refine w_iloadN X50 hx (hb hby at_44) rfl (pc' := 45) rfl ?_
 refine w_iconst X50 hx (hb hby at_45) (v := (3 : Int32)) rfl (pc' := 46) rfl ?_
 refine w_iand X50 hx (hb hby at_46) (pc' := 47) rfl ?_
 refine w_istore X50 hx (hb hby at_47) (L' := #[.val (.int p0), .val (.int p1), .val (.int p2), .val (.int p3), .val (.ref b20), .val (.ref b36), .val (.int ((p0 &&& (255 : Int32)).toUInt32.toUInt16.toUInt32.toInt32)), .val (.int ((p1 &&& (255 : Int32)).toUInt32.toUInt16.toUInt32.toInt32)), .val (.int ((p2 &&& (255 : Int32)).toUInt32.toUInt16.toUInt32.toInt32)), .val (.int (p3 &&& (3 : Int32))), .unset, .unset]) rfl (pc' := 49) rfl ?_
 refine w_iload X50 hx (hb hby at_49) rfl (pc' := 51) rfl ?_
 by_cases hc54 : (p3 &&& (3 : Int32)) = (0 : Int32)
 · refine w_ifN X50 hx (hb hby at_51) (teq hc54).2 (pc' := 54) rfl ?_
   have le56 : h0.size ≤ T50.heap.size := (Nat.le_trans le49 K50.1)
   obtain ⟨a55, T55, h55, k55, X55, e55, E55, hS55, hk55, hZ55, hown55, A55, -, st55⟩ := ldcOH X50 hx hZ hown (wd_104 hw) (own_wS hw) rfl hS0 (Nat.le_trans (Nat.le_refl _) le56) (own_EW hw) C52.1 (g := (mkF m 54 #[.val (.int p0), .val (.int p1), .val (.int p2), .val (.int p3), .val (.ref b20), .val (.ref b36), .val (.int ((p0 &&& (255 : Int32)).toUInt32.toUInt16.toUInt32.toInt32)), .val (.int ((p1 &&& (255 : Int32)).toUInt32.toUInt16.toUInt32.toInt32)), .val (.int ((p2 &&& (255 : Int32)).toUInt32.toUInt16.toUInt32.toInt32)), .val (.int (p3 &&& (3 : Int32))), .unset, .unset] [])) rfl (hb hby at_54) (n := 0) (by decide +kernel) (by decide) (by decide) (by decide)
   refine Runs.by ?_ st55
   have C57 : CHr Z EL s.vm h0 T55.vm h55 := C52.trans A55
   have K58 : Keep h0 h55 [] := K53.ext E55
   show Runs _ _ _ _ (T55.setTop (mkF m 56 #[.val (.int p0), .val (.int p1), .val (.int p2), .val (.int p3), .val (.ref b20), .val (.ref b36), .val (.int ((p0 &&& (255 : Int32)).toUInt32.toUInt16.toUInt32.toInt32)), .val (.int ((p1 &&& (255 : Int32)).toUInt32.toUInt16.toUInt32.toInt32)), .val (.int ((p2 &&& (255 : Int32)).toUInt32.toUInt16.toUInt32.toInt32)), .val (.int (p3 &&& (3 : Int32))), .unset, .unset] [(.ref a55)]))
   refine w_astore X55 hx (hb hby at_56) rfl (L' := #[.val (.int p0), .val (.int p1), .val (.int p2), .val (.int p3), .val (.ref b20), .val (.ref b36), .val (.int ((p0 &&& (255 : Int32)).toUInt32.toUInt16.toUInt32.toInt32)), .val (.int ((p1 &&& (255 : Int32)).toUInt32.toUInt16.toUInt32.toInt32)), .val (.int ((p2 &&& (255 : Int32)).toUInt32.toUInt16.toUInt32.toInt32)), .val (.int (p3 &&& (3 : Int32))), .val (.ref a55), .unset]) rfl (pc' := 58) rfl ?_
   refine w_goto X55 hx (hb hby at_58) (pc' := 135) (by decide) (by decide) ?_
   refine w_iloadN X55 hx (hb hby at_135) rfl (pc' := 136) rfl ?_
   refine w_iconst X55 hx (hb hby at_136) (v := (2 : Int32)) rfl (pc' := 137) rfl ?_
   refine w_ishr X55 hx (hb hby at_137) (pc' := 138) rfl ?_
   refine w_iconst X55 hx (hb hby at_138) (v := (1 : Int32)) rfl (pc' := 139) rfl ?_
   refine w_iand X55 hx (hb hby at_139) (pc' := 140) rfl ?_
   by_cases hc59 : ((p3 >>> ((2 : Int32) &&& 31)) &&& (1 : Int32)) = (0 : Int32)
   · refine w_ifY X55 hx (hb hby at_140) (teq hc59).1 (pc' := 148) (by decide) (by decide) ?_
     refine w_null X55 hx (hb hby at_148) (pc' := 149) rfl ?_
     refine w_astore X55 hx (hb hby at_149) rfl (L' := #[.val (.int p0), .val (.int p1), .val (.int p2), .val (.int p3), .val (.ref b20), .val (.ref b36), .val (.int ((p0 &&& (255 : Int32)).toUInt32.toUInt16.toUInt32.toInt32)), .val (.int ((p1 &&& (255 : Int32)).toUInt32.toUInt16.toUInt32.toInt32)), .val (.int ((p2 &&& (255 : Int32)).toUInt32.toUInt16.toUInt32.toInt32)), .val (.int (p3 &&& (3 : Int32))), .val (.ref a55), .val .null]) rfl (pc' := 151) rfl ?_
     refine w_aload X55 hx (hb hby at_151) rfl rfl (pc' := 153) rfl ?_
     refine w_aload X55 hx (hb hby at_153) rfl rfl (pc' := 155) rfl ?_
     have f60 : Exa Z h55 b36 kc0 := (g50_0.ext E55)
     have f61 : Fld Z h55 b36 kc0 "unrated" "Ljava/lang/String;" .null := (g50_6.ext E55)
     have f62 : Fld Z h55 b36 kc0 "open" "Ljava/math/BigDecimal;" (.ref G_ZERO) := (g50_1.ext E55)
     have f63 : Fld Z h55 b36 kc0 "downside" "Ljava/math/BigDecimal;" (.ref G_ZERO) := (g50_2.ext E55)
     have f64 : Fld Z h55 b36 kc0 "upside" "Ljava/math/BigDecimal;" (.ref G_ZERO) := (g50_3.ext E55)
     have f65 : Fld Z h55 b36 kc0 "exposure" "Ljava/math/BigDecimal;" (.ref G_ZERO) := (g50_4.ext E55)
     have f66 : Fld Z h55 b36 kc0 "pool" "Lcom/example/ringfence/ringfence/gate/Pool;" .null := (g50_5.ext E55)
     have le67 : h0.size ≤ h55.size := (Nat.le_trans le56 E55.1)
     obtain ⟨cq68, kq68, q68a, q68b, q68c⟩ := isOf hZ55 e55 f60
     refine w_virtual X55 hx (y := yn_7) (z := yn_7) hown55 (mvT hZ55 (wd_45 hw)) (mvT hZ55 (wd_46 hw)) (notFace_of_selects (args := #[]) (mvT hZ55 (wd_48 hw))) (mvT hZ55 (wd_48 hw)) (mvT hZ55 (wd_47 hw)) (by decide) (backOf (W := 0) (rm_m7_2 l Z aZ hw [] b36 G_ZERO h55 n0 (Nat.le_trans Z0 le67) f60 f61 ge37 f62 f63 f64 f65 f66) hZ55 (wd_49 hw) (wd_2 hw) (by decide) (by decide)) q68a q68c (by rw [hml]; rfl) [.null] (lenOf pd_1 rfl) rfl (Nat.le_of_eq rfl) (hb hby at_155) (fun _ _ => ⟨rfl, e55, (by decide : 4 + 0 ≤ _), (by decide : 16 + 0 ≤ _)⟩) (pc' := 158) rfl ?_
     rintro _ _ ⟨T68, L68, k68, n68⟩ X68 ⟨Lc68, hQ68, l68, y68, z68⟩
     dsimp only [Pt.U, Pt.locs, Pt.cells, Pt.slots] at X68 l68 y68 z68 hQ68 ⊢
     subst l68 y68 z68
     obtain ⟨rfl, N68q, K68, g68_0, g68_1, g68_2, g68_3, g68_4, g68_5, g68_6⟩ := hQ68
     have N69 := Fr.app N51 N68q
     have C70 : CHr Z EL s.vm h0 T55.vm T68.heap := C57.trans (CHr.keep K68 (sfS (Safe.exa hZ55.alike f60 (by decide) (by decide)) sf0) C57.1)
     have K71 : Keep h0 T68.heap [] := K58.trans K68 (allS (Or.inr sz39) (all0 (P := fun x => x ∈ [] ∨ h0.size ≤ x)))
     show Runs _ _ _ _ (T68.setTop (mkF m 158 #[.val (.int p0), .val (.int p1), .val (.int p2), .val (.int p3), .val (.ref b20), .val (.ref b36), .val (.int ((p0 &&& (255 : Int32)).toUInt32.toUInt16.toUInt32.toInt32)), .val (.int ((p1 &&& (255 : Int32)).toUInt32.toUInt16.toUInt32.toInt32)), .val (.int ((p2 &&& (255 : Int32)).toUInt32.toUInt16.toUInt32.toInt32)), .val (.int (p3 &&& (3 : Int32))), .val (.ref a55), .val .null] []))
     refine w_iloadN X68 hx (hb hby at_158) rfl (pc' := 159) rfl ?_
     refine w_bipush X68 hx (hb hby at_159) (v := (8 : Int32)) rfl (pc' := 161) rfl ?_
     refine w_iand X68 hx (hb hby at_161) (pc' := 162) rfl ?_
     by_cases hc72 : (p3 &&& (8 : Int32)) = (0 : Int32)
     · refine w_ifY X68 hx (hb hby at_162) (teq hc72).1 (pc' := 170) (by decide) (by decide) ?_
       refine w_aload X68 hx (hb hby at_170) rfl rfl (pc' := 172) rfl ?_
       have f73 : Old Z n0 T68.heap := (((f48.keep K50 (allS ge37 all0)).ext E55).keep K68 (allS ge37 all0))
       have le74 : h0.size ≤ T68.heap.size := (Nat.le_trans le67 K68.1)
       obtain ⟨cq75, kq75, q75a, q75b, q75c⟩ := isOf hZ55 rfl g68_0
       refine w_virtual X68 hx (y := yn_8) (z := yn_8) hown55 (mvT hZ55 (wd_52 hw)) (mvT hZ55 (wd_53 hw)) (notFace_of_selects (args := #[]) (mvT hZ55 (wd_55 hw))) (mvT hZ55 (wd_55 hw)) (mvT hZ55 (wd_54 hw)) (by decide) (backOf (W := 0) (rm_m8_3 l Z aZ hw [] b36 G_ZERO T68.heap n0 (Nat.le_trans Z0 le74) g68_0 g68_1 ge37 S_ZERO f73 g68_2 g68_3 g68_4 g68_5 g68_6) hZ55 (wd_56 hw) (wd_2 hw) (by decide) (by decide)) q75a q75c (by rw [hml]; rfl) [] (lenOf pd_2 rfl) rfl (Nat.le_of_eq rfl) (hb hby at_172) (fun _ _ => ⟨rfl, rfl, (by decide : 4 + 0 ≤ _), (by decide : 16 + 0 ≤ _)⟩) (pc' := 175) rfl ?_
       rintro _ _ ⟨T75, L75, k75, n75⟩ X75 ⟨Lc75, hQ75, l75, y75, z75⟩
       dsimp only [Pt.U, Pt.locs, Pt.cells, Pt.slots] at X75 l75 y75 z75 hQ75 ⊢
       subst l75 y75 z75
       obtain ⟨rfl, N75q, K75, g75_0, g75_1, g75_2, g75_3, g75_4, g75_5, g75_6⟩ := hQ75
       have N76 := Fr.app N69 N75q
       have C77 : CHr Z EL s.vm h0 T55.vm T75.heap := C70.trans (CHr.keep K75 (sfS (Safe.exa hZ55.alike g68_0 (by decide) (by decide)) sf0) C70.1)
       have K78 : Keep h0 T75.heap [] := K71.trans K75 (allS (Or.inr sz39) (all0 (P := fun x => x ∈ [] ∨ h0.size ≤ x)))
       show Runs _ _ _ _ (T75.setTop (mkF m 175 #[.val (.int p0), .val (.int p1), .val (.int p2), .val (.int p3), .val (.ref b20), .val (.ref b36), .val (.int ((p0 &&& (255 : Int32)).toUInt32.toUInt16.toUInt32.toInt32)), .val (.int ((p1 &&& (255 : Int32)).toUInt32.toUInt16.toUInt32.toInt32)), .val (.int ((p2 &&& (255 : Int32)).toUInt32.toUInt16.toUInt32.toInt32)), .val (.int (p3 &&& (3 : Int32))), .val (.ref a55), .val .null] []))
       refine w_aload X75 hx (hb hby at_175) rfl rfl (pc' := 177) rfl ?_
       have le79 : h0.size ≤ T75.heap.size := (Nat.le_trans le74 K75.1)
       obtain ⟨cq80, kq80, q80a, q80b, q80c⟩ := isOf hZ55 rfl g75_0
       refine w_virtual X75 hx (y := yn_9) (z := yn_9) hown55 (mvT hZ55 (wd_57 hw)) (mvT hZ55 (wd_58 hw)) (notFace_of_selects (args := #[]) (mvT hZ55 (wd_60 hw))) (mvT hZ55 (wd_60 hw)) (mvT hZ55 (wd_59 hw)) (by decide) (backOf (W := 0) (rm_m9_4 l Z aZ hw [] b36 T75.heap n0 (Nat.le_trans Z0 le79) g75_1) hZ55 (wd_61 hw) (wd_2 hw) (by decide) (by decide)) q80a q80c (by rw [hml]; rfl) [] (lenOf pd_3 rfl) rfl (Nat.le_of_eq rfl) (hb hby at_177) (fun _ _ => ⟨rfl, rfl, (by decide : 4 + 0 ≤ _), (by decide : 16 + 0 ≤ _)⟩) (pc' := 180) rfl ?_
       rintro _ _ ⟨T80, L80, k80, n80⟩ X80 ⟨Lc80, hQ80, l80, y80, z80⟩
       dsimp only [Pt.U, Pt.locs, Pt.cells, Pt.slots] at X80 l80 y80 z80 hQ80 ⊢
       subst l80 y80 z80
       obtain ⟨rfl, N80q, e80⟩ := hQ80
       have N81 := Fr.app N76 N80q
       show Runs _ _ _ _ (T80.setTop (mkF m 180 #[.val (.int p0), .val (.int p1), .val (.int p2), .val (.int p3), .val (.ref b20), .val (.ref b36), .val (.int ((p0 &&& (255 : Int32)).toUInt32.toUInt16.toUInt32.toInt32)), .val (.int ((p1 &&& (255 : Int32)).toUInt32.toUInt16.toUInt32.toInt32)), .val (.int ((p2 &&& (255 : Int32)).toUInt32.toUInt16.toUInt32.toInt32)), .val (.int (p3 &&& (3 : Int32))), .val (.ref a55), .val .null] [.null]))
       refine w_ifnonnullN X80 hx (hb hby at_180) (pc' := 183) rfl ?_
       refine w_aload X80 hx (hb hby at_183) rfl rfl (pc' := 185) rfl ?_
       have f82 : Old Z n0 T75.heap := (f73.keep K75 (allS ge37 all0))
       refine w_getS X80 hx "" hZ55 hown55 (Or.inl (wd_62 hw)) Via.refl e80 (S_DOWNSIDE.ext f82.2) (hb hby at_185) (pc' := 188) rfl ?_
       intro T83 X83 e83
       have f84 : Exa Z T75.heap G_DOWNSIDE kc4 := (((((((E_G_DOWNSIDE.ext E20).keep K32).ext E36).keep K50).ext E55).keep K68).keep K75)
       have ne85 : G_DOWNSIDE ≠ b20 := (Nat.ne_of_lt (Nat.lt_of_lt_of_le E_G_DOWNSIDE.lt (Nat.le_trans (Nat.le_refl _) (Nat.le_of_eq g20.symm))))
       have ne86 : G_DOWNSIDE ≠ b36 := (Nat.ne_of_lt (Nat.lt_of_lt_of_le E_G_DOWNSIDE.lt (Nat.le_trans le38 (Nat.le_of_eq g36.symm))))
       have f87 : Fld Z T75.heap G_DOWNSIDE kc3 "ordinal" "I" (.int (1 : Int32)) := (((((((F_ordinal_G_DOWNSIDE.ext E20).keep K32 (ninS ne85 nin0)).ext E36).keep K50 (ninS ne86 nin0)).ext E55).keep K68 (ninS ne86 nin0)).keep K75 (ninS ne86 nin0))
       have ne88 : G__SwitchMap_com_example_ringfence_ringfence_gate_Measure ≠ b20 := (Nat.ne_of_lt (Nat.lt_of_lt_of_le V_G__SwitchMap_com_example_ringfence_ringfence_gate_Measure.lt (Nat.le_trans (Nat.le_refl _) (Nat.le_of_eq g20.symm))))
       have ne89 : G__SwitchMap_com_example_ringfence_ringfence_gate_Measure ≠ b36 := (Nat.ne_of_lt (Nat.lt_of_lt_of_le V_G__SwitchMap_com_example_ringfence_ringfence_gate_Measure.lt (Nat.le_trans le38 (Nat.le_of_eq g36.symm))))
       have f90 : Arv Z T75.heap G__SwitchMap_com_example_ringfence_ringfence_gate_Measure k_G__SwitchMap_com_example_ringfence_ringfence_gate_Measure .int (5 : Int32) [(.int (1 : Int32)), (.int (2 : Int32)), (.int (3 : Int32)), (.int (4 : Int32)), (.int (5 : Int32))] (.int (0 : Int32)) := (((((((V_G__SwitchMap_com_example_ringfence_ringfence_gate_Measure.ext E20).keep K32 (ninS ne88 nin0)).ext E36).keep K50 (ninS ne89 nin0)).ext E55).keep K68 (ninS ne89 nin0)).keep K75 (ninS ne89 nin0))
       obtain ⟨cq91, kq91, q91a, q91b, q91c⟩ := isOf hZ55 e83 g75_0
       refine w_virtual X83 hx (y := yn_10) (z := yn_10) hown55 (mvT hZ55 (wd_65 hw)) (mvT hZ55 (wd_66 hw)) (notFace_of_selects (args := #[]) (mvT hZ55 (wd_68 hw))) (mvT hZ55 (wd_68 hw)) (mvT hZ55 (wd_67 hw)) (by decide) (backOf (W := 0) (rm_m10_5 l Z aZ hw [] b36 G_DOWNSIDE G__SwitchMap_com_example_ringfence_ringfence_gate_Measure k_G__SwitchMap_com_example_ringfence_ringfence_gate_Measure G_ZERO T75.heap n0 (Nat.le_trans Z0 le79) g75_1 S__SwitchMap_com_example_ringfence_ringfence_gate_Measure f82 f84 f87 f90 g75_3) hZ55 (wd_69 hw) (wd_2 hw) (by decide) (by decide)) q91a q91c (by rw [hml]; rfl) [(.ref G_DOWNSIDE)] (lenOf pd_5 rfl) rfl (Nat.le_of_eq rfl) (hb hby at_188) (fun _ _ => ⟨rfl, e83, (by decide : 4 + 0 ≤ _), (by decide : 16 + 0 ≤ _)⟩) (pc' := 191) rfl ?_
       rintro _ _ ⟨T91, L91, k91, n91⟩ X91 ⟨Lc91, hQ91, l91, y91, z91⟩
       dsimp only [Pt.U, Pt.locs, Pt.cells, Pt.slots] at X91 l91 y91 z91 hQ91 ⊢
       subst l91 y91 z91
       obtain ⟨rfl, N91q, e91⟩ := hQ91
       have N92 := Fr.app N81 N91q
       show Runs _ _ _ _ (T91.setTop (mkF m 191 #[.val (.int p0), .val (.int p1), .val (.int p2), .val (.int p3), .val (.ref b20), .val (.ref b36), .val (.int ((p0 &&& (255 : Int32)).toUInt32.toUInt16.toUInt32.toInt32)), .val (.int ((p1 &&& (255 : Int32)).toUInt32.toUInt16.toUInt32.toInt32)), .val (.int ((p2 &&& (255 : Int32)).toUInt32.toUInt16.toUInt32.toInt32)), .val (.int (p3 &&& (3 : Int32))), .val (.ref a55), .val .null] [(.ref G_ZERO)]))
       refine w_aload X91 hx (hb hby at_191) rfl rfl (pc' := 193) rfl ?_
       refine w_getS X91 hx "" hZ55 hown55 (Or.inl (wd_82 hw)) Via.refl e91 (S_UPSIDE.ext f82.2) (hb hby at_193) (pc' := 196) rfl ?_
       intro T93 X93 e93
       have f95 : Exa Z T75.heap G_UPSIDE kc4 := (((((((E_G_UPSIDE.ext E20).keep K32).ext E36).keep K50).ext E55).keep K68).keep K75)
       have ne96 : G_UPSIDE ≠ b20 := (Nat.ne_of_lt (Nat.lt_of_lt_of_le E_G_UPSIDE.lt (Nat.le_trans (Nat.le_refl _) (Nat.le_of_eq g20.symm))))
       have ne97 : G_UPSIDE ≠ b36 := (Nat.ne_of_lt (Nat.lt_of_lt_of_le E_G_UPSIDE.lt (Nat.le_trans le38 (Nat.le_of_eq g36.symm))))
       have f98 : Fld Z T75.heap G_UPSIDE kc3 "ordinal" "I" (.int (2 : Int32)) := (((((((F_ordinal_G_UPSIDE.ext E20).keep K32 (ninS ne96 nin0)).ext E36).keep K50 (ninS ne97 nin0)).ext E55).keep K68 (ninS ne97 nin0)).keep K75 (ninS ne97 nin0))
       obtain ⟨cq99, kq99, q99a, q99b, q99c⟩ := isOf hZ55 e93 g75_0
       refine w_virtual X93 hx (y := yn_10) (z := yn_10) hown55 (mvT hZ55 (wd_65 hw)) (mvT hZ55 (wd_66 hw)) (notFace_of_selects (args := #[]) (mvT hZ55 (wd_68 hw))) (mvT hZ55 (wd_68 hw)) (mvT hZ55 (wd_67 hw)) (by decide) (backOf (W := 1) (rm_m10_7 l Z aZ hw [] b36 G_UPSIDE G__SwitchMap_com_example_ringfence_ringfence_gate_Measure k_G__SwitchMap_com_example_ringfence_ringfence_gate_Measure G_ZERO T75.heap n0 (Nat.le_trans Z0 le79) g75_1 S__SwitchMap_com_example_ringfence_ringfence_gate_Measure f82 f95 f98 f90 g75_4) hZ55 (wd_69 hw) (wd_2 hw) (by decide) (by decide)) q99a q99c (by rw [hml]; rfl) [(.ref G_UPSIDE)] (lenOf pd_5 rfl) rfl (Nat.le_of_eq rfl) (hb hby at_196) (fun _ _ => ⟨rfl, e93, (by decide : 4 + 0 ≤ _), (by decide : 16 + 0 ≤ _)⟩) (pc' := 199) rfl ?_
       rintro _ _ ⟨T99, L99, k99, n99⟩ X99 ⟨Lc99, hQ99, l99, y99, z99⟩
       dsimp only [Pt.U, Pt.locs, Pt.cells, Pt.slots] at X99 l99 y99 z99 hQ99 ⊢
       subst l99 y99 z99
       obtain ⟨rfl, N99q, e99⟩ := hQ99
       have N100 := Fr.app N92 N99q
       show Runs _ _ _ _ (T99.setTop (mkF m 199 #[.val (.int p0), .val (.int p1), .val (.int p2), .val (.int p3), .val (.ref b20), .val (.ref b36), .val (.int ((p0 &&& (255 : Int32)).toUInt32.toUInt16.toUInt32.toInt32)), .val (.int ((p1 &&& (255 : Int32)).toUInt32.toUInt16.toUInt32.toInt32)), .val (.int ((p2 &&& (255 : Int32)).toUInt32.toUInt16.toUInt32.toInt32)), .val (.int (p3 &&& (3 : Int32))), .val (.ref a55), .val .null] [(.ref G_ZERO), (.ref G_ZERO)]))
       refine w_acmp X99 hx (hb hby at_199) (same := true) rfl rfl (decide_eq_true rfl) (pc' := 202) (by decide) (by decide) ?_
       refine w_aload X99 hx (hb hby at_202) rfl rfl (pc' := 204) rfl ?_
       refine w_getS X99 hx "" hZ55 hown55 (Or.inl (wd_82 hw)) Via.refl e99 (S_UPSIDE.ext f82.2) (hb hby at_204) (pc' := 207) rfl ?_
       intro T101 X101 e101
       obtain ⟨cq102, kq102, q102a, q102b, q102c⟩ := isOf hZ55 e101 g75_0
       refine w_virtual X101 hx (y := yn_10) (z := yn_10) hown55 (mvT hZ55 (wd_65 hw)) (mvT hZ55 (wd_66 hw)) (notFace_of_selects (args := #[]) (mvT hZ55 (wd_68 hw))) (mvT hZ55 (wd_68 hw)) (mvT hZ55 (wd_67 hw)) (by decide) (backOf (W := 0) (rm_m10_7 l Z aZ hw [] b36 G_UPSIDE G__SwitchMap_com_example_ringfence_ringfence_gate_Measure k_G__SwitchMap_com_example_ringfence_ringfence_gate_Measure G_ZERO T75.heap n0 (Nat.le_trans Z0 le79) g75_1 S__SwitchMap_com_example_ringfence_ringfence_gate_Measure f82 f95 f98 f90 g75_4) hZ55 (wd_69 hw) (wd_2 hw) (by decide) (by decide)) q102a q102c (by rw [hml]; rfl) [(.ref G_UPSIDE)] (lenOf pd_5 rfl) rfl (Nat.le_of_eq rfl) (hb hby at_207) (fun _ _ => ⟨rfl, e101, (by decide : 4 + 0 ≤ _), (by decide : 16 + 0 ≤ _)⟩) (pc' := 210) rfl ?_
       rintro _ _ ⟨T102, L102, k102, n102⟩ X102 ⟨Lc102, hQ102, l102, y102, z102⟩
       dsimp only [Pt.U, Pt.locs, Pt.cells, Pt.slots] at X102 l102 y102 z102 hQ102 ⊢
       subst l102 y102 z102
       obtain ⟨rfl, N102q, e102⟩ := hQ102
       have N103 := Fr.app N100 N102q
       show Runs _ _ _ _ (T102.setTop (mkF m 210 #[.val (.int p0), .val (.int p1), .val (.int p2), .val (.int p3), .val (.ref b20), .val (.ref b36), .val (.int ((p0 &&& (255 : Int32)).toUInt32.toUInt16.toUInt32.toInt32)), .val (.int ((p1 &&& (255 : Int32)).toUInt32.toUInt16.toUInt32.toInt32)), .val (.int ((p2 &&& (255 : Int32)).toUInt32.toUInt16.toUInt32.toInt32)), .val (.int (p3 &&& (3 : Int32))), .val (.ref a55), .val .null] [(.ref G_ZERO)]))
       refine w_aload X102 hx (hb hby at_210) rfl rfl (pc' := 212) rfl ?_
       refine w_getS X102 hx "" hZ55 hown55 (Or.inl (wd_84 hw)) Via.refl e102 (S_EXPOSURE.ext f82.2) (hb hby at_212) (pc' := 215) rfl ?_
       intro T104 X104 e104
       have f107 : Exa Z T75.heap G_EXPOSURE kc4 := (((((((E_G_EXPOSURE.ext E20).keep K32).ext E36).keep K50).ext E55).keep K68).keep K75)
       have ne108 : G_EXPOSURE ≠ b20 := (Nat.ne_of_lt (Nat.lt_of_lt_of_le E_G_EXPOSURE.lt (Nat.le_trans (Nat.le_refl _) (Nat.le_of_eq g20.symm))))
       have ne109 : G_EXPOSURE ≠ b36 := (Nat.ne_of_lt (Nat.lt_of_lt_of_le E_G_EXPOSURE.lt (Nat.le_trans le38 (Nat.le_of_eq g36.symm))))
       have f110 : Fld Z T75.heap G_EXPOSURE kc3 "ordinal" "I" (.int (3 : Int32)) := (((((((F_ordinal_G_EXPOSURE.ext E20).keep K32 (ninS ne108 nin0)).ext E36).keep K50 (ninS ne109 nin0)).ext E55).keep K68 (ninS ne109 nin0)).keep K75 (ninS ne109 nin0))
       obtain ⟨cq111, kq111, q111a, q111b, q111c⟩ := isOf hZ55 e104 g75_0
       refine w_virtual X104 hx (y := yn_10) (z := yn_10) hown55 (mvT hZ55 (wd_65 hw)) (mvT hZ55 (wd_66 hw)) (notFace_of_selects (args := #[]) (mvT hZ55 (wd_68 hw))) (mvT hZ55 (wd_68 hw)) (mvT hZ55 (wd_67 hw)) (by decide) (backOf (W := 1) (rm_m10_9 l Z aZ hw [] b36 G_EXPOSURE G__SwitchMap_com_example_ringfence_ringfence_gate_Measure k_G__SwitchMap_com_example_ringfence_ringfence_gate_Measure G_ZERO T75.heap n0 (Nat.le_trans Z0 le79) g75_1 S__SwitchMap_com_example_ringfence_ringfence_gate_Measure f82 f107 f110 f90 g75_5) hZ55 (wd_69 hw) (wd_2 hw) (by decide) (by decide)) q111a q111c (by rw [hml]; rfl) [(.ref G_EXPOSURE)] (lenOf pd_5 rfl) rfl (Nat.le_of_eq rfl) (hb hby at_215) (fun _ _ => ⟨rfl, e104, (by decide : 4 + 0 ≤ _), (by decide : 16 + 0 ≤ _)⟩) (pc' := 218) rfl ?_
       rintro _ _ ⟨T111, L111, k111, n111⟩ X111 ⟨Lc111, hQ111, l111, y111, z111⟩
       dsimp only [Pt.U, Pt.locs, Pt.cells, Pt.slots] at X111 l111 y111 z111 hQ111 ⊢
       subst l111 y111 z111
       obtain ⟨rfl, N111q, e111⟩ := hQ111
       have N112 := Fr.app N103 N111q
       show Runs _ _ _ _ (T111.setTop (mkF m 218 #[.val (.int p0), .val (.int p1), .val (.int p2), .val (.int p3), .val (.ref b20), .val (.ref b36), .val (.int ((p0 &&& (255 : Int32)).toUInt32.toUInt16.toUInt32.toInt32)), .val (.int ((p1 &&& (255 : Int32)).toUInt32.toUInt16.toUInt32.toInt32)), .val (.int ((p2 &&& (255 : Int32)).toUInt32.toUInt16.toUInt32.toInt32)), .val (.int (p3 &&& (3 : Int32))), .val (.ref a55), .val .null] [(.ref G_ZERO), (.ref G_ZERO)]))
       refine w_acmp X111 hx (hb hby at_218) (same := true) rfl rfl (decide_eq_true rfl) (pc' := 221) (by decide) (by decide) ?_
       refine w_aload X111 hx (hb hby at_221) rfl rfl (pc' := 223) rfl ?_
       refine w_getS X111 hx "" hZ55 hown55 (Or.inl (wd_84 hw)) Via.refl e111 (S_EXPOSURE.ext f82.2) (hb hby at_223) (pc' := 226) rfl ?_
       intro T113 X113 e113
       obtain ⟨cq114, kq114, q114a, q114b, q114c⟩ := isOf hZ55 e113 g75_0
       refine w_virtual X113 hx (y := yn_10) (z := yn_10) hown55 (mvT hZ55 (wd_65 hw)) (mvT hZ55 (wd_66 hw)) (notFace_of_selects (args := #[]) (mvT hZ55 (wd_68 hw))) (mvT hZ55 (wd_68 hw)) (mvT hZ55 (wd_67 hw)) (by decide) (backOf (W := 0) (rm_m10_9 l Z aZ hw [] b36 G_EXPOSURE G__SwitchMap_com_example_ringfence_ringfence_gate_Measure k_G__SwitchMap_com_example_ringfence_ringfence_gate_Measure G_ZERO T75.heap n0 (Nat.le_trans Z0 le79) g75_1 S__SwitchMap_com_example_ringfence_ringfence_gate_Measure f82 f107 f110 f90 g75_5) hZ55 (wd_69 hw) (wd_2 hw) (by decide) (by decide)) q114a q114c (by rw [hml]; rfl) [(.ref G_EXPOSURE)] (lenOf pd_5 rfl) rfl (Nat.le_of_eq rfl) (hb hby at_226) (fun _ _ => ⟨rfl, e113, (by decide : 4 + 0 ≤ _), (by decide : 16 + 0 ≤ _)⟩) (pc' := 229) rfl ?_
       rintro _ _ ⟨T114, L114, k114, n114⟩ X114 ⟨Lc114, hQ114, l114, y114, z114⟩
       dsimp only [Pt.U, Pt.locs, Pt.cells, Pt.slots] at X114 l114 y114 z114 hQ114 ⊢
       subst l114 y114 z114
       obtain ⟨rfl, N114q, e114⟩ := hQ114
       have N115 := Fr.app N112 N114q
       show Runs _ _ _ _ (T114.setTop (mkF m 229 #[.val (.int p0), .val (.int p1), .val (.int p2), .val (.int p3), .val (.ref b20), .val (.ref b36), .val (.int ((p0 &&& (255 : Int32)).toUInt32.toUInt16.toUInt32.toInt32)), .val (.int ((p1 &&& (255 : Int32)).toUInt32.toUInt16.toUInt32.toInt32)), .val (.int ((p2 &&& (255 : Int32)).toUInt32.toUInt16.toUInt32.toInt32)), .val (.int (p3 &&& (3 : Int32))), .val (.ref a55), .val .null] [(.ref G_ZERO)]))
       refine w_aload X114 hx (hb hby at_229) rfl rfl (pc' := 231) rfl ?_
       refine w_getS X114 hx "" hZ55 hown55 (Or.inl (wd_84 hw)) Via.refl e114 (S_EXPOSURE.ext f82.2) (hb hby at_231) (pc' := 234) rfl ?_
       intro T116 X116 e116
       have ne121 : b20 ≠ b36 := (Nat.ne_of_lt (Nat.lt_of_lt_of_le A20.lt (Nat.le_trans K32.1 (Nat.le_of_eq g36.symm))))
       have f122 : Fld Z T75.heap b20 kc0 "unrated" "Ljava/lang/String;" .null := (((((g32_6.ext E36).keep K50 (ninS ne121 nin0)).ext E55).keep K68 (ninS ne121 nin0)).keep K75 (ninS ne121 nin0))
       have f123 : Fld Z T75.heap b20 kc0 "exposure" "Ljava/math/BigDecimal;" (.ref G_ZERO) := (((((g32_4.ext E36).keep K50 (ninS ne121 nin0)).ext E55).keep K68 (ninS ne121 nin0)).keep K75 (ninS ne121 nin0))
       have f125 : Exa Z T75.heap b20 kc0 := (((((g32_0.ext E36).keep K50).ext E55).keep K68).keep K75)
       obtain ⟨cq124, kq124, q124a, q124b, q124c⟩ := isOf hZ55 e116 f125
       refine w_virtual X116 hx (y := yn_10) (z := yn_10) hown55 (mvT hZ55 (wd_65 hw)) (mvT hZ55 (wd_66 hw)) (notFace_of_selects (args := #[]) (mvT hZ55 (wd_68 hw))) (mvT hZ55 (wd_68 hw)) (mvT hZ55 (wd_67 hw)) (by decide) (backOf (W := 1) (rm_m10_9 l Z aZ hw [] b20 G_EXPOSURE G__SwitchMap_com_example_ringfence_ringfence_gate_Measure k_G__SwitchMap_com_example_ringfence_ringfence_gate_Measure G_ZERO T75.heap n0 (Nat.le_trans Z0 le79) f122 S__SwitchMap_com_example_ringfence_ringfence_gate_Measure f82 f107 f110 f90 f123) hZ55 (wd_69 hw) (wd_2 hw) (by decide) (by decide)) q124a q124c (by rw [hml]; rfl) [(.ref G_EXPOSURE)] (lenOf pd_5 rfl) rfl (Nat.le_of_eq rfl) (hb hby at_234) (fun _ _ => ⟨rfl, e116, (by decide : 4 + 0 ≤ _), (by decide : 16 + 0 ≤ _)⟩) (pc' := 237) rfl ?_
       rintro _ _ ⟨T124, L124, k124, n124⟩ X124 ⟨Lc124, hQ124, l124, y124, z124⟩
       dsimp only [Pt.U, Pt.locs, Pt.cells, Pt.slots] at X124 l124 y124 z124 hQ124 ⊢
       subst l124 y124 z124
       obtain ⟨rfl, N124q, e124⟩ := hQ124
       have N126 := Fr.app N115 N124q
       show Runs _ _ _ _ (T124.setTop (mkF m 237 #[.val (.int p0), .val (.int p1), .val (.int p2), .val (.int p3), .val (.ref b20), .val (.ref b36), .val (.int ((p0 &&& (255 : Int32)).toUInt32.toUInt16.toUInt32.toInt32)), .val (.int ((p1 &&& (255 : Int32)).toUInt32.toUInt16.toUInt32.toInt32)), .val (.int ((p2 &&& (255 : Int32)).toUInt32.toUInt16.toUInt32.toInt32)), .val (.int (p3 &&& (3 : Int32))), .val (.ref a55), .val .null] [(.ref G_ZERO), (.ref G_ZERO)]))
       refine w_acmp X124 hx (hb hby at_237) (same := true) rfl rfl (decide_eq_true rfl) (pc' := 240) (by decide) (by decide) ?_
       refine w_iconst X124 hx (hb hby at_240) (v := (1 : Int32)) rfl (pc' := 241) rfl ?_
       refine w_goto X124 hx (hb hby at_241) (pc' := 245) (by decide) (by decide) ?_
       have le127 : h55.size ≤ T75.heap.size := (Nat.le_trans K68.1 K75.1)
       exact w_doneH X124 hlk (v := some (.int (1 : Int32))) e124 hh hZ55 (own_EW hw) hS55 (Nat.le_trans hk55 le127) C77 (fun h => by rw [hret] at h; cases h) (fun fs hr => retN X124 hx (t := .boolean) hret (by simp) (hb hby at_245) hr) (by decide) (by decide) (fun hsy => ⟨rfl, N126⟩)
     · refine w_ifN X68 hx (hb hby at_162) (feq hc72).1 (pc' := 165) rfl ?_
       refine w_aload X68 hx (hb hby at_165) rfl rfl (pc' := 167) rfl ?_
       have f128 : Old Z n0 T68.heap := (((f48.keep K50 (allS ge37 all0)).ext E55).keep K68 (allS ge37 all0))
       have le129 : h0.size ≤ T68.heap.size := (Nat.le_trans le67 K68.1)
       obtain ⟨cq130, kq130, q130a, q130b, q130c⟩ := isOf hZ55 rfl g68_0
       refine w_virtual X68 hx (y := yn_8) (z := yn_8) hown55 (mvT hZ55 (wd_52 hw)) (mvT hZ55 (wd_53 hw)) (notFace_of_selects (args := #[]) (mvT hZ55 (wd_55 hw))) (mvT hZ55 (wd_55 hw)) (mvT hZ55 (wd_54 hw)) (by decide) (backOf (W := 0) (rm_m8_3 l Z aZ hw [] b36 G_ZERO T68.heap n0 (Nat.le_trans Z0 le129) g68_0 g68_1 ge37 S_ZERO f128 g68_2 g68_3 g68_4 g68_5 g68_6) hZ55 (wd_56 hw) (wd_2 hw) (by decide) (by decide)) q130a q130c (by rw [hml]; rfl) [] (lenOf pd_2 rfl) rfl (Nat.le_of_eq rfl) (hb hby at_167) (fun _ _ => ⟨rfl, rfl, (by decide : 4 + 0 ≤ _), (by decide : 16 + 0 ≤ _)⟩) (pc' := 170) rfl ?_
       rintro _ _ ⟨T130, L130, k130, n130⟩ X130 ⟨Lc130, hQ130, l130, y130, z130⟩
       dsimp only [Pt.U, Pt.locs, Pt.cells, Pt.slots] at X130 l130 y130 z130 hQ130 ⊢
       subst l130 y130 z130
       obtain ⟨rfl, N130q, K130, g130_0, g130_1, g130_2, g130_3, g130_4, g130_5, g130_6⟩ := hQ130
       have N131 := Fr.app N69 N130q
       have C132 : CHr Z EL s.vm h0 T55.vm T130.heap := C70.trans (CHr.keep K130 (sfS (Safe.exa hZ55.alike g68_0 (by decide) (by decide)) sf0) C70.1)
       have K133 : Keep h0 T130.heap [] := K71.trans K130 (allS (Or.inr sz39) (all0 (P := fun x => x ∈ [] ∨ h0.size ≤ x)))
       show Runs _ _ _ _ (T130.setTop (mkF m 170 #[.val (.int p0), .val (.int p1), .val (.int p2), .val (.int p3), .val (.ref b20), .val (.ref b36), .val (.int ((p0 &&& (255 : Int32)).toUInt32.toUInt16.toUInt32.toInt32)), .val (.int ((p1 &&& (255 : Int32)).toUInt32.toUInt16.toUInt32.toInt32)), .val (.int ((p2 &&& (255 : Int32)).toUInt32.toUInt16.toUInt32.toInt32)), .val (.int (p3 &&& (3 : Int32))), .val (.ref a55), .val .null] []))
       refine w_aload X130 hx (hb hby at_170) rfl rfl (pc' := 172) rfl ?_
       have f134 : Old Z n0 T130.heap := (f128.keep K130 (allS ge37 all0))
       have le135 : h0.size ≤ T130.heap.size := (Nat.le_trans le129 K130.1)
       obtain ⟨cq136, kq136, q136a, q136b, q136c⟩ := isOf hZ55 rfl g130_0
       refine w_virtual X130 hx (y := yn_8) (z := yn_8) hown55 (mvT hZ55 (wd_52 hw)) (mvT hZ55 (wd_53 hw)) (notFace_of_selects (args := #[]) (mvT hZ55 (wd_55 hw))) (mvT hZ55 (wd_55 hw)) (mvT hZ55 (wd_54 hw)) (by decide) (backOf (W := 0) (rm_m8_3 l Z aZ hw [] b36 G_ZERO T130.heap n0 (Nat.le_trans Z0 le135) g130_0 g130_1 ge37 S_ZERO f134 g130_2 g130_3 g130_4 g130_5 g130_6) hZ55 (wd_56 hw) (wd_2 hw) (by decide) (by decide)) q136a q136c (by rw [hml]; rfl) [] (lenOf pd_2 rfl) rfl (Nat.le_of_eq rfl) (hb hby at_172) (fun _ _ => ⟨rfl, rfl, (by decide : 4 + 0 ≤ _), (by decide : 16 + 0 ≤ _)⟩) (pc' := 175) rfl ?_
       rintro _ _ ⟨T136, L136, k136, n136⟩ X136 ⟨Lc136, hQ136, l136, y136, z136⟩
       dsimp only [Pt.U, Pt.locs, Pt.cells, Pt.slots] at X136 l136 y136 z136 hQ136 ⊢
       subst l136 y136 z136
       obtain ⟨rfl, N136q, K136, g136_0, g136_1, g136_2, g136_3, g136_4, g136_5, g136_6⟩ := hQ136
       have N137 := Fr.app N131 N136q
       have C138 : CHr Z EL s.vm h0 T55.vm T136.heap := C132.trans (CHr.keep K136 (sfS (Safe.exa hZ55.alike g130_0 (by decide) (by decide)) sf0) C132.1)
       have K139 : Keep h0 T136.heap [] := K133.trans K136 (allS (Or.inr sz39) (all0 (P := fun x => x ∈ [] ∨ h0.size ≤ x)))
       show Runs _ _ _ _ (T136.setTop (mkF m 175 #[.val (.int p0), .val (.int p1), .val (.int p2), .val (.int p3), .val (.ref b20), .val (.ref b36), .val (.int ((p0 &&& (255 : Int32)).toUInt32.toUInt16.toUInt32.toInt32)), .val (.int ((p1 &&& (255 : Int32)).toUInt32.toUInt16.toUInt32.toInt32)), .val (.int ((p2 &&& (255 : Int32)).toUInt32.toUInt16.toUInt32.toInt32)), .val (.int (p3 &&& (3 : Int32))), .val (.ref a55), .val .null] []))
       refine w_aload X136 hx (hb hby at_175) rfl rfl (pc' := 177) rfl ?_
       have le140 : h0.size ≤ T136.heap.size := (Nat.le_trans le135 K136.1)
       obtain ⟨cq141, kq141, q141a, q141b, q141c⟩ := isOf hZ55 rfl g136_0
       refine w_virtual X136 hx (y := yn_9) (z := yn_9) hown55 (mvT hZ55 (wd_57 hw)) (mvT hZ55 (wd_58 hw)) (notFace_of_selects (args := #[]) (mvT hZ55 (wd_60 hw))) (mvT hZ55 (wd_60 hw)) (mvT hZ55 (wd_59 hw)) (by decide) (backOf (W := 0) (rm_m9_4 l Z aZ hw [] b36 T136.heap n0 (Nat.le_trans Z0 le140) g136_1) hZ55 (wd_61 hw) (wd_2 hw) (by decide) (by decide)) q141a q141c (by rw [hml]; rfl) [] (lenOf pd_3 rfl) rfl (Nat.le_of_eq rfl) (hb hby at_177) (fun _ _ => ⟨rfl, rfl, (by decide : 4 + 0 ≤ _), (by decide : 16 + 0 ≤ _)⟩) (pc' := 180) rfl ?_
       rintro _ _ ⟨T141, L141, k141, n141⟩ X141 ⟨Lc141, hQ141, l141, y141, z141⟩
       dsimp only [Pt.U, Pt.locs, Pt.cells, Pt.slots] at X141 l141 y141 z141 hQ141 ⊢
       subst l141 y141 z141
       obtain ⟨rfl, N141q, e141⟩ := hQ141
       have N142 := Fr.app N137 N141q
       show Runs _ _ _ _ (T141.setTop (mkF m 180 #[.val (.int p0), .val (.int p1), .val (.int p2), .val (.int p3), .val (.ref b20), .val (.ref b36), .val (.int ((p0 &&& (255 : Int32)).toUInt32.toUInt16.toUInt32.toInt32)), .val (.int ((p1 &&& (255 : Int32)).toUInt32.toUInt16.toUInt32.toInt32)), .val (.int ((p2 &&& (255 : Int32)).toUInt32.toUInt16.toUInt32.toInt32)), .val (.int (p3 &&& (3 : Int32))), .val (.ref a55), .val .null] [.null]))
       refine w_ifnonnullN X141 hx (hb hby at_180) (pc' := 183) rfl ?_
       refine w_aload X141 hx (hb hby at_183) rfl rfl (pc' := 185) rfl ?_
       have f143 : Old Z n0 T136.heap := (f134.keep K136 (allS ge37 all0))
       refine w_getS X141 hx "" hZ55 hown55 (Or.inl (wd_62 hw)) Via.refl e141 (S_DOWNSIDE.ext f143.2) (hb hby at_185) (pc' := 188) rfl ?_
       intro T144 X144 e144
       have f145 : Exa Z T136.heap G_DOWNSIDE kc4 := ((((((((E_G_DOWNSIDE.ext E20).keep K32).ext E36).keep K50).ext E55).keep K68).keep K130).keep K136)
       have ne146 : G_DOWNSIDE ≠ b20 := (Nat.ne_of_lt (Nat.lt_of_lt_of_le E_G_DOWNSIDE.lt (Nat.le_trans (Nat.le_refl _) (Nat.le_of_eq g20.symm))))
       have ne147 : G_DOWNSIDE ≠ b36 := (Nat.ne_of_lt (Nat.lt_of_lt_of_le E_G_DOWNSIDE.lt (Nat.le_trans le38 (Nat.le_of_eq g36.symm))))
       have f148 : Fld Z T136.heap G_DOWNSIDE kc3 "ordinal" "I" (.int (1 : Int32)) := ((((((((F_ordinal_G_DOWNSIDE.ext E20).keep K32 (ninS ne146 nin0)).ext E36).keep K50 (ninS ne147 nin0)).ext E55).keep K68 (ninS ne147 nin0)).keep K130 (ninS ne147 nin0)).keep K136 (ninS ne147 nin0))
       have ne149 : G__SwitchMap_com_example_ringfence_ringfence_gate_Measure ≠ b20 := (Nat.ne_of_lt (Nat.lt_of_lt_of_le V_G__SwitchMap_com_example_ringfence_ringfence_gate_Measure.lt (Nat.le_trans (Nat.le_refl _) (Nat.le_of_eq g20.symm))))
       have ne150 : G__SwitchMap_com_example_ringfence_ringfence_gate_Measure ≠ b36 := (Nat.ne_of_lt (Nat.lt_of_lt_of_le V_G__SwitchMap_com_example_ringfence_ringfence_gate_Measure.lt (Nat.le_trans le38 (Nat.le_of_eq g36.symm))))
       have f151 : Arv Z T136.heap G__SwitchMap_com_example_ringfence_ringfence_gate_Measure k_G__SwitchMap_com_example_ringfence_ringfence_gate_Measure .int (5 : Int32) [(.int (1 : Int32)), (.int (2 : Int32)), (.int (3 : Int32)), (.int (4 : Int32)), (.int (5 : Int32))] (.int (0 : Int32)) := ((((((((V_G__SwitchMap_com_example_ringfence_ringfence_gate_Measure.ext E20).keep K32 (ninS ne149 nin0)).ext E36).keep K50 (ninS ne150 nin0)).ext E55).keep K68 (ninS ne150 nin0)).keep K130 (ninS ne150 nin0)).keep K136 (ninS ne150 nin0))
       obtain ⟨cq152, kq152, q152a, q152b, q152c⟩ := isOf hZ55 e144 g136_0
       refine w_virtual X144 hx (y := yn_10) (z := yn_10) hown55 (mvT hZ55 (wd_65 hw)) (mvT hZ55 (wd_66 hw)) (notFace_of_selects (args := #[]) (mvT hZ55 (wd_68 hw))) (mvT hZ55 (wd_68 hw)) (mvT hZ55 (wd_67 hw)) (by decide) (backOf (W := 0) (rm_m10_5 l Z aZ hw [] b36 G_DOWNSIDE G__SwitchMap_com_example_ringfence_ringfence_gate_Measure k_G__SwitchMap_com_example_ringfence_ringfence_gate_Measure G_ZERO T136.heap n0 (Nat.le_trans Z0 le140) g136_1 S__SwitchMap_com_example_ringfence_ringfence_gate_Measure f143 f145 f148 f151 g136_3) hZ55 (wd_69 hw) (wd_2 hw) (by decide) (by decide)) q152a q152c (by rw [hml]; rfl) [(.ref G_DOWNSIDE)] (lenOf pd_5 rfl) rfl (Nat.le_of_eq rfl) (hb hby at_188) (fun _ _ => ⟨rfl, e144, (by decide : 4 + 0 ≤ _), (by decide : 16 + 0 ≤ _)⟩) (pc' := 191) rfl ?_
       rintro _ _ ⟨T152, L152, k152, n152⟩ X152 ⟨Lc152, hQ152, l152, y152, z152⟩
       dsimp only [Pt.U, Pt.locs, Pt.cells, Pt.slots] at X152 l152 y152 z152 hQ152 ⊢
       subst l152 y152 z152
       obtain ⟨rfl, N152q, e152⟩ := hQ152
       have N153 := Fr.app N142 N152q
       show Runs _ _ _ _ (T152.setTop (mkF m 191 #[.val (.int p0), .val (.int p1), .val (.int p2), .val (.int p3), .val (.ref b20), .val (.ref b36), .val (.int ((p0 &&& (255 : Int32)).toUInt32.toUInt16.toUInt32.toInt32)), .val (.int ((p1 &&& (255 : Int32)).toUInt32.toUInt16.toUInt32.toInt32)), .val (.int ((p2 &&& (255 : Int32)).toUInt32.toUInt16.toUInt32.toInt32)), .val (.int (p3 &&& (3 : Int32))), .val (.ref a55), .val .null] [(.ref G_ZERO)]))
       refine w_aload X152 hx (hb hby at_191) rfl rfl (pc' := 193) rfl ?_
       refine w_getS X152 hx "" hZ55 hown55 (Or.inl (wd_82 hw)) Via.refl e152 (S_UPSIDE.ext f143.2) (hb hby at_193) (pc' := 196) rfl ?_
       intro T154 X154 e154
       have f156 : Exa Z T136.heap G_UPSIDE kc4 := ((((((((E_G_UPSIDE.ext E20).keep K32).ext E36).keep K50).ext E55).keep K68).keep K130).keep K136)
       have ne157 : G_UPSIDE ≠ b20 := (Nat.ne_of_lt (Nat.lt_of_lt_of_le E_G_UPSIDE.lt (Nat.le_trans (Nat.le_refl _) (Nat.le_of_eq g20.symm))))
       have ne158 : G_UPSIDE ≠ b36 := (Nat.ne_of_lt (Nat.lt_of_lt_of_le E_G_UPSIDE.lt (Nat.le_trans le38 (Nat.le_of_eq g36.symm))))
       have f159 : Fld Z T136.heap G_UPSIDE kc3 "ordinal" "I" (.int (2 : Int32)) := ((((((((F_ordinal_G_UPSIDE.ext E20).keep K32 (ninS ne157 nin0)).ext E36).keep K50 (ninS ne158 nin0)).ext E55).keep K68 (ninS ne158 nin0)).keep K130 (ninS ne158 nin0)).keep K136 (ninS ne158 nin0))
       obtain ⟨cq160, kq160, q160a, q160b, q160c⟩ := isOf hZ55 e154 g136_0
       refine w_virtual X154 hx (y := yn_10) (z := yn_10) hown55 (mvT hZ55 (wd_65 hw)) (mvT hZ55 (wd_66 hw)) (notFace_of_selects (args := #[]) (mvT hZ55 (wd_68 hw))) (mvT hZ55 (wd_68 hw)) (mvT hZ55 (wd_67 hw)) (by decide) (backOf (W := 1) (rm_m10_7 l Z aZ hw [] b36 G_UPSIDE G__SwitchMap_com_example_ringfence_ringfence_gate_Measure k_G__SwitchMap_com_example_ringfence_ringfence_gate_Measure G_ZERO T136.heap n0 (Nat.le_trans Z0 le140) g136_1 S__SwitchMap_com_example_ringfence_ringfence_gate_Measure f143 f156 f159 f151 g136_4) hZ55 (wd_69 hw) (wd_2 hw) (by decide) (by decide)) q160a q160c (by rw [hml]; rfl) [(.ref G_UPSIDE)] (lenOf pd_5 rfl) rfl (Nat.le_of_eq rfl) (hb hby at_196) (fun _ _ => ⟨rfl, e154, (by decide : 4 + 0 ≤ _), (by decide : 16 + 0 ≤ _)⟩) (pc' := 199) rfl ?_
       rintro _ _ ⟨T160, L160, k160, n160⟩ X160 ⟨Lc160, hQ160, l160, y160, z160⟩
       dsimp only [Pt.U, Pt.locs, Pt.cells, Pt.slots] at X160 l160 y160 z160 hQ160 ⊢
       subst l160 y160 z160
       obtain ⟨rfl, N160q, e160⟩ := hQ160
       have N161 := Fr.app N153 N160q
       show Runs _ _ _ _ (T160.setTop (mkF m 199 #[.val (.int p0), .val (.int p1), .val (.int p2), .val (.int p3), .val (.ref b20), .val (.ref b36), .val (.int ((p0 &&& (255 : Int32)).toUInt32.toUInt16.toUInt32.toInt32)), .val (.int ((p1 &&& (255 : Int32)).toUInt32.toUInt16.toUInt32.toInt32)), .val (.int ((p2 &&& (255 : Int32)).toUInt32.toUInt16.toUInt32.toInt32)), .val (.int (p3 &&& (3 : Int32))), .val (.ref a55), .val .null] [(.ref G_ZERO), (.ref G_ZERO)]))
       refine w_acmp X160 hx (hb hby at_199) (same := true) rfl rfl (decide_eq_true rfl) (pc' := 202) (by decide) (by decide) ?_
       refine w_aload X160 hx (hb hby at_202) rfl rfl (pc' := 204) rfl ?_
       refine w_getS X160 hx "" hZ55 hown55 (Or.inl (wd_82 hw)) Via.refl e160 (S_UPSIDE.ext f143.2) (hb hby at_204) (pc' := 207) rfl ?_
       intro T162 X162 e162
       obtain ⟨cq163, kq163, q163a, q163b, q163c⟩ := isOf hZ55 e162 g136_0
       refine w_virtual X162 hx (y := yn_10) (z := yn_10) hown55 (mvT hZ55 (wd_65 hw)) (mvT hZ55 (wd_66 hw)) (notFace_of_selects (args := #[]) (mvT hZ55 (wd_68 hw))) (mvT hZ55 (wd_68 hw)) (mvT hZ55 (wd_67 hw)) (by decide) (backOf (W := 0) (rm_m10_7 l Z aZ hw [] b36 G_UPSIDE G__SwitchMap_com_example_ringfence_ringfence_gate_Measure k_G__SwitchMap_com_example_ringfence_ringfence_gate_Measure G_ZERO T136.heap n0 (Nat.le_trans Z0 le140) g136_1 S__SwitchMap_com_example_ringfence_ringfence_gate_Measure f143 f156 f159 f151 g136_4) hZ55 (wd_69 hw) (wd_2 hw) (by decide) (by decide)) q163a q163c (by rw [hml]; rfl) [(.ref G_UPSIDE)] (lenOf pd_5 rfl) rfl (Nat.le_of_eq rfl) (hb hby at_207) (fun _ _ => ⟨rfl, e162, (by decide : 4 + 0 ≤ _), (by decide : 16 + 0 ≤ _)⟩) (pc' := 210) rfl ?_
       rintro _ _ ⟨T163, L163, k163, n163⟩ X163 ⟨Lc163, hQ163, l163, y163, z163⟩
       dsimp only [Pt.U, Pt.locs, Pt.cells, Pt.slots] at X163 l163 y163 z163 hQ163 ⊢
       subst l163 y163 z163
       obtain ⟨rfl, N163q, e163⟩ := hQ163
       have N164 := Fr.app N161 N163q
       show Runs _ _ _ _ (T163.setTop (mkF m 210 #[.val (.int p0), .val (.int p1), .val (.int p2), .val (.int p3), .val (.ref b20), .val (.ref b36), .val (.int ((p0 &&& (255 : Int32)).toUInt32.toUInt16.toUInt32.toInt32)), .val (.int ((p1 &&& (255 : Int32)).toUInt32.toUInt16.toUInt32.toInt32)), .val (.int ((p2 &&& (255 : Int32)).toUInt32.toUInt16.toUInt32.toInt32)), .val (.int (p3 &&& (3 : Int32))), .val (.ref a55), .val .null] [(.ref G_ZERO)]))
       refine w_aload X163 hx (hb hby at_210) rfl rfl (pc' := 212) rfl ?_
       refine w_getS X163 hx "" hZ55 hown55 (Or.inl (wd_84 hw)) Via.refl e163 (S_EXPOSURE.ext f143.2) (hb hby at_212) (pc' := 215) rfl ?_
       intro T165 X165 e165
       have f168 : Exa Z T136.heap G_EXPOSURE kc4 := ((((((((E_G_EXPOSURE.ext E20).keep K32).ext E36).keep K50).ext E55).keep K68).keep K130).keep K136)
       have ne169 : G_EXPOSURE ≠ b20 := (Nat.ne_of_lt (Nat.lt_of_lt_of_le E_G_EXPOSURE.lt (Nat.le_trans (Nat.le_refl _) (Nat.le_of_eq g20.symm))))
       have ne170 : G_EXPOSURE ≠ b36 := (Nat.ne_of_lt (Nat.lt_of_lt_of_le E_G_EXPOSURE.lt (Nat.le_trans le38 (Nat.le_of_eq g36.symm))))
       have f171 : Fld Z T136.heap G_EXPOSURE kc3 "ordinal" "I" (.int (3 : Int32)) := ((((((((F_ordinal_G_EXPOSURE.ext E20).keep K32 (ninS ne169 nin0)).ext E36).keep K50 (ninS ne170 nin0)).ext E55).keep K68 (ninS ne170 nin0)).keep K130 (ninS ne170 nin0)).keep K136 (ninS ne170 nin0))
       obtain ⟨cq172, kq172, q172a, q172b, q172c⟩ := isOf hZ55 e165 g136_0
       refine w_virtual X165 hx (y := yn_10) (z := yn_10) hown55 (mvT hZ55 (wd_65 hw)) (mvT hZ55 (wd_66 hw)) (notFace_of_selects (args := #[]) (mvT hZ55 (wd_68 hw))) (mvT hZ55 (wd_68 hw)) (mvT hZ55 (wd_67 hw)) (by decide) (backOf (W := 1) (rm_m10_9 l Z aZ hw [] b36 G_EXPOSURE G__SwitchMap_com_example_ringfence_ringfence_gate_Measure k_G__SwitchMap_com_example_ringfence_ringfence_gate_Measure G_ZERO T136.heap n0 (Nat.le_trans Z0 le140) g136_1 S__SwitchMap_com_example_ringfence_ringfence_gate_Measure f143 f168 f171 f151 g136_5) hZ55 (wd_69 hw) (wd_2 hw) (by decide) (by decide)) q172a q172c (by rw [hml]; rfl) [(.ref G_EXPOSURE)] (lenOf pd_5 rfl) rfl (Nat.le_of_eq rfl) (hb hby at_215) (fun _ _ => ⟨rfl, e165, (by decide : 4 + 0 ≤ _), (by decide : 16 + 0 ≤ _)⟩) (pc' := 218) rfl ?_
       rintro _ _ ⟨T172, L172, k172, n172⟩ X172 ⟨Lc172, hQ172, l172, y172, z172⟩
       dsimp only [Pt.U, Pt.locs, Pt.cells, Pt.slots] at X172 l172 y172 z172 hQ172 ⊢
       subst l172 y172 z172
       obtain ⟨rfl, N172q, e172⟩ := hQ172
       have N173 := Fr.app N164 N172q
       show Runs _ _ _ _ (T172.setTop (mkF m 218 #[.val (.int p0), .val (.int p1), .val (.int p2), .val (.int p3), .val (.ref b20), .val (.ref b36), .val (.int ((p0 &&& (255 : Int32)).toUInt32.toUInt16.toUInt32.toInt32)), .val (.int ((p1 &&& (255 : Int32)).toUInt32.toUInt16.toUInt32.toInt32)), .val (.int ((p2 &&& (255 : Int32)).toUInt32.toUInt16.toUInt32.toInt32)), .val (.int (p3 &&& (3 : Int32))), .val (.ref a55), .val .null] [(.ref G_ZERO), (.ref G_ZERO)]))
       refine w_acmp X172 hx (hb hby at_218) (same := true) rfl rfl (decide_eq_true rfl) (pc' := 221) (by decide) (by decide) ?_
       refine w_aload X172 hx (hb hby at_221) rfl rfl (pc' := 223) rfl ?_
       refine w_getS X172 hx "" hZ55 hown55 (Or.inl (wd_84 hw)) Via.refl e172 (S_EXPOSURE.ext f143.2) (hb hby at_223) (pc' := 226) rfl ?_
       intro T174 X174 e174
       obtain ⟨cq175, kq175, q175a, q175b, q175c⟩ := isOf hZ55 e174 g136_0
       refine w_virtual X174 hx (y := yn_10) (z := yn_10) hown55 (mvT hZ55 (wd_65 hw)) (mvT hZ55 (wd_66 hw)) (notFace_of_selects (args := #[]) (mvT hZ55 (wd_68 hw))) (mvT hZ55 (wd_68 hw)) (mvT hZ55 (wd_67 hw)) (by decide) (backOf (W := 0) (rm_m10_9 l Z aZ hw [] b36 G_EXPOSURE G__SwitchMap_com_example_ringfence_ringfence_gate_Measure k_G__SwitchMap_com_example_ringfence_ringfence_gate_Measure G_ZERO T136.heap n0 (Nat.le_trans Z0 le140) g136_1 S__SwitchMap_com_example_ringfence_ringfence_gate_Measure f143 f168 f171 f151 g136_5) hZ55 (wd_69 hw) (wd_2 hw) (by decide) (by decide)) q175a q175c (by rw [hml]; rfl) [(.ref G_EXPOSURE)] (lenOf pd_5 rfl) rfl (Nat.le_of_eq rfl) (hb hby at_226) (fun _ _ => ⟨rfl, e174, (by decide : 4 + 0 ≤ _), (by decide : 16 + 0 ≤ _)⟩) (pc' := 229) rfl ?_
       rintro _ _ ⟨T175, L175, k175, n175⟩ X175 ⟨Lc175, hQ175, l175, y175, z175⟩
       dsimp only [Pt.U, Pt.locs, Pt.cells, Pt.slots] at X175 l175 y175 z175 hQ175 ⊢
       subst l175 y175 z175
       obtain ⟨rfl, N175q, e175⟩ := hQ175
       have N176 := Fr.app N173 N175q
       show Runs _ _ _ _ (T175.setTop (mkF m 229 #[.val (.int p0), .val (.int p1), .val (.int p2), .val (.int p3), .val (.ref b20), .val (.ref b36), .val (.int ((p0 &&& (255 : Int32)).toUInt32.toUInt16.toUInt32.toInt32)), .val (.int ((p1 &&& (255 : Int32)).toUInt32.toUInt16.toUInt32.toInt32)), .val (.int ((p2 &&& (255 : Int32)).toUInt32.toUInt16.toUInt32.toInt32)), .val (.int (p3 &&& (3 : Int32))), .val (.ref a55), .val .null] [(.ref G_ZERO)]))
       refine w_aload X175 hx (hb hby at_229) rfl rfl (pc' := 231) rfl ?_
       refine w_getS X175 hx "" hZ55 hown55 (Or.inl (wd_84 hw)) Via.refl e175 (S_EXPOSURE.ext f143.2) (hb hby at_231) (pc' := 234) rfl ?_
       intro T177 X177 e177
       have ne182 : b20 ≠ b36 := (Nat.ne_of_lt (Nat.lt_of_lt_of_le A20.lt (Nat.le_trans K32.1 (Nat.le_of_eq g36.symm))))
       have f183 : Fld Z T136.heap b20 kc0 "unrated" "Ljava/lang/String;" .null := ((((((g32_6.ext E36).keep K50 (ninS ne182 nin0)).ext E55).keep K68 (ninS ne182 nin0)).keep K130 (ninS ne182 nin0)).keep K136 (ninS ne182 nin0))
       have f184 : Fld Z T136.heap b20 kc0 "exposure" "Ljava/math/BigDecimal;" (.ref G_ZERO) := ((((((g32_4.ext E36).keep K50 (ninS ne182 nin0)).ext E55).keep K68 (ninS ne182 nin0)).keep K130 (ninS ne182 nin0)).keep K136 (ninS ne182 nin0))
       have f186 : Exa Z T136.heap b20 kc0 := ((((((g32_0.ext E36).keep K50).ext E55).keep K68).keep K130).keep K136)
       obtain ⟨cq185, kq185, q185a, q185b, q185c⟩ := isOf hZ55 e177 f186
       refine w_virtual X177 hx (y := yn_10) (z := yn_10) hown55 (mvT hZ55 (wd_65 hw)) (mvT hZ55 (wd_66 hw)) (notFace_of_selects (args := #[]) (mvT hZ55 (wd_68 hw))) (mvT hZ55 (wd_68 hw)) (mvT hZ55 (wd_67 hw)) (by decide) (backOf (W := 1) (rm_m10_9 l Z aZ hw [] b20 G_EXPOSURE G__SwitchMap_com_example_ringfence_ringfence_gate_Measure k_G__SwitchMap_com_example_ringfence_ringfence_gate_Measure G_ZERO T136.heap n0 (Nat.le_trans Z0 le140) f183 S__SwitchMap_com_example_ringfence_ringfence_gate_Measure f143 f168 f171 f151 f184) hZ55 (wd_69 hw) (wd_2 hw) (by decide) (by decide)) q185a q185c (by rw [hml]; rfl) [(.ref G_EXPOSURE)] (lenOf pd_5 rfl) rfl (Nat.le_of_eq rfl) (hb hby at_234) (fun _ _ => ⟨rfl, e177, (by decide : 4 + 0 ≤ _), (by decide : 16 + 0 ≤ _)⟩) (pc' := 237) rfl ?_
       rintro _ _ ⟨T185, L185, k185, n185⟩ X185 ⟨Lc185, hQ185, l185, y185, z185⟩
       dsimp only [Pt.U, Pt.locs, Pt.cells, Pt.slots] at X185 l185 y185 z185 hQ185 ⊢
       subst l185 y185 z185
       obtain ⟨rfl, N185q, e185⟩ := hQ185
       have N187 := Fr.app N176 N185q
       show Runs _ _ _ _ (T185.setTop (mkF m 237 #[.val (.int p0), .val (.int p1), .val (.int p2), .val (.int p3), .val (.ref b20), .val (.ref b36), .val (.int ((p0 &&& (255 : Int32)).toUInt32.toUInt16.toUInt32.toInt32)), .val (.int ((p1 &&& (255 : Int32)).toUInt32.toUInt16.toUInt32.toInt32)), .val (.int ((p2 &&& (255 : Int32)).toUInt32.toUInt16.toUInt32.toInt32)), .val (.int (p3 &&& (3 : Int32))), .val (.ref a55), .val .null] [(.ref G_ZERO), (.ref G_ZERO)]))
       refine w_acmp X185 hx (hb hby at_237) (same := true) rfl rfl (decide_eq_true rfl) (pc' := 240) (by decide) (by decide) ?_
       refine w_iconst X185 hx (hb hby at_240) (v := (1 : Int32)) rfl (pc' := 241) rfl ?_
       refine w_goto X185 hx (hb hby at_241) (pc' := 245) (by decide) (by decide) ?_
       have le188 : h55.size ≤ T130.heap.size := (Nat.le_trans K68.1 K130.1)
       have le189 : h55.size ≤ T136.heap.size := (Nat.le_trans le188 K136.1)
       exact w_doneH X185 hlk (v := some (.int (1 : Int32))) e185 hh hZ55 (own_EW hw) hS55 (Nat.le_trans hk55 le189) C138 (fun h => by rw [hret] at h; cases h) (fun fs hr => retN X185 hx (t := .boolean) hret (by simp) (hb hby at_245) hr) (by decide) (by decide) (fun hsy => ⟨rfl, N187⟩)
   · refine w_ifN X55 hx (hb hby at_140) (feq hc59).1 (pc' := 143) rfl ?_
     refine w_aload X55 hx (hb hby at_143) rfl rfl (pc' := 145) rfl ?_
     refine w_goto X55 hx (hb hby at_145) (pc' := 149) (by decide) (by decide) ?_
     refine w_astore X55 hx (hb hby at_149) rfl (L' := #[.val (.int p0), .val (.int p1), .val (.int p2), .val (.int p3), .val (.ref b20), .val (.ref b36), .val (.int ((p0 &&& (255 : Int32)).toUInt32.toUInt16.toUInt32.toInt32)), .val (.int ((p1 &&& (255 : Int32)).toUInt32.toUInt16.toUInt32.toInt32)), .val (.int ((p2 &&& (255 : Int32)).toUInt32.toUInt16.toUInt32.toInt32)), .val (.int (p3 &&& (3 : Int32))), .val (.ref a55), .val (.ref a55)]) rfl (pc' := 151) rfl ?_
     refine w_aload X55 hx (hb hby at_151) rfl rfl (pc' := 153) rfl ?_
     refine w_aload X55 hx (hb hby at_153) rfl rfl (pc' := 155) rfl ?_
     have f190 : Exa Z h55 b36 kc0 := (g50_0.ext E55)
     have f191 : Fld Z h55 b36 kc0 "unrated" "Ljava/lang/String;" .null := (g50_6.ext E55)
     have f192 : Fld Z h55 b36 kc0 "open" "Ljava/math/BigDecimal;" (.ref G_ZERO) := (g50_1.ext E55)
     have f193 : Fld Z h55 b36 kc0 "downside" "Ljava/math/BigDecimal;" (.ref G_ZERO) := (g50_2.ext E55)
     have f194 : Fld Z h55 b36 kc0 "upside" "Ljava/math/BigDecimal;" (.ref G_ZERO) := (g50_3.ext E55)
     have f195 : Fld Z h55 b36 kc0 "exposure" "Ljava/math/BigDecimal;" (.ref G_ZERO) := (g50_4.ext E55)
     have f196 : Fld Z h55 b36 kc0 "pool" "Lcom/example/ringfence/ringfence/gate/Pool;" .null := (g50_5.ext E55)
     have le197 : h0.size ≤ h55.size := (Nat.le_trans le56 E55.1)
     obtain ⟨cq198, kq198, q198a, q198b, q198c⟩ := isOf hZ55 e55 f190
     refine w_virtual X55 hx (y := yn_7) (z := yn_7) hown55 (mvT hZ55 (wd_45 hw)) (mvT hZ55 (wd_46 hw)) (notFace_of_selects (args := #[]) (mvT hZ55 (wd_48 hw))) (mvT hZ55 (wd_48 hw)) (mvT hZ55 (wd_47 hw)) (by decide) (backOf (W := 0) (rm_m7_11 l Z aZ hw [] b36 a55 G_ZERO h55 n0 (Nat.le_trans Z0 le197) f190 f191 ge37 f192 f193 f194 f195 f196) hZ55 (wd_49 hw) (wd_2 hw) (by decide) (by decide)) q198a q198c (by rw [hml]; rfl) [(.ref a55)] (lenOf pd_1 rfl) rfl (Nat.le_of_eq rfl) (hb hby at_155) (fun _ _ => ⟨rfl, e55, (by decide : 4 + 0 ≤ _), (by decide : 16 + 0 ≤ _)⟩) (pc' := 158) rfl ?_
     rintro _ _ ⟨T198, L198, k198, n198⟩ X198 ⟨Lc198, hQ198, l198, y198, z198⟩
     dsimp only [Pt.U, Pt.locs, Pt.cells, Pt.slots] at X198 l198 y198 z198 hQ198 ⊢
     subst l198 y198 z198
     obtain ⟨rfl, N198q, K198, g198_0, g198_1, g198_2, g198_3, g198_4, g198_5, g198_6⟩ := hQ198
     have N199 := Fr.app N51 N198q
     have C200 : CHr Z EL s.vm h0 T55.vm T198.heap := C57.trans (CHr.keep K198 (sfS (Safe.exa hZ55.alike f190 (by decide) (by decide)) sf0) C57.1)
     have K201 : Keep h0 T198.heap [] := K58.trans K198 (allS (Or.inr sz39) (all0 (P := fun x => x ∈ [] ∨ h0.size ≤ x)))
     show Runs _ _ _ _ (T198.setTop (mkF m 158 #[.val (.int p0), .val (.int p1), .val (.int p2), .val (.int p3), .val (.ref b20), .val (.ref b36), .val (.int ((p0 &&& (255 : Int32)).toUInt32.toUInt16.toUInt32.toInt32)), .val (.int ((p1 &&& (255 : Int32)).toUInt32.toUInt16.toUInt32.toInt32)), .val (.int ((p2 &&& (255 : Int32)).toUInt32.toUInt16.toUInt32.toInt32)), .val (.int (p3 &&& (3 : Int32))), .val (.ref a55), .val (.ref a55)] []))
     refine w_iloadN X198 hx (hb hby at_158) rfl (pc' := 159) rfl ?_
     refine w_bipush X198 hx (hb hby at_159) (v := (8 : Int32)) rfl (pc' := 161) rfl ?_
     refine w_iand X198 hx (hb hby at_161) (pc' := 162) rfl ?_
     by_cases hc202 : (p3 &&& (8 : Int32)) = (0 : Int32)
     · refine w_ifY X198 hx (hb hby at_162) (teq hc202).1 (pc' := 170) (by decide) (by decide) ?_
       refine w_aload X198 hx (hb hby at_170) rfl rfl (pc' := 172) rfl ?_
       have f203 : Old Z n0 T198.heap := (((f48.keep K50 (allS ge37 all0)).ext E55).keep K198 (allS ge37 all0))
       have le204 : h0.size ≤ T198.heap.size := (Nat.le_trans le197 K198.1)
       obtain ⟨cq205, kq205, q205a, q205b, q205c⟩ := isOf hZ55 rfl g198_0
       refine w_virtual X198 hx (y := yn_8) (z := yn_8) hown55 (mvT hZ55 (wd_52 hw)) (mvT hZ55 (wd_53 hw)) (notFace_of_selects (args := #[]) (mvT hZ55 (wd_55 hw))) (mvT hZ55 (wd_55 hw)) (mvT hZ55 (wd_54 hw)) (by decide) (backOf (W := 0) (rm_m8_12 l Z aZ hw [] b36 a55 G_ZERO T198.heap n0 (Nat.le_trans Z0 le204) g198_0 g198_1 ge37 S_ZERO f203 g198_2 g198_3 g198_4 g198_5 g198_6) hZ55 (wd_56 hw) (wd_2 hw) (by decide) (by decide)) q205a q205c (by rw [hml]; rfl) [] (lenOf pd_2 rfl) rfl (Nat.le_of_eq rfl) (hb hby at_172) (fun _ _ => ⟨rfl, rfl, (by decide : 4 + 0 ≤ _), (by decide : 16 + 0 ≤ _)⟩) (pc' := 175) rfl ?_
       rintro _ _ ⟨T205, L205, k205, n205⟩ X205 ⟨Lc205, hQ205, l205, y205, z205⟩
       dsimp only [Pt.U, Pt.locs, Pt.cells, Pt.slots] at X205 l205 y205 z205 hQ205 ⊢
       subst l205 y205 z205
       obtain ⟨rfl, N205q, K205, g205_0, g205_1, g205_2, g205_3, g205_4, g205_5, g205_6⟩ := hQ205
       have N206 := Fr.app N199 N205q
       have C207 : CHr Z EL s.vm h0 T55.vm T205.heap := C200.trans (CHr.keep K205 (sfS (Safe.exa hZ55.alike g198_0 (by decide) (by decide)) sf0) C200.1)
       have K208 : Keep h0 T205.heap [] := K201.trans K205 (allS (Or.inr sz39) (all0 (P := fun x => x ∈ [] ∨ h0.size ≤ x)))
       show Runs _ _ _ _ (T205.setTop (mkF m 175 #[.val (.int p0), .val (.int p1), .val (.int p2), .val (.int p3), .val (.ref b20), .val (.ref b36), .val (.int ((p0 &&& (255 : Int32)).toUInt32.toUInt16.toUInt32.toInt32)), .val (.int ((p1 &&& (255 : Int32)).toUInt32.toUInt16.toUInt32.toInt32)), .val (.int ((p2 &&& (255 : Int32)).toUInt32.toUInt16.toUInt32.toInt32)), .val (.int (p3 &&& (3 : Int32))), .val (.ref a55), .val (.ref a55)] []))
       refine w_aload X205 hx (hb hby at_175) rfl rfl (pc' := 177) rfl ?_
       have le209 : h0.size ≤ T205.heap.size := (Nat.le_trans le204 K205.1)
       obtain ⟨cq210, kq210, q210a, q210b, q210c⟩ := isOf hZ55 rfl g205_0
       refine w_virtual X205 hx (y := yn_9) (z := yn_9) hown55 (mvT hZ55 (wd_57 hw)) (mvT hZ55 (wd_58 hw)) (notFace_of_selects (args := #[]) (mvT hZ55 (wd_60 hw))) (mvT hZ55 (wd_60 hw)) (mvT hZ55 (wd_59 hw)) (by decide) (backOf (W := 0) (rm_m9_4 l Z aZ hw [] b36 T205.heap n0 (Nat.le_trans Z0 le209) g205_1) hZ55 (wd_61 hw) (wd_2 hw) (by decide) (by decide)) q210a q210c (by rw [hml]; rfl) [] (lenOf pd_3 rfl) rfl (Nat.le_of_eq rfl) (hb hby at_177) (fun _ _ => ⟨rfl, rfl, (by decide : 4 + 0 ≤ _), (by decide : 16 + 0 ≤ _)⟩) (pc' := 180) rfl ?_
       rintro _ _ ⟨T210, L210, k210, n210⟩ X210 ⟨Lc210, hQ210, l210, y210, z210⟩
       dsimp only [Pt.U, Pt.locs, Pt.cells, Pt.slots] at X210 l210 y210 z210 hQ210 ⊢
       subst l210 y210 z210
       obtain ⟨rfl, N210q, e210⟩ := hQ210
       have N211 := Fr.app N206 N210q
       show Runs _ _ _ _ (T210.setTop (mkF m 180 #[.val (.int p0), .val (.int p1), .val (.int p2), .val (.int p3), .val (.ref b20), .val (.ref b36), .val (.int ((p0 &&& (255 : Int32)).toUInt32.toUInt16.toUInt32.toInt32)), .val (.int ((p1 &&& (255 : Int32)).toUInt32.toUInt16.toUInt32.toInt32)), .val (.int ((p2 &&& (255 : Int32)).toUInt32.toUInt16.toUInt32.toInt32)), .val (.int (p3 &&& (3 : Int32))), .val (.ref a55), .val (.ref a55)] [.null]))
       refine w_ifnonnullN X210 hx (hb hby at_180) (pc' := 183) rfl ?_
       refine w_aload X210 hx (hb hby at_183) rfl rfl (pc' := 185) rfl ?_
       have f212 : Old Z n0 T205.heap := (f203.keep K205 (allS ge37 all0))
       refine w_getS X210 hx "" hZ55 hown55 (Or.inl (wd_62 hw)) Via.refl e210 (S_DOWNSIDE.ext f212.2) (hb hby at_185) (pc' := 188) rfl ?_
       intro T213 X213 e213
       have f214 : Exa Z T205.heap G_DOWNSIDE kc4 := (((((((E_G_DOWNSIDE.ext E20).keep K32).ext E36).keep K50).ext E55).keep K198).keep K205)
       have ne215 : G_DOWNSIDE ≠ b20 := (Nat.ne_of_lt (Nat.lt_of_lt_of_le E_G_DOWNSIDE.lt (Nat.le_trans (Nat.le_refl _) (Nat.le_of_eq g20.symm))))
       have ne216 : G_DOWNSIDE ≠ b36 := (Nat.ne_of_lt (Nat.lt_of_lt_of_le E_G_DOWNSIDE.lt (Nat.le_trans le38 (Nat.le_of_eq g36.symm))))
       have f217 : Fld Z T205.heap G_DOWNSIDE kc3 "ordinal" "I" (.int (1 : Int32)) := (((((((F_ordinal_G_DOWNSIDE.ext E20).keep K32 (ninS ne215 nin0)).ext E36).keep K50 (ninS ne216 nin0)).ext E55).keep K198 (ninS ne216 nin0)).keep K205 (ninS ne216 nin0))
       have ne218 : G__SwitchMap_com_example_ringfence_ringfence_gate_Measure ≠ b20 := (Nat.ne_of_lt (Nat.lt_of_lt_of_le V_G__SwitchMap_com_example_ringfence_ringfence_gate_Measure.lt (Nat.le_trans (Nat.le_refl _) (Nat.le_of_eq g20.symm))))
       have ne219 : G__SwitchMap_com_example_ringfence_ringfence_gate_Measure ≠ b36 := (Nat.ne_of_lt (Nat.lt_of_lt_of_le V_G__SwitchMap_com_example_ringfence_ringfence_gate_Measure.lt (Nat.le_trans le38 (Nat.le_of_eq g36.symm))))
       have f220 : Arv Z T205.heap G__SwitchMap_com_example_ringfence_ringfence_gate_Measure k_G__SwitchMap_com_example_ringfence_ringfence_gate_Measure .int (5 : Int32) [(.int (1 : Int32)), (.int (2 : Int32)), (.int (3 : Int32)), (.int (4 : Int32)), (.int (5 : Int32))] (.int (0 : Int32)) := (((((((V_G__SwitchMap_com_example_ringfence_ringfence_gate_Measure.ext E20).keep K32 (ninS ne218 nin0)).ext E36).keep K50 (ninS ne219 nin0)).ext E55).keep K198 (ninS ne219 nin0)).keep K205 (ninS ne219 nin0))
       obtain ⟨cq221, kq221, q221a, q221b, q221c⟩ := isOf hZ55 e213 g205_0
       refine w_virtual X213 hx (y := yn_10) (z := yn_10) hown55 (mvT hZ55 (wd_65 hw)) (mvT hZ55 (wd_66 hw)) (notFace_of_selects (args := #[]) (mvT hZ55 (wd_68 hw))) (mvT hZ55 (wd_68 hw)) (mvT hZ55 (wd_67 hw)) (by decide) (backOf (W := 0) (rm_m10_5 l Z aZ hw [] b36 G_DOWNSIDE G__SwitchMap_com_example_ringfence_ringfence_gate_Measure k_G__SwitchMap_com_example_ringfence_ringfence_gate_Measure G_ZERO T205.heap n0 (Nat.le_trans Z0 le209) g205_1 S__SwitchMap_com_example_ringfence_ringfence_gate_Measure f212 f214 f217 f220 g205_3) hZ55 (wd_69 hw) (wd_2 hw) (by decide) (by decide)) q221a q221c (by rw [hml]; rfl) [(.ref G_DOWNSIDE)] (lenOf pd_5 rfl) rfl (Nat.le_of_eq rfl) (hb hby at_188) (fun _ _ => ⟨rfl, e213, (by decide : 4 + 0 ≤ _), (by decide : 16 + 0 ≤ _)⟩) (pc' := 191) rfl ?_
       rintro _ _ ⟨T221, L221, k221, n221⟩ X221 ⟨Lc221, hQ221, l221, y221, z221⟩
       dsimp only [Pt.U, Pt.locs, Pt.cells, Pt.slots] at X221 l221 y221 z221 hQ221 ⊢
       subst l221 y221 z221
       obtain ⟨rfl, N221q, e221⟩ := hQ221
       have N222 := Fr.app N211 N221q
       show Runs _ _ _ _ (T221.setTop (mkF m 191 #[.val (.int p0), .val (.int p1), .val (.int p2), .val (.int p3), .val (.ref b20), .val (.ref b36), .val (.int ((p0 &&& (255 : Int32)).toUInt32.toUInt16.toUInt32.toInt32)), .val (.int ((p1 &&& (255 : Int32)).toUInt32.toUInt16.toUInt32.toInt32)), .val (.int ((p2 &&& (255 : Int32)).toUInt32.toUInt16.toUInt32.toInt32)), .val (.int (p3 &&& (3 : Int32))), .val (.ref a55), .val (.ref a55)] [(.ref G_ZERO)]))
       refine w_aload X221 hx (hb hby at_191) rfl rfl (pc' := 193) rfl ?_
       refine w_getS X221 hx "" hZ55 hown55 (Or.inl (wd_82 hw)) Via.refl e221 (S_UPSIDE.ext f212.2) (hb hby at_193) (pc' := 196) rfl ?_
       intro T223 X223 e223
       have f225 : Exa Z T205.heap G_UPSIDE kc4 := (((((((E_G_UPSIDE.ext E20).keep K32).ext E36).keep K50).ext E55).keep K198).keep K205)
       have ne226 : G_UPSIDE ≠ b20 := (Nat.ne_of_lt (Nat.lt_of_lt_of_le E_G_UPSIDE.lt (Nat.le_trans (Nat.le_refl _) (Nat.le_of_eq g20.symm))))
       have ne227 : G_UPSIDE ≠ b36 := (Nat.ne_of_lt (Nat.lt_of_lt_of_le E_G_UPSIDE.lt (Nat.le_trans le38 (Nat.le_of_eq g36.symm))))
       have f228 : Fld Z T205.heap G_UPSIDE kc3 "ordinal" "I" (.int (2 : Int32)) := (((((((F_ordinal_G_UPSIDE.ext E20).keep K32 (ninS ne226 nin0)).ext E36).keep K50 (ninS ne227 nin0)).ext E55).keep K198 (ninS ne227 nin0)).keep K205 (ninS ne227 nin0))
       obtain ⟨cq229, kq229, q229a, q229b, q229c⟩ := isOf hZ55 e223 g205_0
       refine w_virtual X223 hx (y := yn_10) (z := yn_10) hown55 (mvT hZ55 (wd_65 hw)) (mvT hZ55 (wd_66 hw)) (notFace_of_selects (args := #[]) (mvT hZ55 (wd_68 hw))) (mvT hZ55 (wd_68 hw)) (mvT hZ55 (wd_67 hw)) (by decide) (backOf (W := 1) (rm_m10_7 l Z aZ hw [] b36 G_UPSIDE G__SwitchMap_com_example_ringfence_ringfence_gate_Measure k_G__SwitchMap_com_example_ringfence_ringfence_gate_Measure G_ZERO T205.heap n0 (Nat.le_trans Z0 le209) g205_1 S__SwitchMap_com_example_ringfence_ringfence_gate_Measure f212 f225 f228 f220 g205_4) hZ55 (wd_69 hw) (wd_2 hw) (by decide) (by decide)) q229a q229c (by rw [hml]; rfl) [(.ref G_UPSIDE)] (lenOf pd_5 rfl) rfl (Nat.le_of_eq rfl) (hb hby at_196) (fun _ _ => ⟨rfl, e223, (by decide : 4 + 0 ≤ _), (by decide : 16 + 0 ≤ _)⟩) (pc' := 199) rfl ?_
       rintro _ _ ⟨T229, L229, k229, n229⟩ X229 ⟨Lc229, hQ229, l229, y229, z229⟩
       dsimp only [Pt.U, Pt.locs, Pt.cells, Pt.slots] at X229 l229 y229 z229 hQ229 ⊢
       subst l229 y229 z229
       obtain ⟨rfl, N229q, e229⟩ := hQ229
       have N230 := Fr.app N222 N229q
       show Runs _ _ _ _ (T229.setTop (mkF m 199 #[.val (.int p0), .val (.int p1), .val (.int p2), .val (.int p3), .val (.ref b20), .val (.ref b36), .val (.int ((p0 &&& (255 : Int32)).toUInt32.toUInt16.toUInt32.toInt32)), .val (.int ((p1 &&& (255 : Int32)).toUInt32.toUInt16.toUInt32.toInt32)), .val (.int ((p2 &&& (255 : Int32)).toUInt32.toUInt16.toUInt32.toInt32)), .val (.int (p3 &&& (3 : Int32))), .val (.ref a55), .val (.ref a55)] [(.ref G_ZERO), (.ref G_ZERO)]))
       refine w_acmp X229 hx (hb hby at_199) (same := true) rfl rfl (decide_eq_true rfl) (pc' := 202) (by decide) (by decide) ?_
       refine w_aload X229 hx (hb hby at_202) rfl rfl (pc' := 204) rfl ?_
       refine w_getS X229 hx "" hZ55 hown55 (Or.inl (wd_82 hw)) Via.refl e229 (S_UPSIDE.ext f212.2) (hb hby at_204) (pc' := 207) rfl ?_
       intro T231 X231 e231
       obtain ⟨cq232, kq232, q232a, q232b, q232c⟩ := isOf hZ55 e231 g205_0
       refine w_virtual X231 hx (y := yn_10) (z := yn_10) hown55 (mvT hZ55 (wd_65 hw)) (mvT hZ55 (wd_66 hw)) (notFace_of_selects (args := #[]) (mvT hZ55 (wd_68 hw))) (mvT hZ55 (wd_68 hw)) (mvT hZ55 (wd_67 hw)) (by decide) (backOf (W := 0) (rm_m10_7 l Z aZ hw [] b36 G_UPSIDE G__SwitchMap_com_example_ringfence_ringfence_gate_Measure k_G__SwitchMap_com_example_ringfence_ringfence_gate_Measure G_ZERO T205.heap n0 (Nat.le_trans Z0 le209) g205_1 S__SwitchMap_com_example_ringfence_ringfence_gate_Measure f212 f225 f228 f220 g205_4) hZ55 (wd_69 hw) (wd_2 hw) (by decide) (by decide)) q232a q232c (by rw [hml]; rfl) [(.ref G_UPSIDE)] (lenOf pd_5 rfl) rfl (Nat.le_of_eq rfl) (hb hby at_207) (fun _ _ => ⟨rfl, e231, (by decide : 4 + 0 ≤ _), (by decide : 16 + 0 ≤ _)⟩) (pc' := 210) rfl ?_
       rintro _ _ ⟨T232, L232, k232, n232⟩ X232 ⟨Lc232, hQ232, l232, y232, z232⟩
       dsimp only [Pt.U, Pt.locs, Pt.cells, Pt.slots] at X232 l232 y232 z232 hQ232 ⊢
       subst l232 y232 z232
       obtain ⟨rfl, N232q, e232⟩ := hQ232
       have N233 := Fr.app N230 N232q
       show Runs _ _ _ _ (T232.setTop (mkF m 210 #[.val (.int p0), .val (.int p1), .val (.int p2), .val (.int p3), .val (.ref b20), .val (.ref b36), .val (.int ((p0 &&& (255 : Int32)).toUInt32.toUInt16.toUInt32.toInt32)), .val (.int ((p1 &&& (255 : Int32)).toUInt32.toUInt16.toUInt32.toInt32)), .val (.int ((p2 &&& (255 : Int32)).toUInt32.toUInt16.toUInt32.toInt32)), .val (.int (p3 &&& (3 : Int32))), .val (.ref a55), .val (.ref a55)] [(.ref G_ZERO)]))
       refine w_aload X232 hx (hb hby at_210) rfl rfl (pc' := 212) rfl ?_
       refine w_getS X232 hx "" hZ55 hown55 (Or.inl (wd_84 hw)) Via.refl e232 (S_EXPOSURE.ext f212.2) (hb hby at_212) (pc' := 215) rfl ?_
       intro T234 X234 e234
       have f237 : Exa Z T205.heap G_EXPOSURE kc4 := (((((((E_G_EXPOSURE.ext E20).keep K32).ext E36).keep K50).ext E55).keep K198).keep K205)
       have ne238 : G_EXPOSURE ≠ b20 := (Nat.ne_of_lt (Nat.lt_of_lt_of_le E_G_EXPOSURE.lt (Nat.le_trans (Nat.le_refl _) (Nat.le_of_eq g20.symm))))
       have ne239 : G_EXPOSURE ≠ b36 := (Nat.ne_of_lt (Nat.lt_of_lt_of_le E_G_EXPOSURE.lt (Nat.le_trans le38 (Nat.le_of_eq g36.symm))))
       have f240 : Fld Z T205.heap G_EXPOSURE kc3 "ordinal" "I" (.int (3 : Int32)) := (((((((F_ordinal_G_EXPOSURE.ext E20).keep K32 (ninS ne238 nin0)).ext E36).keep K50 (ninS ne239 nin0)).ext E55).keep K198 (ninS ne239 nin0)).keep K205 (ninS ne239 nin0))
       obtain ⟨cq241, kq241, q241a, q241b, q241c⟩ := isOf hZ55 e234 g205_0
       refine w_virtual X234 hx (y := yn_10) (z := yn_10) hown55 (mvT hZ55 (wd_65 hw)) (mvT hZ55 (wd_66 hw)) (notFace_of_selects (args := #[]) (mvT hZ55 (wd_68 hw))) (mvT hZ55 (wd_68 hw)) (mvT hZ55 (wd_67 hw)) (by decide) (backOf (W := 1) (rm_m10_9 l Z aZ hw [] b36 G_EXPOSURE G__SwitchMap_com_example_ringfence_ringfence_gate_Measure k_G__SwitchMap_com_example_ringfence_ringfence_gate_Measure G_ZERO T205.heap n0 (Nat.le_trans Z0 le209) g205_1 S__SwitchMap_com_example_ringfence_ringfence_gate_Measure f212 f237 f240 f220 g205_5) hZ55 (wd_69 hw) (wd_2 hw) (by decide) (by decide)) q241a q241c (by rw [hml]; rfl) [(.ref G_EXPOSURE)] (lenOf pd_5 rfl) rfl (Nat.le_of_eq rfl) (hb hby at_215) (fun _ _ => ⟨rfl, e234, (by decide : 4 + 0 ≤ _), (by decide : 16 + 0 ≤ _)⟩) (pc' := 218) rfl ?_
       rintro _ _ ⟨T241, L241, k241, n241⟩ X241 ⟨Lc241, hQ241, l241, y241, z241⟩
       dsimp only [Pt.U, Pt.locs, Pt.cells, Pt.slots] at X241 l241 y241 z241 hQ241 ⊢
       subst l241 y241 z241
       obtain ⟨rfl, N241q, e241⟩ := hQ241
       have N242 := Fr.app N233 N241q
       show Runs _ _ _ _ (T241.setTop (mkF m 218 #[.val (.int p0), .val (.int p1), .val (.int p2), .val (.int p3), .val (.ref b20), .val (.ref b36), .val (.int ((p0 &&& (255 : Int32)).toUInt32.toUInt16.toUInt32.toInt32)), .val (.int ((p1 &&& (255 : Int32)).toUInt32.toUInt16.toUInt32.toInt32)), .val (.int ((p2 &&& (255 : Int32)).toUInt32.toUInt16.toUInt32.toInt32)), .val (.int (p3 &&& (3 : Int32))), .val (.ref a55), .val (.ref a55)] [(.ref G_ZERO), (.ref G_ZERO)]))
       refine w_acmp X241 hx (hb hby at_218) (same := true) rfl rfl (decide_eq_true rfl) (pc' := 221) (by decide) (by decide) ?_
       refine w_aload X241 hx (hb hby at_221) rfl rfl (pc' := 223) rfl ?_
       refine w_getS X241 hx "" hZ55 hown55 (Or.inl (wd_84 hw)) Via.refl e241 (S_EXPOSURE.ext f212.2) (hb hby at_223) (pc' := 226) rfl ?_
       intro T243 X243 e243
       obtain ⟨cq244, kq244, q244a, q244b, q244c⟩ := isOf hZ55 e243 g205_0
       refine w_virtual X243 hx (y := yn_10) (z := yn_10) hown55 (mvT hZ55 (wd_65 hw)) (mvT hZ55 (wd_66 hw)) (notFace_of_selects (args := #[]) (mvT hZ55 (wd_68 hw))) (mvT hZ55 (wd_68 hw)) (mvT hZ55 (wd_67 hw)) (by decide) (backOf (W := 0) (rm_m10_9 l Z aZ hw [] b36 G_EXPOSURE G__SwitchMap_com_example_ringfence_ringfence_gate_Measure k_G__SwitchMap_com_example_ringfence_ringfence_gate_Measure G_ZERO T205.heap n0 (Nat.le_trans Z0 le209) g205_1 S__SwitchMap_com_example_ringfence_ringfence_gate_Measure f212 f237 f240 f220 g205_5) hZ55 (wd_69 hw) (wd_2 hw) (by decide) (by decide)) q244a q244c (by rw [hml]; rfl) [(.ref G_EXPOSURE)] (lenOf pd_5 rfl) rfl (Nat.le_of_eq rfl) (hb hby at_226) (fun _ _ => ⟨rfl, e243, (by decide : 4 + 0 ≤ _), (by decide : 16 + 0 ≤ _)⟩) (pc' := 229) rfl ?_
       rintro _ _ ⟨T244, L244, k244, n244⟩ X244 ⟨Lc244, hQ244, l244, y244, z244⟩
       dsimp only [Pt.U, Pt.locs, Pt.cells, Pt.slots] at X244 l244 y244 z244 hQ244 ⊢
       subst l244 y244 z244
       obtain ⟨rfl, N244q, e244⟩ := hQ244
       have N245 := Fr.app N242 N244q
       show Runs _ _ _ _ (T244.setTop (mkF m 229 #[.val (.int p0), .val (.int p1), .val (.int p2), .val (.int p3), .val (.ref b20), .val (.ref b36), .val (.int ((p0 &&& (255 : Int32)).toUInt32.toUInt16.toUInt32.toInt32)), .val (.int ((p1 &&& (255 : Int32)).toUInt32.toUInt16.toUInt32.toInt32)), .val (.int ((p2 &&& (255 : Int32)).toUInt32.toUInt16.toUInt32.toInt32)), .val (.int (p3 &&& (3 : Int32))), .val (.ref a55), .val (.ref a55)] [(.ref G_ZERO)]))
       refine w_aload X244 hx (hb hby at_229) rfl rfl (pc' := 231) rfl ?_
       refine w_getS X244 hx "" hZ55 hown55 (Or.inl (wd_84 hw)) Via.refl e244 (S_EXPOSURE.ext f212.2) (hb hby at_231) (pc' := 234) rfl ?_
       intro T246 X246 e246
       have ne251 : b20 ≠ b36 := (Nat.ne_of_lt (Nat.lt_of_lt_of_le A20.lt (Nat.le_trans K32.1 (Nat.le_of_eq g36.symm))))
       have f252 : Fld Z T205.heap b20 kc0 "unrated" "Ljava/lang/String;" .null := (((((g32_6.ext E36).keep K50 (ninS ne251 nin0)).ext E55).keep K198 (ninS ne251 nin0)).keep K205 (ninS ne251 nin0))
       have f253 : Fld Z T205.heap b20 kc0 "exposure" "Ljava/math/BigDecimal;" (.ref G_ZERO) := (((((g32_4.ext E36).keep K50 (ninS ne251 nin0)).ext E55).keep K198 (ninS ne251 nin0)).keep K205 (ninS ne251 nin0))
       have f255 : Exa Z T205.heap b20 kc0 := (((((g32_0.ext E36).keep K50).ext E55).keep K198).keep K205)
       obtain ⟨cq254, kq254, q254a, q254b, q254c⟩ := isOf hZ55 e246 f255
       refine w_virtual X246 hx (y := yn_10) (z := yn_10) hown55 (mvT hZ55 (wd_65 hw)) (mvT hZ55 (wd_66 hw)) (notFace_of_selects (args := #[]) (mvT hZ55 (wd_68 hw))) (mvT hZ55 (wd_68 hw)) (mvT hZ55 (wd_67 hw)) (by decide) (backOf (W := 1) (rm_m10_9 l Z aZ hw [] b20 G_EXPOSURE G__SwitchMap_com_example_ringfence_ringfence_gate_Measure k_G__SwitchMap_com_example_ringfence_ringfence_gate_Measure G_ZERO T205.heap n0 (Nat.le_trans Z0 le209) f252 S__SwitchMap_com_example_ringfence_ringfence_gate_Measure f212 f237 f240 f220 f253) hZ55 (wd_69 hw) (wd_2 hw) (by decide) (by decide)) q254a q254c (by rw [hml]; rfl) [(.ref G_EXPOSURE)] (lenOf pd_5 rfl) rfl (Nat.le_of_eq rfl) (hb hby at_234) (fun _ _ => ⟨rfl, e246, (by decide : 4 + 0 ≤ _), (by decide : 16 + 0 ≤ _)⟩) (pc' := 237) rfl ?_
       rintro _ _ ⟨T254, L254, k254, n254⟩ X254 ⟨Lc254, hQ254, l254, y254, z254⟩
       dsimp only [Pt.U, Pt.locs, Pt.cells, Pt.slots] at X254 l254 y254 z254 hQ254 ⊢
       subst l254 y254 z254
       obtain ⟨rfl, N254q, e254⟩ := hQ254
       have N256 := Fr.app N245 N254q
       show Runs _ _ _ _ (T254.setTop (mkF m 237 #[.val (.int p0), .val (.int p1), .val (.int p2), .val (.int p3), .val (.ref b20), .val (.ref b36), .val (.int ((p0 &&& (255 : Int32)).toUInt32.toUInt16.toUInt32.toInt32)), .val (.int ((p1 &&& (255 : Int32)).toUInt32.toUInt16.toUInt32.toInt32)), .val (.int ((p2 &&& (255 : Int32)).toUInt32.toUInt16.toUInt32.toInt32)), .val (.int (p3 &&& (3 : Int32))), .val (.ref a55), .val (.ref a55)] [(.ref G_ZERO), (.ref G_ZERO)]))
       refine w_acmp X254 hx (hb hby at_237) (same := true) rfl rfl (decide_eq_true rfl) (pc' := 240) (by decide) (by decide) ?_
       refine w_iconst X254 hx (hb hby at_240) (v := (1 : Int32)) rfl (pc' := 241) rfl ?_
       refine w_goto X254 hx (hb hby at_241) (pc' := 245) (by decide) (by decide) ?_
       have le257 : h55.size ≤ T205.heap.size := (Nat.le_trans K198.1 K205.1)
       exact w_doneH X254 hlk (v := some (.int (1 : Int32))) e254 hh hZ55 (own_EW hw) hS55 (Nat.le_trans hk55 le257) C207 (fun h => by rw [hret] at h; cases h) (fun fs hr => retN X254 hx (t := .boolean) hret (by simp) (hb hby at_245) hr) (by decide) (by decide) (fun hsy => ⟨rfl, N256⟩)
     · refine w_ifN X198 hx (hb hby at_162) (feq hc202).1 (pc' := 165) rfl ?_
       refine w_aload X198 hx (hb hby at_165) rfl rfl (pc' := 167) rfl ?_
       have f258 : Old Z n0 T198.heap := (((f48.keep K50 (allS ge37 all0)).ext E55).keep K198 (allS ge37 all0))
       have le259 : h0.size ≤ T198.heap.size := (Nat.le_trans le197 K198.1)
       obtain ⟨cq260, kq260, q260a, q260b, q260c⟩ := isOf hZ55 rfl g198_0
       refine w_virtual X198 hx (y := yn_8) (z := yn_8) hown55 (mvT hZ55 (wd_52 hw)) (mvT hZ55 (wd_53 hw)) (notFace_of_selects (args := #[]) (mvT hZ55 (wd_55 hw))) (mvT hZ55 (wd_55 hw)) (mvT hZ55 (wd_54 hw)) (by decide) (backOf (W := 0) (rm_m8_12 l Z aZ hw [] b36 a55 G_ZERO T198.heap n0 (Nat.le_trans Z0 le259) g198_0 g198_1 ge37 S_ZERO f258 g198_2 g198_3 g198_4 g198_5 g198_6) hZ55 (wd_56 hw) (wd_2 hw) (by decide) (by decide)) q260a q260c (by rw [hml]; rfl) [] (lenOf pd_2 rfl) rfl (Nat.le_of_eq rfl) (hb hby at_167) (fun _ _ => ⟨rfl, rfl, (by decide : 4 + 0 ≤ _), (by decide : 16 + 0 ≤ _)⟩) (pc' := 170) rfl ?_
       rintro _ _ ⟨T260, L260, k260, n260⟩ X260 ⟨Lc260, hQ260, l260, y260, z260⟩
       dsimp only [Pt.U, Pt.locs, Pt.cells, Pt.slots] at X260 l260 y260 z260 hQ260 ⊢
       subst l260 y260 z260
       obtain ⟨rfl, N260q, K260, g260_0, g260_1, g260_2, g260_3, g260_4, g260_5, g260_6⟩ := hQ260
       have N261 := Fr.app N199 N260q
       have C262 : CHr Z EL s.vm h0 T55.vm T260.heap := C200.trans (CHr.keep K260 (sfS (Safe.exa hZ55.alike g198_0 (by decide) (by decide)) sf0) C200.1)
       have K263 : Keep h0 T260.heap [] := K201.trans K260 (allS (Or.inr sz39) (all0 (P := fun x => x ∈ [] ∨ h0.size ≤ x)))
       show Runs _ _ _ _ (T260.setTop (mkF m 170 #[.val (.int p0), .val (.int p1), .val (.int p2), .val (.int p3), .val (.ref b20), .val (.ref b36), .val (.int ((p0 &&& (255 : Int32)).toUInt32.toUInt16.toUInt32.toInt32)), .val (.int ((p1 &&& (255 : Int32)).toUInt32.toUInt16.toUInt32.toInt32)), .val (.int ((p2 &&& (255 : Int32)).toUInt32.toUInt16.toUInt32.toInt32)), .val (.int (p3 &&& (3 : Int32))), .val (.ref a55), .val (.ref a55)] []))
       refine w_aload X260 hx (hb hby at_170) rfl rfl (pc' := 172) rfl ?_
       have f264 : Old Z n0 T260.heap := (f258.keep K260 (allS ge37 all0))
       have le265 : h0.size ≤ T260.heap.size := (Nat.le_trans le259 K260.1)
       obtain ⟨cq266, kq266, q266a, q266b, q266c⟩ := isOf hZ55 rfl g260_0
       refine w_virtual X260 hx (y := yn_8) (z := yn_8) hown55 (mvT hZ55 (wd_52 hw)) (mvT hZ55 (wd_53 hw)) (notFace_of_selects (args := #[]) (mvT hZ55 (wd_55 hw))) (mvT hZ55 (wd_55 hw)) (mvT hZ55 (wd_54 hw)) (by decide) (backOf (W := 0) (rm_m8_3 l Z aZ hw [] b36 G_ZERO T260.heap n0 (Nat.le_trans Z0 le265) g260_0 g260_1 ge37 S_ZERO f264 g260_2 g260_3 g260_4 g260_5 g260_6) hZ55 (wd_56 hw) (wd_2 hw) (by decide) (by decide)) q266a q266c (by rw [hml]; rfl) [] (lenOf pd_2 rfl) rfl (Nat.le_of_eq rfl) (hb hby at_172) (fun _ _ => ⟨rfl, rfl, (by decide : 4 + 0 ≤ _), (by decide : 16 + 0 ≤ _)⟩) (pc' := 175) rfl ?_
       rintro _ _ ⟨T266, L266, k266, n266⟩ X266 ⟨Lc266, hQ266, l266, y266, z266⟩
       dsimp only [Pt.U, Pt.locs, Pt.cells, Pt.slots] at X266 l266 y266 z266 hQ266 ⊢
       subst l266 y266 z266
       obtain ⟨rfl, N266q, K266, g266_0, g266_1, g266_2, g266_3, g266_4, g266_5, g266_6⟩ := hQ266
       have N267 := Fr.app N261 N266q
       have C268 : CHr Z EL s.vm h0 T55.vm T266.heap := C262.trans (CHr.keep K266 (sfS (Safe.exa hZ55.alike g260_0 (by decide) (by decide)) sf0) C262.1)
       have K269 : Keep h0 T266.heap [] := K263.trans K266 (allS (Or.inr sz39) (all0 (P := fun x => x ∈ [] ∨ h0.size ≤ x)))
       show Runs _ _ _ _ (T266.setTop (mkF m 175 #[.val (.int p0), .val (.int p1), .val (.int p2), .val (.int p3), .val (.ref b20), .val (.ref b36), .val (.int ((p0 &&& (255 : Int32)).toUInt32.toUInt16.toUInt32.toInt32)), .val (.int ((p1 &&& (255 : Int32)).toUInt32.toUInt16.toUInt32.toInt32)), .val (.int ((p2 &&& (255 : Int32)).toUInt32.toUInt16.toUInt32.toInt32)), .val (.int (p3 &&& (3 : Int32))), .val (.ref a55), .val (.ref a55)] []))
       refine w_aload X266 hx (hb hby at_175) rfl rfl (pc' := 177) rfl ?_
       have le270 : h0.size ≤ T266.heap.size := (Nat.le_trans le265 K266.1)
       obtain ⟨cq271, kq271, q271a, q271b, q271c⟩ := isOf hZ55 rfl g266_0
       refine w_virtual X266 hx (y := yn_9) (z := yn_9) hown55 (mvT hZ55 (wd_57 hw)) (mvT hZ55 (wd_58 hw)) (notFace_of_selects (args := #[]) (mvT hZ55 (wd_60 hw))) (mvT hZ55 (wd_60 hw)) (mvT hZ55 (wd_59 hw)) (by decide) (backOf (W := 0) (rm_m9_4 l Z aZ hw [] b36 T266.heap n0 (Nat.le_trans Z0 le270) g266_1) hZ55 (wd_61 hw) (wd_2 hw) (by decide) (by decide)) q271a q271c (by rw [hml]; rfl) [] (lenOf pd_3 rfl) rfl (Nat.le_of_eq rfl) (hb hby at_177) (fun _ _ => ⟨rfl, rfl, (by decide : 4 + 0 ≤ _), (by decide : 16 + 0 ≤ _)⟩) (pc' := 180) rfl ?_
       rintro _ _ ⟨T271, L271, k271, n271⟩ X271 ⟨Lc271, hQ271, l271, y271, z271⟩
       dsimp only [Pt.U, Pt.locs, Pt.cells, Pt.slots] at X271 l271 y271 z271 hQ271 ⊢
       subst l271 y271 z271
       obtain ⟨rfl, N271q, e271⟩ := hQ271
       have N272 := Fr.app N267 N271q
       show Runs _ _ _ _ (T271.setTop (mkF m 180 #[.val (.int p0), .val (.int p1), .val (.int p2), .val (.int p3), .val (.ref b20), .val (.ref b36), .val (.int ((p0 &&& (255 : Int32)).toUInt32.toUInt16.toUInt32.toInt32)), .val (.int ((p1 &&& (255 : Int32)).toUInt32.toUInt16.toUInt32.toInt32)), .val (.int ((p2 &&& (255 : Int32)).toUInt32.toUInt16.toUInt32.toInt32)), .val (.int (p3 &&& (3 : Int32))), .val (.ref a55), .val (.ref a55)] [.null]))
       refine w_ifnonnullN X271 hx (hb hby at_180) (pc' := 183) rfl ?_
       refine w_aload X271 hx (hb hby at_183) rfl rfl (pc' := 185) rfl ?_
       have f273 : Old Z n0 T266.heap := (f264.keep K266 (allS ge37 all0))
       refine w_getS X271 hx "" hZ55 hown55 (Or.inl (wd_62 hw)) Via.refl e271 (S_DOWNSIDE.ext f273.2) (hb hby at_185) (pc' := 188) rfl ?_
       intro T274 X274 e274
       have f275 : Exa Z T266.heap G_DOWNSIDE kc4 := ((((((((E_G_DOWNSIDE.ext E20).keep K32).ext E36).keep K50).ext E55).keep K198).keep K260).keep K266)
       have ne276 : G_DOWNSIDE ≠ b20 := (Nat.ne_of_lt (Nat.lt_of_lt_of_le E_G_DOWNSIDE.lt (Nat.le_trans (Nat.le_refl _) (Nat.le_of_eq g20.symm))))
       have ne277 : G_DOWNSIDE ≠ b36 := (Nat.ne_of_lt (Nat.lt_of_lt_of_le E_G_DOWNSIDE.lt (Nat.le_trans le38 (Nat.le_of_eq g36.symm))))
       have f278 : Fld Z T266.heap G_DOWNSIDE kc3 "ordinal" "I" (.int (1 : Int32)) := ((((((((F_ordinal_G_DOWNSIDE.ext E20).keep K32 (ninS ne276 nin0)).ext E36).keep K50 (ninS ne277 nin0)).ext E55).keep K198 (ninS ne277 nin0)).keep K260 (ninS ne277 nin0)).keep K266 (ninS ne277 nin0))
       have ne279 : G__SwitchMap_com_example_ringfence_ringfence_gate_Measure ≠ b20 := (Nat.ne_of_lt (Nat.lt_of_lt_of_le V_G__SwitchMap_com_example_ringfence_ringfence_gate_Measure.lt (Nat.le_trans (Nat.le_refl _) (Nat.le_of_eq g20.symm))))
       have ne280 : G__SwitchMap_com_example_ringfence_ringfence_gate_Measure ≠ b36 := (Nat.ne_of_lt (Nat.lt_of_lt_of_le V_G__SwitchMap_com_example_ringfence_ringfence_gate_Measure.lt (Nat.le_trans le38 (Nat.le_of_eq g36.symm))))
       have f281 : Arv Z T266.heap G__SwitchMap_com_example_ringfence_ringfence_gate_Measure k_G__SwitchMap_com_example_ringfence_ringfence_gate_Measure .int (5 : Int32) [(.int (1 : Int32)), (.int (2 : Int32)), (.int (3 : Int32)), (.int (4 : Int32)), (.int (5 : Int32))] (.int (0 : Int32)) := ((((((((V_G__SwitchMap_com_example_ringfence_ringfence_gate_Measure.ext E20).keep K32 (ninS ne279 nin0)).ext E36).keep K50 (ninS ne280 nin0)).ext E55).keep K198 (ninS ne280 nin0)).keep K260 (ninS ne280 nin0)).keep K266 (ninS ne280 nin0))
       obtain ⟨cq282, kq282, q282a, q282b, q282c⟩ := isOf hZ55 e274 g266_0
       refine w_virtual X274 hx (y := yn_10) (z := yn_10) hown55 (mvT hZ55 (wd_65 hw)) (mvT hZ55 (wd_66 hw)) (notFace_of_selects (args := #[]) (mvT hZ55 (wd_68 hw))) (mvT hZ55 (wd_68 hw)) (mvT hZ55 (wd_67 hw)) (by decide) (backOf (W := 0) (rm_m10_5 l Z aZ hw [] b36 G_DOWNSIDE G__SwitchMap_com_example_ringfence_ringfence_gate_Measure k_G__SwitchMap_com_example_ringfence_ringfence_gate_Measure G_ZERO T266.heap n0 (Nat.le_trans Z0 le270) g266_1 S__SwitchMap_com_example_ringfence_ringfence_gate_Measure f273 f275 f278 f281 g266_3) hZ55 (wd_69 hw) (wd_2 hw) (by decide) (by decide)) q282a q282c (by rw [hml]; rfl) [(.ref G_DOWNSIDE)] (lenOf pd_5 rfl) rfl (Nat.le_of_eq rfl) (hb hby at_188) (fun _ _ => ⟨rfl, e274, (by decide : 4 + 0 ≤ _), (by decide : 16 + 0 ≤ _)⟩) (pc' := 191) rfl ?_
       rintro _ _ ⟨T282, L282, k282, n282⟩ X282 ⟨Lc282, hQ282, l282, y282, z282⟩
       dsimp only [Pt.U, Pt.locs, Pt.cells, Pt.slots] at X282 l282 y282 z282 hQ282 ⊢
       subst l282 y282 z282
       obtain ⟨rfl, N282q, e282⟩ := hQ282
       have N283 := Fr.app N272 N282q
       show Runs _ _ _ _ (T282.setTop (mkF m 191 #[.val (.int p0), .val (.int p1), .val (.int p2), .val (.int p3), .val (.ref b20), .val (.ref b36), .val (.int ((p0 &&& (255 : Int32)).toUInt32.toUInt16.toUInt32.toInt32)), .val (.int ((p1 &&& (255 : Int32)).toUInt32.toUInt16.toUInt32.toInt32)), .val (.int ((p2 &&& (255 : Int32)).toUInt32.toUInt16.toUInt32.toInt32)), .val (.int (p3 &&& (3 : Int32))), .val (.ref a55), .val (.ref a55)] [(.ref G_ZERO)]))
       refine w_aload X282 hx (hb hby at_191) rfl rfl (pc' := 193) rfl ?_
       refine w_getS X282 hx "" hZ55 hown55 (Or.inl (wd_82 hw)) Via.refl e282 (S_UPSIDE.ext f273.2) (hb hby at_193) (pc' := 196) rfl ?_
       intro T284 X284 e284
       have f286 : Exa Z T266.heap G_UPSIDE kc4 := ((((((((E_G_UPSIDE.ext E20).keep K32).ext E36).keep K50).ext E55).keep K198).keep K260).keep K266)
       have ne287 : G_UPSIDE ≠ b20 := (Nat.ne_of_lt (Nat.lt_of_lt_of_le E_G_UPSIDE.lt (Nat.le_trans (Nat.le_refl _) (Nat.le_of_eq g20.symm))))
       have ne288 : G_UPSIDE ≠ b36 := (Nat.ne_of_lt (Nat.lt_of_lt_of_le E_G_UPSIDE.lt (Nat.le_trans le38 (Nat.le_of_eq g36.symm))))
       have f289 : Fld Z T266.heap G_UPSIDE kc3 "ordinal" "I" (.int (2 : Int32)) := ((((((((F_ordinal_G_UPSIDE.ext E20).keep K32 (ninS ne287 nin0)).ext E36).keep K50 (ninS ne288 nin0)).ext E55).keep K198 (ninS ne288 nin0)).keep K260 (ninS ne288 nin0)).keep K266 (ninS ne288 nin0))
       obtain ⟨cq290, kq290, q290a, q290b, q290c⟩ := isOf hZ55 e284 g266_0
       refine w_virtual X284 hx (y := yn_10) (z := yn_10) hown55 (mvT hZ55 (wd_65 hw)) (mvT hZ55 (wd_66 hw)) (notFace_of_selects (args := #[]) (mvT hZ55 (wd_68 hw))) (mvT hZ55 (wd_68 hw)) (mvT hZ55 (wd_67 hw)) (by decide) (backOf (W := 1) (rm_m10_7 l Z aZ hw [] b36 G_UPSIDE G__SwitchMap_com_example_ringfence_ringfence_gate_Measure k_G__SwitchMap_com_example_ringfence_ringfence_gate_Measure G_ZERO T266.heap n0 (Nat.le_trans Z0 le270) g266_1 S__SwitchMap_com_example_ringfence_ringfence_gate_Measure f273 f286 f289 f281 g266_4) hZ55 (wd_69 hw) (wd_2 hw) (by decide) (by decide)) q290a q290c (by rw [hml]; rfl) [(.ref G_UPSIDE)] (lenOf pd_5 rfl) rfl (Nat.le_of_eq rfl) (hb hby at_196) (fun _ _ => ⟨rfl, e284, (by decide : 4 + 0 ≤ _), (by decide : 16 + 0 ≤ _)⟩) (pc' := 199) rfl ?_
       rintro _ _ ⟨T290, L290, k290, n290⟩ X290 ⟨Lc290, hQ290, l290, y290, z290⟩
       dsimp only [Pt.U, Pt.locs, Pt.cells, Pt.slots] at X290 l290 y290 z290 hQ290 ⊢
       subst l290 y290 z290
       obtain ⟨rfl, N290q, e290⟩ := hQ290
       have N291 := Fr.app N283 N290q
       show Runs _ _ _ _ (T290.setTop (mkF m 199 #[.val (.int p0), .val (.int p1), .val (.int p2), .val (.int p3), .val (.ref b20), .val (.ref b36), .val (.int ((p0 &&& (255 : Int32)).toUInt32.toUInt16.toUInt32.toInt32)), .val (.int ((p1 &&& (255 : Int32)).toUInt32.toUInt16.toUInt32.toInt32)), .val (.int ((p2 &&& (255 : Int32)).toUInt32.toUInt16.toUInt32.toInt32)), .val (.int (p3 &&& (3 : Int32))), .val (.ref a55), .val (.ref a55)] [(.ref G_ZERO), (.ref G_ZERO)]))
       refine w_acmp X290 hx (hb hby at_199) (same := true) rfl rfl (decide_eq_true rfl) (pc' := 202) (by decide) (by decide) ?_
       refine w_aload X290 hx (hb hby at_202) rfl rfl (pc' := 204) rfl ?_
       refine w_getS X290 hx "" hZ55 hown55 (Or.inl (wd_82 hw)) Via.refl e290 (S_UPSIDE.ext f273.2) (hb hby at_204) (pc' := 207) rfl ?_
       intro T292 X292 e292
       obtain ⟨cq293, kq293, q293a, q293b, q293c⟩ := isOf hZ55 e292 g266_0
       refine w_virtual X292 hx (y := yn_10) (z := yn_10) hown55 (mvT hZ55 (wd_65 hw)) (mvT hZ55 (wd_66 hw)) (notFace_of_selects (args := #[]) (mvT hZ55 (wd_68 hw))) (mvT hZ55 (wd_68 hw)) (mvT hZ55 (wd_67 hw)) (by decide) (backOf (W := 0) (rm_m10_7 l Z aZ hw [] b36 G_UPSIDE G__SwitchMap_com_example_ringfence_ringfence_gate_Measure k_G__SwitchMap_com_example_ringfence_ringfence_gate_Measure G_ZERO T266.heap n0 (Nat.le_trans Z0 le270) g266_1 S__SwitchMap_com_example_ringfence_ringfence_gate_Measure f273 f286 f289 f281 g266_4) hZ55 (wd_69 hw) (wd_2 hw) (by decide) (by decide)) q293a q293c (by rw [hml]; rfl) [(.ref G_UPSIDE)] (lenOf pd_5 rfl) rfl (Nat.le_of_eq rfl) (hb hby at_207) (fun _ _ => ⟨rfl, e292, (by decide : 4 + 0 ≤ _), (by decide : 16 + 0 ≤ _)⟩) (pc' := 210) rfl ?_
       rintro _ _ ⟨T293, L293, k293, n293⟩ X293 ⟨Lc293, hQ293, l293, y293, z293⟩
       dsimp only [Pt.U, Pt.locs, Pt.cells, Pt.slots] at X293 l293 y293 z293 hQ293 ⊢
       subst l293 y293 z293
       obtain ⟨rfl, N293q, e293⟩ := hQ293
       have N294 := Fr.app N291 N293q
       show Runs _ _ _ _ (T293.setTop (mkF m 210 #[.val (.int p0), .val (.int p1), .val (.int p2), .val (.int p3), .val (.ref b20), .val (.ref b36), .val (.int ((p0 &&& (255 : Int32)).toUInt32.toUInt16.toUInt32.toInt32)), .val (.int ((p1 &&& (255 : Int32)).toUInt32.toUInt16.toUInt32.toInt32)), .val (.int ((p2 &&& (255 : Int32)).toUInt32.toUInt16.toUInt32.toInt32)), .val (.int (p3 &&& (3 : Int32))), .val (.ref a55), .val (.ref a55)] [(.ref G_ZERO)]))
       refine w_aload X293 hx (hb hby at_210) rfl rfl (pc' := 212) rfl ?_
       refine w_getS X293 hx "" hZ55 hown55 (Or.inl (wd_84 hw)) Via.refl e293 (S_EXPOSURE.ext f273.2) (hb hby at_212) (pc' := 215) rfl ?_
       intro T295 X295 e295
       have f298 : Exa Z T266.heap G_EXPOSURE kc4 := ((((((((E_G_EXPOSURE.ext E20).keep K32).ext E36).keep K50).ext E55).keep K198).keep K260).keep K266)
       have ne299 : G_EXPOSURE ≠ b20 := (Nat.ne_of_lt (Nat.lt_of_lt_of_le E_G_EXPOSURE.lt (Nat.le_trans (Nat.le_refl _) (Nat.le_of_eq g20.symm))))
       have ne300 : G_EXPOSURE ≠ b36 := (Nat.ne_of_lt (Nat.lt_of_lt_of_le E_G_EXPOSURE.lt (Nat.le_trans le38 (Nat.le_of_eq g36.symm))))
       have f301 : Fld Z T266.heap G_EXPOSURE kc3 "ordinal" "I" (.int (3 : Int32)) := ((((((((F_ordinal_G_EXPOSURE.ext E20).keep K32 (ninS ne299 nin0)).ext E36).keep K50 (ninS ne300 nin0)).ext E55).keep K198 (ninS ne300 nin0)).keep K260 (ninS ne300 nin0)).keep K266 (ninS ne300 nin0))
       obtain ⟨cq302, kq302, q302a, q302b, q302c⟩ := isOf hZ55 e295 g266_0
       refine w_virtual X295 hx (y := yn_10) (z := yn_10) hown55 (mvT hZ55 (wd_65 hw)) (mvT hZ55 (wd_66 hw)) (notFace_of_selects (args := #[]) (mvT hZ55 (wd_68 hw))) (mvT hZ55 (wd_68 hw)) (mvT hZ55 (wd_67 hw)) (by decide) (backOf (W := 1) (rm_m10_9 l Z aZ hw [] b36 G_EXPOSURE G__SwitchMap_com_example_ringfence_ringfence_gate_Measure k_G__SwitchMap_com_example_ringfence_ringfence_gate_Measure G_ZERO T266.heap n0 (Nat.le_trans Z0 le270) g266_1 S__SwitchMap_com_example_ringfence_ringfence_gate_Measure f273 f298 f301 f281 g266_5) hZ55 (wd_69 hw) (wd_2 hw) (by decide) (by decide)) q302a q302c (by rw [hml]; rfl) [(.ref G_EXPOSURE)] (lenOf pd_5 rfl) rfl (Nat.le_of_eq rfl) (hb hby at_215) (fun _ _ => ⟨rfl, e295, (by decide : 4 + 0 ≤ _), (by decide : 16 + 0 ≤ _)⟩) (pc' := 218) rfl ?_
       rintro _ _ ⟨T302, L302, k302, n302⟩ X302 ⟨Lc302, hQ302, l302, y302, z302⟩
       dsimp only [Pt.U, Pt.locs, Pt.cells, Pt.slots] at X302 l302 y302 z302 hQ302 ⊢
       subst l302 y302 z302
       obtain ⟨rfl, N302q, e302⟩ := hQ302
       have N303 := Fr.app N294 N302q
       show Runs _ _ _ _ (T302.setTop (mkF m 218 #[.val (.int p0), .val (.int p1), .val (.int p2), .val (.int p3), .val (.ref b20), .val (.ref b36), .val (.int ((p0 &&& (255 : Int32)).toUInt32.toUInt16.toUInt32.toInt32)), .val (.int ((p1 &&& (255 : Int32)).toUInt32.toUInt16.toUInt32.toInt32)), .val (.int ((p2 &&& (255 : Int32)).toUInt32.toUInt16.toUInt32.toInt32)), .val (.int (p3 &&& (3 : Int32))), .val (.ref a55), .val (.ref a55)] [(.ref G_ZERO), (.ref G_ZERO)]))
       refine w_acmp X302 hx (hb hby at_218) (same := true) rfl rfl (decide_eq_true rfl) (pc' := 221) (by decide) (by decide) ?_
       refine w_aload X302 hx (hb hby at_221) rfl rfl (pc' := 223) rfl ?_
       refine w_getS X302 hx "" hZ55 hown55 (Or.inl (wd_84 hw)) Via.refl e302 (S_EXPOSURE.ext f273.2) (hb hby at_223) (pc' := 226) rfl ?_
       intro T304 X304 e304
       obtain ⟨cq305, kq305, q305a, q305b, q305c⟩ := isOf hZ55 e304 g266_0
       refine w_virtual X304 hx (y := yn_10) (z := yn_10) hown55 (mvT hZ55 (wd_65 hw)) (mvT hZ55 (wd_66 hw)) (notFace_of_selects (args := #[]) (mvT hZ55 (wd_68 hw))) (mvT hZ55 (wd_68 hw)) (mvT hZ55 (wd_67 hw)) (by decide) (backOf (W := 0) (rm_m10_9 l Z aZ hw [] b36 G_EXPOSURE G__SwitchMap_com_example_ringfence_ringfence_gate_Measure k_G__SwitchMap_com_example_ringfence_ringfence_gate_Measure G_ZERO T266.heap n0 (Nat.le_trans Z0 le270) g266_1 S__SwitchMap_com_example_ringfence_ringfence_gate_Measure f273 f298 f301 f281 g266_5) hZ55 (wd_69 hw) (wd_2 hw) (by decide) (by decide)) q305a q305c (by rw [hml]; rfl) [(.ref G_EXPOSURE)] (lenOf pd_5 rfl) rfl (Nat.le_of_eq rfl) (hb hby at_226) (fun _ _ => ⟨rfl, e304, (by decide : 4 + 0 ≤ _), (by decide : 16 + 0 ≤ _)⟩) (pc' := 229) rfl ?_
       rintro _ _ ⟨T305, L305, k305, n305⟩ X305 ⟨Lc305, hQ305, l305, y305, z305⟩
       dsimp only [Pt.U, Pt.locs, Pt.cells, Pt.slots] at X305 l305 y305 z305 hQ305 ⊢
       subst l305 y305 z305
       obtain ⟨rfl, N305q, e305⟩ := hQ305
       have N306 := Fr.app N303 N305q
       show Runs _ _ _ _ (T305.setTop (mkF m 229 #[.val (.int p0), .val (.int p1), .val (.int p2), .val (.int p3), .val (.ref b20), .val (.ref b36), .val (.int ((p0 &&& (255 : Int32)).toUInt32.toUInt16.toUInt32.toInt32)), .val (.int ((p1 &&& (255 : Int32)).toUInt32.toUInt16.toUInt32.toInt32)), .val (.int ((p2 &&& (255 : Int32)).toUInt32.toUInt16.toUInt32.toInt32)), .val (.int (p3 &&& (3 : Int32))), .val (.ref a55), .val (.ref a55)] [(.ref G_ZERO)]))
       refine w_aload X305 hx (hb hby at_229) rfl rfl (pc' := 231) rfl ?_
       refine w_getS X305 hx "" hZ55 hown55 (Or.inl (wd_84 hw)) Via.refl e305 (S_EXPOSURE.ext f273.2) (hb hby at_231) (pc' := 234) rfl ?_
       intro T307 X307 e307
       have ne312 : b20 ≠ b36 := (Nat.ne_of_lt (Nat.lt_of_lt_of_le A20.lt (Nat.le_trans K32.1 (Nat.le_of_eq g36.symm))))
       have f313 : Fld Z T266.heap b20 kc0 "unrated" "Ljava/lang/String;" .null := ((((((g32_6.ext E36).keep K50 (ninS ne312 nin0)).ext E55).keep K198 (ninS ne312 nin0)).keep K260 (ninS ne312 nin0)).keep K266 (ninS ne312 nin0))
       have f314 : Fld Z T266.heap b20 kc0 "exposure" "Ljava/math/BigDecimal;" (.ref G_ZERO) := ((((((g32_4.ext E36).keep K50 (ninS ne312 nin0)).ext E55).keep K198 (ninS ne312 nin0)).keep K260 (ninS ne312 nin0)).keep K266 (ninS ne312 nin0))
       have f316 : Exa Z T266.heap b20 kc0 := ((((((g32_0.ext E36).keep K50).ext E55).keep K198).keep K260).keep K266)
       obtain ⟨cq315, kq315, q315a, q315b, q315c⟩ := isOf hZ55 e307 f316
       refine w_virtual X307 hx (y := yn_10) (z := yn_10) hown55 (mvT hZ55 (wd_65 hw)) (mvT hZ55 (wd_66 hw)) (notFace_of_selects (args := #[]) (mvT hZ55 (wd_68 hw))) (mvT hZ55 (wd_68 hw)) (mvT hZ55 (wd_67 hw)) (by decide) (backOf (W := 1) (rm_m10_9 l Z aZ hw [] b20 G_EXPOSURE G__SwitchMap_com_example_ringfence_ringfence_gate_Measure k_G__SwitchMap_com_example_ringfence_ringfence_gate_Measure G_ZERO T266.heap n0 (Nat.le_trans Z0 le270) f313 S__SwitchMap_com_example_ringfence_ringfence_gate_Measure f273 f298 f301 f281 f314) hZ55 (wd_69 hw) (wd_2 hw) (by decide) (by decide)) q315a q315c (by rw [hml]; rfl) [(.ref G_EXPOSURE)] (lenOf pd_5 rfl) rfl (Nat.le_of_eq rfl) (hb hby at_234) (fun _ _ => ⟨rfl, e307, (by decide : 4 + 0 ≤ _), (by decide : 16 + 0 ≤ _)⟩) (pc' := 237) rfl ?_
       rintro _ _ ⟨T315, L315, k315, n315⟩ X315 ⟨Lc315, hQ315, l315, y315, z315⟩
       dsimp only [Pt.U, Pt.locs, Pt.cells, Pt.slots] at X315 l315 y315 z315 hQ315 ⊢
       subst l315 y315 z315
       obtain ⟨rfl, N315q, e315⟩ := hQ315
       have N317 := Fr.app N306 N315q
       show Runs _ _ _ _ (T315.setTop (mkF m 237 #[.val (.int p0), .val (.int p1), .val (.int p2), .val (.int p3), .val (.ref b20), .val (.ref b36), .val (.int ((p0 &&& (255 : Int32)).toUInt32.toUInt16.toUInt32.toInt32)), .val (.int ((p1 &&& (255 : Int32)).toUInt32.toUInt16.toUInt32.toInt32)), .val (.int ((p2 &&& (255 : Int32)).toUInt32.toUInt16.toUInt32.toInt32)), .val (.int (p3 &&& (3 : Int32))), .val (.ref a55), .val (.ref a55)] [(.ref G_ZERO), (.ref G_ZERO)]))
       refine w_acmp X315 hx (hb hby at_237) (same := true) rfl rfl (decide_eq_true rfl) (pc' := 240) (by decide) (by decide) ?_
       refine w_iconst X315 hx (hb hby at_240) (v := (1 : Int32)) rfl (pc' := 241) rfl ?_
       refine w_goto X315 hx (hb hby at_241) (pc' := 245) (by decide) (by decide) ?_
       have le318 : h55.size ≤ T260.heap.size := (Nat.le_trans K198.1 K260.1)
       have le319 : h55.size ≤ T266.heap.size := (Nat.le_trans le318 K266.1)
       exact w_doneH X315 hlk (v := some (.int (1 : Int32))) e315 hh hZ55 (own_EW hw) hS55 (Nat.le_trans hk55 le319) C268 (fun h => by rw [hret] at h; cases h) (fun fs hr => retN X315 hx (t := .boolean) hret (by simp) (hb hby at_245) hr) (by decide) (by decide) (fun hsy => ⟨rfl, N317⟩)
 · refine w_ifY X50 hx (hb hby at_51) (feq hc54).2 (pc' := 61) (by decide) (by decide) ?_
   refine w_iload X50 hx (hb hby at_61) rfl (pc' := 63) rfl ?_
   refine w_iconst X50 hx (hb hby at_63) (v := (1 : Int32)) rfl (pc' := 64) rfl ?_
   by_cases hc320 : (p3 &&& (3 : Int32)) = (1 : Int32)
   · refine w_icN X50 hx (hb hby at_64) (teq hc320).2 (pc' := 67) rfl ?_
     refine w_iload X50 hx (hb hby at_67) rfl (pc' := 69) rfl ?_
     have f321 : Old Z n0 T50.heap := (f48.keep K50 (allS ge37 all0))
     have le322 : h0.size ≤ T50.heap.size := (Nat.le_trans le49 K50.1)
     refine w_static X50 hx (y := yn_3) hown (mvT hZ (wd_21 hw)) (mvT hZ (wd_22 hw)) (mvT hZ (wd_23 hw)) (mvT hZ (wd_24 hw)) (by decide) (backOf (W := 0) (rm_m3_13 l Z aZ hw [] ((p0 &&& (255 : Int32)).toUInt32.toUInt16.toUInt32.toInt32) G_COMPACT_STRINGS T50.heap n0 (Nat.le_trans Z0 le322) S_COMPACT_STRINGS f321 hP_13 (own_and255 p0).2) hZ (wd_24 hw) (wd_23 hw) (by decide) (by decide)) (by rw [hml]; rfl) [(.int ((p0 &&& (255 : Int32)).toUInt32.toUInt16.toUInt32.toInt32))] (lenOf pd_9 rfl) rfl (Nat.le_of_eq rfl) (hb hby at_69) (fun _ _ => ⟨rfl, rfl, (by decide : 2 + 2 ≤ _), (by decide : 12 + 5 ≤ _)⟩) (pc' := 72) rfl ?_
     rintro _ _ ⟨T323, L323, k323, n323⟩ X323 ⟨Lc323, hQ323, l323, y323, z323⟩
     dsimp only [Pt.U, Pt.locs, Pt.cells, Pt.slots] at X323 l323 y323 z323 hQ323 ⊢
     subst l323 y323 z323
     obtain ⟨r0_323, r1_323, c0_323, rfl, N323q, K323, g323_0, g323_1, g323_2, g323_3, g323_4, g323_5⟩ := hQ323
     have N324 := Fr.app N51 N323q
     have C325 : CHr Z EL s.vm h0 s.vm T323.heap := C52.trans (CHr.keep K323 sf0 C52.1)
     have K326 : Keep h0 T323.heap [] := K53.trans K323 (all0 (P := fun x => x ∈ [] ∨ h0.size ≤ x))
     have ge327 : n0 ≤ r0_323 := Nat.le_trans (Nat.le_trans Z0 le322) g323_0
     have sz328 : h0.size ≤ r0_323 := Nat.le_trans le322 g323_0
     have ge329 : n0 ≤ r1_323 := Nat.le_trans (Nat.le_trans Z0 le322) g323_1
     have sz330 : h0.size ≤ r1_323 := Nat.le_trans le322 g323_1
     show Runs _ _ _ _ (T323.setTop (mkF m 72 #[.val (.int p0), .val (.int p1), .val (.int p2), .val (.int p3), .val (.ref b20), .val (.ref b36), .val (.int ((p0 &&& (255 : Int32)).toUInt32.toUInt16.toUInt32.toInt32)), .val (.int ((p1 &&& (255 : Int32)).toUInt32.toUInt16.toUInt32.toInt32)), .val (.int ((p2 &&& (255 : Int32)).toUInt32.toUInt16.toUInt32.toInt32)), .val (.int (p3 &&& (3 : Int32))), .unset, .unset] [(.ref r0_323)]))
     refine w_astore X323 hx (hb hby at_72) rfl (L' := #[.val (.int p0), .val (.int p1), .val (.int p2), .val (.int p3), .val (.ref b20), .val (.ref b36), .val (.int ((p0 &&& (255 : Int32)).toUInt32.toUInt16.toUInt32.toInt32)), .val (.int ((p1 &&& (255 : Int32)).toUInt32.toUInt16.toUInt32.toInt32)), .val (.int ((p2 &&& (255 : Int32)).toUInt32.toUInt16.toUInt32.toInt32)), .val (.int (p3 &&& (3 : Int32))), .val (.ref r0_323), .unset]) rfl (pc' := 74) rfl ?_
     refine w_goto X323 hx (hb hby at_74) (pc' := 135) (by decide) (by decide) ?_
     refine w_iloadN X323 hx (hb hby at_135) rfl (pc' := 136) rfl ?_
     refine w_iconst X323 hx (hb hby at_136) (v := (2 : Int32)) rfl (pc' := 137) rfl ?_
     refine w_ishr X323 hx (hb hby at_137) (pc' := 138) rfl ?_
     refine w_iconst X323 hx (hb hby at_138) (v := (1 : Int32)) rfl (pc' := 139) rfl ?_
     refine w_iand X323 hx (hb hby at_139) (pc' := 140) rfl ?_
     by_cases hc331 : ((p3 >>> ((2 : Int32) &&& 31)) &&& (1 : Int32)) = (0 : Int32)
     · refine w_ifY X323 hx (hb hby at_140) (teq hc331).1 (pc' := 148) (by decide) (by decide) ?_
       refine w_null X323 hx (hb hby at_148) (pc' := 149) rfl ?_
       refine w_astore X323 hx (hb hby at_149) rfl (L' := #[.val (.int p0), .val (.int p1), .val (.int p2), .val (.int p3), .val (.ref b20), .val (.ref b36), .val (.int ((p0 &&& (255 : Int32)).toUInt32.toUInt16.toUInt32.toInt32)), .val (.int ((p1 &&& (255 : Int32)).toUInt32.toUInt16.toUInt32.toInt32)), .val (.int ((p2 &&& (255 : Int32)).toUInt32.toUInt16.toUInt32.toInt32)), .val (.int (p3 &&& (3 : Int32))), .val (.ref r0_323), .val .null]) rfl (pc' := 151) rfl ?_
       refine w_aload X323 hx (hb hby at_151) rfl rfl (pc' := 153) rfl ?_
       refine w_aload X323 hx (hb hby at_153) rfl rfl (pc' := 155) rfl ?_
       have f332 : Exa Z T323.heap b36 kc0 := (g50_0.keep K323)
       have f333 : Fld Z T323.heap b36 kc0 "unrated" "Ljava/lang/String;" .null := (g50_6.keep K323 nin0)
       have f334 : Fld Z T323.heap b36 kc0 "open" "Ljava/math/BigDecimal;" (.ref G_ZERO) := (g50_1.keep K323 nin0)
       have f335 : Fld Z T323.heap b36 kc0 "downside" "Ljava/math/BigDecimal;" (.ref G_ZERO) := (g50_2.keep K323 nin0)
       have f336 : Fld Z T323.heap b36 kc0 "upside" "Ljava/math/BigDecimal;" (.ref G_ZERO) := (g50_3.keep K323 nin0)
       have f337 : Fld Z T323.heap b36 kc0 "exposure" "Ljava/math/BigDecimal;" (.ref G_ZERO) := (g50_4.keep K323 nin0)
       have f338 : Fld Z T323.heap b36 kc0 "pool" "Lcom/example/ringfence/ringfence/gate/Pool;" .null := (g50_5.keep K323 nin0)
       have le339 : h0.size ≤ T323.heap.size := (Nat.le_trans le322 K323.1)
       obtain ⟨cq340, kq340, q340a, q340b, q340c⟩ := isOf hZ rfl f332
       refine w_virtual X323 hx (y := yn_7) (z := yn_7) hown (mvT hZ (wd_45 hw)) (mvT hZ (wd_46 hw)) (notFace_of_selects (args := #[]) (mvT hZ (wd_48 hw))) (mvT hZ (wd_48 hw)) (mvT hZ (wd_47 hw)) (by decide) (backOf (W := 0) (rm_m7_2 l Z aZ hw [] b36 G_ZERO T323.heap n0 (Nat.le_trans Z0 le339) f332 f333 ge37 f334 f335 f336 f337 f338) hZ (wd_49 hw) (wd_2 hw) (by decide) (by decide)) q340a q340c (by rw [hml]; rfl) [.null] (lenOf pd_1 rfl) rfl (Nat.le_of_eq rfl) (hb hby at_155) (fun _ _ => ⟨rfl, rfl, (by decide : 4 + 0 ≤ _), (by decide : 17 + 0 ≤ _)⟩) (pc' := 158) rfl ?_
       rintro _ _ ⟨T340, L340, k340, n340⟩ X340 ⟨Lc340, hQ340, l340, y340, z340⟩
       dsimp only [Pt.U, Pt.locs, Pt.cells, Pt.slots] at X340 l340 y340 z340 hQ340 ⊢
       subst l340 y340 z340
       obtain ⟨rfl, N340q, K340, g340_0, g340_1, g340_2, g340_3, g340_4, g340_5, g340_6⟩ := hQ340
       have N341 := Fr.app N324 N340q
       have C342 : CHr Z EL s.vm h0 s.vm T340.heap := C325.trans (CHr.keep K340 (sfS (Safe.exa hZ.alike f332 (by decide) (by decide)) sf0) C325.1)
       have K343 : Keep h0 T340.heap [] := K326.trans K340 (allS (Or.inr sz39) (all0 (P := fun x => x ∈ [] ∨ h0.size ≤ x)))
       show Runs _ _ _ _ (T340.setTop (mkF m 158 #[.val (.int p0), .val (.int p1), .val (.int p2), .val (.int p3), .val (.ref b20), .val (.ref b36), .val (.int ((p0 &&& (255 : Int32)).toUInt32.toUInt16.toUInt32.toInt32)), .val (.int ((p1 &&& (255 : Int32)).toUInt32.toUInt16.toUInt32.toInt32)), .val (.int ((p2 &&& (255 : Int32)).toUInt32.toUInt16.toUInt32.toInt32)), .val (.int (p3 &&& (3 : Int32))), .val (.ref r0_323), .val .null] []))
       refine w_iloadN X340 hx (hb hby at_158) rfl (pc' := 159) rfl ?_
       refine w_bipush X340 hx (hb hby at_159) (v := (8 : Int32)) rfl (pc' := 161) rfl ?_
       refine w_iand X340 hx (hb hby at_161) (pc' := 162) rfl ?_
       by_cases hc344 : (p3 &&& (8 : Int32)) = (0 : Int32)
       · refine w_ifY X340 hx (hb hby at_162) (teq hc344).1 (pc' := 170) (by decide) (by decide) ?_
         refine w_aload X340 hx (hb hby at_170) rfl rfl (pc' := 172) rfl ?_
         have f345 : Old Z n0 T340.heap := ((f321.keep K323 all0).keep K340 (allS ge37 all0))
         have le346 : h0.size ≤ T340.heap.size := (Nat.le_trans le339 K340.1)
         obtain ⟨cq347, kq347, q347a, q347b, q347c⟩ := isOf hZ rfl g340_0
         refine w_virtual X340 hx (y := yn_8) (z := yn_8) hown (mvT hZ (wd_52 hw)) (mvT hZ (wd_53 hw)) (notFace_of_selects (args := #[]) (mvT hZ (wd_55 hw))) (mvT hZ (wd_55 hw)) (mvT hZ (wd_54 hw)) (by decide) (backOf (W := 0) (rm_m8_3 l Z aZ hw [] b36 G_ZERO T340.heap n0 (Nat.le_trans Z0 le346) g340_0 g340_1 ge37 S_ZERO f345 g340_2 g340_3 g340_4 g340_5 g340_6) hZ (wd_56 hw) (wd_2 hw) (by decide) (by decide)) q347a q347c (by rw [hml]; rfl) [] (lenOf pd_2 rfl) rfl (Nat.le_of_eq rfl) (hb hby at_172) (fun _ _ => ⟨rfl, rfl, (by decide : 4 + 0 ≤ _), (by decide : 17 + 0 ≤ _)⟩) (pc' := 175) rfl ?_
         rintro _ _ ⟨T347, L347, k347, n347⟩ X347 ⟨Lc347, hQ347, l347, y347, z347⟩
         dsimp only [Pt.U, Pt.locs, Pt.cells, Pt.slots] at X347 l347 y347 z347 hQ347 ⊢
         subst l347 y347 z347
         obtain ⟨rfl, N347q, K347, g347_0, g347_1, g347_2, g347_3, g347_4, g347_5, g347_6⟩ := hQ347
         have N348 := Fr.app N341 N347q
         have C349 : CHr Z EL s.vm h0 s.vm T347.heap := C342.trans (CHr.keep K347 (sfS (Safe.exa hZ.alike g340_0 (by decide) (by decide)) sf0) C342.1)
         have K350 : Keep h0 T347.heap [] := K343.trans K347 (allS (Or.inr sz39) (all0 (P := fun x => x ∈ [] ∨ h0.size ≤ x)))
         show Runs _ _ _ _ (T347.setTop (mkF m 175 #[.val (.int p0), .val (.int p1), .val (.int p2), .val (.int p3), .val (.ref b20), .val (.ref b36), .val (.int ((p0 &&& (255 : Int32)).toUInt32.toUInt16.toUInt32.toInt32)), .val (.int ((p1 &&& (255 : Int32)).toUInt32.toUInt16.toUInt32.toInt32)), .val (.int ((p2 &&& (255 : Int32)).toUInt32.toUInt16.toUInt32.toInt32)), .val (.int (p3 &&& (3 : Int32))), .val (.ref r0_323), .val .null] []))
         refine w_aload X347 hx (hb hby at_175) rfl rfl (pc' := 177) rfl ?_
         have le351 : h0.size ≤ T347.heap.size := (Nat.le_trans le346 K347.1)
         obtain ⟨cq352, kq352, q352a, q352b, q352c⟩ := isOf hZ rfl g347_0
         refine w_virtual X347 hx (y := yn_9) (z := yn_9) hown (mvT hZ (wd_57 hw)) (mvT hZ (wd_58 hw)) (notFace_of_selects (args := #[]) (mvT hZ (wd_60 hw))) (mvT hZ (wd_60 hw)) (mvT hZ (wd_59 hw)) (by decide) (backOf (W := 0) (rm_m9_4 l Z aZ hw [] b36 T347.heap n0 (Nat.le_trans Z0 le351) g347_1) hZ (wd_61 hw) (wd_2 hw) (by decide) (by decide)) q352a q352c (by rw [hml]; rfl) [] (lenOf pd_3 rfl) rfl (Nat.le_of_eq rfl) (hb hby at_177) (fun _ _ => ⟨rfl, rfl, (by decide : 4 + 0 ≤ _), (by decide : 17 + 0 ≤ _)⟩) (pc' := 180) rfl ?_
         rintro _ _ ⟨T352, L352, k352, n352⟩ X352 ⟨Lc352, hQ352, l352, y352, z352⟩
         dsimp only [Pt.U, Pt.locs, Pt.cells, Pt.slots] at X352 l352 y352 z352 hQ352 ⊢
         subst l352 y352 z352
         obtain ⟨rfl, N352q, e352⟩ := hQ352
         have N353 := Fr.app N348 N352q
         show Runs _ _ _ _ (T352.setTop (mkF m 180 #[.val (.int p0), .val (.int p1), .val (.int p2), .val (.int p3), .val (.ref b20), .val (.ref b36), .val (.int ((p0 &&& (255 : Int32)).toUInt32.toUInt16.toUInt32.toInt32)), .val (.int ((p1 &&& (255 : Int32)).toUInt32.toUInt16.toUInt32.toInt32)), .val (.int ((p2 &&& (255 : Int32)).toUInt32.toUInt16.toUInt32.toInt32)), .val (.int (p3 &&& (3 : Int32))), .val (.ref r0_323), .val .null] [.null]))
         refine w_ifnonnullN X352 hx (hb hby at_180) (pc' := 183) rfl ?_
         refine w_aload X352 hx (hb hby at_183) rfl rfl (pc' := 185) rfl ?_
         have f354 : Old Z n0 T347.heap := (f345.keep K347 (allS ge37 all0))
         refine w_getS X352 hx "" hZ hown (Or.inl (wd_62 hw)) Via.refl e352 (S_DOWNSIDE.ext f354.2) (hb hby at_185) (pc' := 188) rfl ?_
         intro T355 X355 e355
         have f356 : Exa Z T347.heap G_DOWNSIDE kc4 := (((((((E_G_DOWNSIDE.ext E20).keep K32).ext E36).keep K50).keep K323).keep K340).keep K347)
         have ne357 : G_DOWNSIDE ≠ b20 := (Nat.ne_of_lt (Nat.lt_of_lt_of_le E_G_DOWNSIDE.lt (Nat.le_trans (Nat.le_refl _) (Nat.le_of_eq g20.symm))))
         have ne358 : G_DOWNSIDE ≠ b36 := (Nat.ne_of_lt (Nat.lt_of_lt_of_le E_G_DOWNSIDE.lt (Nat.le_trans le38 (Nat.le_of_eq g36.symm))))
         have f359 : Fld Z T347.heap G_DOWNSIDE kc3 "ordinal" "I" (.int (1 : Int32)) := (((((((F_ordinal_G_DOWNSIDE.ext E20).keep K32 (ninS ne357 nin0)).ext E36).keep K50 (ninS ne358 nin0)).keep K323 nin0).keep K340 (ninS ne358 nin0)).keep K347 (ninS ne358 nin0))
         have ne360 : G__SwitchMap_com_example_ringfence_ringfence_gate_Measure ≠ b20 := (Nat.ne_of_lt (Nat.lt_of_lt_of_le V_G__SwitchMap_com_example_ringfence_ringfence_gate_Measure.lt (Nat.le_trans (Nat.le_refl _) (Nat.le_of_eq g20.symm))))
         have ne361 : G__SwitchMap_com_example_ringfence_ringfence_gate_Measure ≠ b36 := (Nat.ne_of_lt (Nat.lt_of_lt_of_le V_G__SwitchMap_com_example_ringfence_ringfence_gate_Measure.lt (Nat.le_trans le38 (Nat.le_of_eq g36.symm))))
         have f362 : Arv Z T347.heap G__SwitchMap_com_example_ringfence_ringfence_gate_Measure k_G__SwitchMap_com_example_ringfence_ringfence_gate_Measure .int (5 : Int32) [(.int (1 : Int32)), (.int (2 : Int32)), (.int (3 : Int32)), (.int (4 : Int32)), (.int (5 : Int32))] (.int (0 : Int32)) := (((((((V_G__SwitchMap_com_example_ringfence_ringfence_gate_Measure.ext E20).keep K32 (ninS ne360 nin0)).ext E36).keep K50 (ninS ne361 nin0)).keep K323 nin0).keep K340 (ninS ne361 nin0)).keep K347 (ninS ne361 nin0))
         obtain ⟨cq363, kq363, q363a, q363b, q363c⟩ := isOf hZ e355 g347_0
         refine w_virtual X355 hx (y := yn_10) (z := yn_10) hown (mvT hZ (wd_65 hw)) (mvT hZ (wd_66 hw)) (notFace_of_selects (args := #[]) (mvT hZ (wd_68 hw))) (mvT hZ (wd_68 hw)) (mvT hZ (wd_67 hw)) (by decide) (backOf (W := 0) (rm_m10_5 l Z aZ hw [] b36 G_DOWNSIDE G__SwitchMap_com_example_ringfence_ringfence_gate_Measure k_G__SwitchMap_com_example_ringfence_ringfence_gate_Measure G_ZERO T347.heap n0 (Nat.le_trans Z0 le351) g347_1 S__SwitchMap_com_example_ringfence_ringfence_gate_Measure f354 f356 f359 f362 g347_3) hZ (wd_69 hw) (wd_2 hw) (by decide) (by decide)) q363a q363c (by rw [hml]; rfl) [(.ref G_DOWNSIDE)] (lenOf pd_5 rfl) rfl (Nat.le_of_eq rfl) (hb hby at_188) (fun _ _ => ⟨rfl, e355, (by decide : 4 + 0 ≤ _), (by decide : 17 + 0 ≤ _)⟩) (pc' := 191) rfl ?_
         rintro _ _ ⟨T363, L363, k363, n363⟩ X363 ⟨Lc363, hQ363, l363, y363, z363⟩
         dsimp only [Pt.U, Pt.locs, Pt.cells, Pt.slots] at X363 l363 y363 z363 hQ363 ⊢
         subst l363 y363 z363
         obtain ⟨rfl, N363q, e363⟩ := hQ363
         have N364 := Fr.app N353 N363q
         show Runs _ _ _ _ (T363.setTop (mkF m 191 #[.val (.int p0), .val (.int p1), .val (.int p2), .val (.int p3), .val (.ref b20), .val (.ref b36), .val (.int ((p0 &&& (255 : Int32)).toUInt32.toUInt16.toUInt32.toInt32)), .val (.int ((p1 &&& (255 : Int32)).toUInt32.toUInt16.toUInt32.toInt32)), .val (.int ((p2 &&& (255 : Int32)).toUInt32.toUInt16.toUInt32.toInt32)), .val (.int (p3 &&& (3 : Int32))), .val (.ref r0_323), .val .null] [(.ref G_ZERO)]))
         refine w_aload X363 hx (hb hby at_191) rfl rfl (pc' := 193) rfl ?_
         refine w_getS X363 hx "" hZ hown (Or.inl (wd_82 hw)) Via.refl e363 (S_UPSIDE.ext f354.2) (hb hby at_193) (pc' := 196) rfl ?_
         intro T365 X365 e365
         have f367 : Exa Z T347.heap G_UPSIDE kc4 := (((((((E_G_UPSIDE.ext E20).keep K32).ext E36).keep K50).keep K323).keep K340).keep K347)
         have ne368 : G_UPSIDE ≠ b20 := (Nat.ne_of_lt (Nat.lt_of_lt_of_le E_G_UPSIDE.lt (Nat.le_trans (Nat.le_refl _) (Nat.le_of_eq g20.symm))))
         have ne369 : G_UPSIDE ≠ b36 := (Nat.ne_of_lt (Nat.lt_of_lt_of_le E_G_UPSIDE.lt (Nat.le_trans le38 (Nat.le_of_eq g36.symm))))
         have f370 : Fld Z T347.heap G_UPSIDE kc3 "ordinal" "I" (.int (2 : Int32)) := (((((((F_ordinal_G_UPSIDE.ext E20).keep K32 (ninS ne368 nin0)).ext E36).keep K50 (ninS ne369 nin0)).keep K323 nin0).keep K340 (ninS ne369 nin0)).keep K347 (ninS ne369 nin0))
         obtain ⟨cq371, kq371, q371a, q371b, q371c⟩ := isOf hZ e365 g347_0
         refine w_virtual X365 hx (y := yn_10) (z := yn_10) hown (mvT hZ (wd_65 hw)) (mvT hZ (wd_66 hw)) (notFace_of_selects (args := #[]) (mvT hZ (wd_68 hw))) (mvT hZ (wd_68 hw)) (mvT hZ (wd_67 hw)) (by decide) (backOf (W := 1) (rm_m10_7 l Z aZ hw [] b36 G_UPSIDE G__SwitchMap_com_example_ringfence_ringfence_gate_Measure k_G__SwitchMap_com_example_ringfence_ringfence_gate_Measure G_ZERO T347.heap n0 (Nat.le_trans Z0 le351) g347_1 S__SwitchMap_com_example_ringfence_ringfence_gate_Measure f354 f367 f370 f362 g347_4) hZ (wd_69 hw) (wd_2 hw) (by decide) (by decide)) q371a q371c (by rw [hml]; rfl) [(.ref G_UPSIDE)] (lenOf pd_5 rfl) rfl (Nat.le_of_eq rfl) (hb hby at_196) (fun _ _ => ⟨rfl, e365, (by decide : 4 + 0 ≤ _), (by decide : 17 + 0 ≤ _)⟩) (pc' := 199) rfl ?_
         rintro _ _ ⟨T371, L371, k371, n371⟩ X371 ⟨Lc371, hQ371, l371, y371, z371⟩
         dsimp only [Pt.U, Pt.locs, Pt.cells, Pt.slots] at X371 l371 y371 z371 hQ371 ⊢
         subst l371 y371 z371
         obtain ⟨rfl, N371q, e371⟩ := hQ371
         have N372 := Fr.app N364 N371q
         show Runs _ _ _ _ (T371.setTop (mkF m 199 #[.val (.int p0), .val (.int p1), .val (.int p2), .val (.int p3), .val (.ref b20), .val (.ref b36), .val (.int ((p0 &&& (255 : Int32)).toUInt32.toUInt16.toUInt32.toInt32)), .val (.int ((p1 &&& (255 : Int32)).toUInt32.toUInt16.toUInt32.toInt32)), .val (.int ((p2 &&& (255 : Int32)).toUInt32.toUInt16.toUInt32.toInt32)), .val (.int (p3 &&& (3 : Int32))), .val (.ref r0_323), .val .null] [(.ref G_ZERO), (.ref G_ZERO)]))
         refine w_acmp X371 hx (hb hby at_199) (same := true) rfl rfl (decide_eq_true rfl) (pc' := 202) (by decide) (by decide) ?_
         refine w_aload X371 hx (hb hby at_202) rfl rfl (pc' := 204) rfl ?_
         refine w_getS X371 hx "" hZ hown (Or.inl (wd_82 hw)) Via.refl e371 (S_UPSIDE.ext f354.2) (hb hby at_204) (pc' := 207) rfl ?_
         intro T373 X373 e373
         obtain ⟨cq374, kq374, q374a, q374b, q374c⟩ := isOf hZ e373 g347_0
         refine w_virtual X373 hx (y := yn_10) (z := yn_10) hown (mvT hZ (wd_65 hw)) (mvT hZ (wd_66 hw)) (notFace_of_selects (args := #[]) (mvT hZ (wd_68 hw))) (mvT hZ (wd_68 hw)) (mvT hZ (wd_67 hw)) (by decide) (backOf (W := 0) (rm_m10_7 l Z aZ hw [] b36 G_UPSIDE G__SwitchMap_com_example_ringfence_ringfence_gate_Measure k_G__SwitchMap_com_example_ringfence_ringfence_gate_Measure G_ZERO T347.heap n0 (Nat.le_trans Z0 le351) g347_1 S__SwitchMap_com_example_ringfence_ringfence_gate_Measure f354 f367 f370 f362 g347_4) hZ (wd_69 hw) (wd_2 hw) (by decide) (by decide)) q374a q374c (by rw [hml]; rfl) [(.ref G_UPSIDE)] (lenOf pd_5 rfl) rfl (Nat.le_of_eq rfl) (hb hby at_207) (fun _ _ => ⟨rfl, e373, (by decide : 4 + 0 ≤ _), (by decide : 17 + 0 ≤ _)⟩) (pc' := 210) rfl ?_
         rintro _ _ ⟨T374, L374, k374, n374⟩ X374 ⟨Lc374, hQ374, l374, y374, z374⟩
         dsimp only [Pt.U, Pt.locs, Pt.cells, Pt.slots] at X374 l374 y374 z374 hQ374 ⊢
         subst l374 y374 z374
         obtain ⟨rfl, N374q, e374⟩ := hQ374
         have N375 := Fr.app N372 N374q
         show Runs _ _ _ _ (T374.setTop (mkF m 210 #[.val (.int p0), .val (.int p1), .val (.int p2), .val (.int p3), .val (.ref b20), .val (.ref b36), .val (.int ((p0 &&& (255 : Int32)).toUInt32.toUInt16.toUInt32.toInt32)), .val (.int ((p1 &&& (255 : Int32)).toUInt32.toUInt16.toUInt32.toInt32)), .val (.int ((p2 &&& (255 : Int32)).toUInt32.toUInt16.toUInt32.toInt32)), .val (.int (p3 &&& (3 : Int32))), .val (.ref r0_323), .val .null] [(.ref G_ZERO)]))
         refine w_aload X374 hx (hb hby at_210) rfl rfl (pc' := 212) rfl ?_
         refine w_getS X374 hx "" hZ hown (Or.inl (wd_84 hw)) Via.refl e374 (S_EXPOSURE.ext f354.2) (hb hby at_212) (pc' := 215) rfl ?_
         intro T376 X376 e376
         have f379 : Exa Z T347.heap G_EXPOSURE kc4 := (((((((E_G_EXPOSURE.ext E20).keep K32).ext E36).keep K50).keep K323).keep K340).keep K347)
         have ne380 : G_EXPOSURE ≠ b20 := (Nat.ne_of_lt (Nat.lt_of_lt_of_le E_G_EXPOSURE.lt (Nat.le_trans (Nat.le_refl _) (Nat.le_of_eq g20.symm))))
         have ne381 : G_EXPOSURE ≠ b36 := (Nat.ne_of_lt (Nat.lt_of_lt_of_le E_G_EXPOSURE.lt (Nat.le_trans le38 (Nat.le_of_eq g36.symm))))
         have f382 : Fld Z T347.heap G_EXPOSURE kc3 "ordinal" "I" (.int (3 : Int32)) := (((((((F_ordinal_G_EXPOSURE.ext E20).keep K32 (ninS ne380 nin0)).ext E36).keep K50 (ninS ne381 nin0)).keep K323 nin0).keep K340 (ninS ne381 nin0)).keep K347 (ninS ne381 nin0))
         obtain ⟨cq383, kq383, q383a, q383b, q383c⟩ := isOf hZ e376 g347_0
         refine w_virtual X376 hx (y := yn_10) (z := yn_10) hown (mvT hZ (wd_65 hw)) (mvT hZ (wd_66 hw)) (notFace_of_selects (args := #[]) (mvT hZ (wd_68 hw))) (mvT hZ (wd_68 hw)) (mvT hZ (wd_67 hw)) (by decide) (backOf (W := 1) (rm_m10_9 l Z aZ hw [] b36 G_EXPOSURE G__SwitchMap_com_example_ringfence_ringfence_gate_Measure k_G__SwitchMap_com_example_ringfence_ringfence_gate_Measure G_ZERO T347.heap n0 (Nat.le_trans Z0 le351) g347_1 S__SwitchMap_com_example_ringfence_ringfence_gate_Measure f354 f379 f382 f362 g347_5) hZ (wd_69 hw) (wd_2 hw) (by decide) (by decide)) q383a q383c (by rw [hml]; rfl) [(.ref G_EXPOSURE)] (lenOf pd_5 rfl) rfl (Nat.le_of_eq rfl) (hb hby at_215) (fun _ _ => ⟨rfl, e376, (by decide : 4 + 0 ≤ _), (by decide : 17 + 0 ≤ _)⟩) (pc' := 218) rfl ?_
         rintro _ _ ⟨T383, L383, k383, n383⟩ X383 ⟨Lc383, hQ383, l383, y383, z383⟩
         dsimp only [Pt.U, Pt.locs, Pt.cells, Pt.slots] at X383 l383 y383 z383 hQ383 ⊢
         subst l383 y383 z383
         obtain ⟨rfl, N383q, e383⟩ := hQ383
         have N384 := Fr.app N375 N383q
         show Runs _ _ _ _ (T383.setTop (mkF m 218 #[.val (.int p0), .val (.int p1), .val (.int p2), .val (.int p3), .val (.ref b20), .val (.ref b36), .val (.int ((p0 &&& (255 : Int32)).toUInt32.toUInt16.toUInt32.toInt32)), .val (.int ((p1 &&& (255 : Int32)).toUInt32.toUInt16.toUInt32.toInt32)), .val (.int ((p2 &&& (255 : Int32)).toUInt32.toUInt16.toUInt32.toInt32)), .val (.int (p3 &&& (3 : Int32))), .val (.ref r0_323), .val .null] [(.ref G_ZERO), (.ref G_ZERO)]))
         refine w_acmp X383 hx (hb hby at_218) (same := true) rfl rfl (decide_eq_true rfl) (pc' := 221) (by decide) (by decide) ?_
         refine w_aload X383 hx (hb hby at_221) rfl rfl (pc' := 223) rfl ?_
         refine w_getS X383 hx "" hZ hown (Or.inl (wd_84 hw)) Via.refl e383 (S_EXPOSURE.ext f354.2) (hb hby at_223) (pc' := 226) rfl ?_
         intro T385 X385 e385
         obtain ⟨cq386, kq386, q386a, q386b, q386c⟩ := isOf hZ e385 g347_0
         refine w_virtual X385 hx (y := yn_10) (z := yn_10) hown (mvT hZ (wd_65 hw)) (mvT hZ (wd_66 hw)) (notFace_of_selects (args := #[]) (mvT hZ (wd_68 hw))) (mvT hZ (wd_68 hw)) (mvT hZ (wd_67 hw)) (by decide) (backOf (W := 0) (rm_m10_9 l Z aZ hw [] b36 G_EXPOSURE G__SwitchMap_com_example_ringfence_ringfence_gate_Measure k_G__SwitchMap_com_example_ringfence_ringfence_gate_Measure G_ZERO T347.heap n0 (Nat.le_trans Z0 le351) g347_1 S__SwitchMap_com_example_ringfence_ringfence_gate_Measure f354 f379 f382 f362 g347_5) hZ (wd_69 hw) (wd_2 hw) (by decide) (by decide)) q386a q386c (by rw [hml]; rfl) [(.ref G_EXPOSURE)] (lenOf pd_5 rfl) rfl (Nat.le_of_eq rfl) (hb hby at_226) (fun _ _ => ⟨rfl, e385, (by decide : 4 + 0 ≤ _), (by decide : 17 + 0 ≤ _)⟩) (pc' := 229) rfl ?_
         rintro _ _ ⟨T386, L386, k386, n386⟩ X386 ⟨Lc386, hQ386, l386, y386, z386⟩
         dsimp only [Pt.U, Pt.locs, Pt.cells, Pt.slots] at X386 l386 y386 z386 hQ386 ⊢
         subst l386 y386 z386
         obtain ⟨rfl, N386q, e386⟩ := hQ386
         have N387 := Fr.app N384 N386q
         show Runs _ _ _ _ (T386.setTop (mkF m 229 #[.val (.int p0), .val (.int p1), .val (.int p2), .val (.int p3), .val (.ref b20), .val (.ref b36), .val (.int ((p0 &&& (255 : Int32)).toUInt32.toUInt16.toUInt32.toInt32)), .val (.int ((p1 &&& (255 : Int32)).toUInt32.toUInt16.toUInt32.toInt32)), .val (.int ((p2 &&& (255 : Int32)).toUInt32.toUInt16.toUInt32.toInt32)), .val (.int (p3 &&& (3 : Int32))), .val (.ref r0_323), .val .null] [(.ref G_ZERO)]))
         refine w_aload X386 hx (hb hby at_229) rfl rfl (pc' := 231) rfl ?_
         refine w_getS X386 hx "" hZ hown (Or.inl (wd_84 hw)) Via.refl e386 (S_EXPOSURE.ext f354.2) (hb hby at_231) (pc' := 234) rfl ?_
         intro T388 X388 e388
         have ne393 : b20 ≠ b36 := (Nat.ne_of_lt (Nat.lt_of_lt_of_le A20.lt (Nat.le_trans K32.1 (Nat.le_of_eq g36.symm))))
         have f394 : Fld Z T347.heap b20 kc0 "unrated" "Ljava/lang/String;" .null := (((((g32_6.ext E36).keep K50 (ninS ne393 nin0)).keep K323 nin0).keep K340 (ninS ne393 nin0)).keep K347 (ninS ne393 nin0))
         have f395 : Fld Z T347.heap b20 kc0 "exposure" "Ljava/math/BigDecimal;" (.ref G_ZERO) := (((((g32_4.ext E36).keep K50 (ninS ne393 nin0)).keep K323 nin0).keep K340 (ninS ne393 nin0)).keep K347 (ninS ne393 nin0))
         have f397 : Exa Z T347.heap b20 kc0 := (((((g32_0.ext E36).keep K50).keep K323).keep K340).keep K347)
         obtain ⟨cq396, kq396, q396a, q396b, q396c⟩ := isOf hZ e388 f397
         refine w_virtual X388 hx (y := yn_10) (z := yn_10) hown (mvT hZ (wd_65 hw)) (mvT hZ (wd_66 hw)) (notFace_of_selects (args := #[]) (mvT hZ (wd_68 hw))) (mvT hZ (wd_68 hw)) (mvT hZ (wd_67 hw)) (by decide) (backOf (W := 1) (rm_m10_9 l Z aZ hw [] b20 G_EXPOSURE G__SwitchMap_com_example_ringfence_ringfence_gate_Measure k_G__SwitchMap_com_example_ringfence_ringfence_gate_Measure G_ZERO T347.heap n0 (Nat.le_trans Z0 le351) f394 S__SwitchMap_com_example_ringfence_ringfence_gate_Measure f354 f379 f382 f362 f395) hZ (wd_69 hw) (wd_2 hw) (by decide) (by decide)) q396a q396c (by rw [hml]; rfl) [(.ref G_EXPOSURE)] (lenOf pd_5 rfl) rfl (Nat.le_of_eq rfl) (hb hby at_234) (fun _ _ => ⟨rfl, e388, (by decide : 4 + 0 ≤ _), (by decide : 17 + 0 ≤ _)⟩) (pc' := 237) rfl ?_
         rintro _ _ ⟨T396, L396, k396, n396⟩ X396 ⟨Lc396, hQ396, l396, y396, z396⟩
         dsimp only [Pt.U, Pt.locs, Pt.cells, Pt.slots] at X396 l396 y396 z396 hQ396 ⊢
         subst l396 y396 z396
         obtain ⟨rfl, N396q, e396⟩ := hQ396
         have N398 := Fr.app N387 N396q
         show Runs _ _ _ _ (T396.setTop (mkF m 237 #[.val (.int p0), .val (.int p1), .val (.int p2), .val (.int p3), .val (.ref b20), .val (.ref b36), .val (.int ((p0 &&& (255 : Int32)).toUInt32.toUInt16.toUInt32.toInt32)), .val (.int ((p1 &&& (255 : Int32)).toUInt32.toUInt16.toUInt32.toInt32)), .val (.int ((p2 &&& (255 : Int32)).toUInt32.toUInt16.toUInt32.toInt32)), .val (.int (p3 &&& (3 : Int32))), .val (.ref r0_323), .val .null] [(.ref G_ZERO), (.ref G_ZERO)]))
         refine w_acmp X396 hx (hb hby at_237) (same := true) rfl rfl (decide_eq_true rfl) (pc' := 240) (by decide) (by decide) ?_
         refine w_iconst X396 hx (hb hby at_240) (v := (1 : Int32)) rfl (pc' := 241) rfl ?_
         refine w_goto X396 hx (hb hby at_241) (pc' := 245) (by decide) (by decide) ?_
         exact w_doneH X396 hlk (v := some (.int (1 : Int32))) e396 hh hZ (own_EW hw) hS0 (Nat.le_trans (Nat.le_refl _) le351) C349 (fun h => by rw [hret] at h; cases h) (fun fs hr => retN X396 hx (t := .boolean) hret (by simp) (hb hby at_245) hr) (by decide) (by decide) (fun hsy => ⟨rfl, N398⟩)
       · refine w_ifN X340 hx (hb hby at_162) (feq hc344).1 (pc' := 165) rfl ?_
         refine w_aload X340 hx (hb hby at_165) rfl rfl (pc' := 167) rfl ?_
         have f399 : Old Z n0 T340.heap := ((f321.keep K323 all0).keep K340 (allS ge37 all0))
         have le400 : h0.size ≤ T340.heap.size := (Nat.le_trans le339 K340.1)
         obtain ⟨cq401, kq401, q401a, q401b, q401c⟩ := isOf hZ rfl g340_0
         refine w_virtual X340 hx (y := yn_8) (z := yn_8) hown (mvT hZ (wd_52 hw)) (mvT hZ (wd_53 hw)) (notFace_of_selects (args := #[]) (mvT hZ (wd_55 hw))) (mvT hZ (wd_55 hw)) (mvT hZ (wd_54 hw)) (by decide) (backOf (W := 0) (rm_m8_3 l Z aZ hw [] b36 G_ZERO T340.heap n0 (Nat.le_trans Z0 le400) g340_0 g340_1 ge37 S_ZERO f399 g340_2 g340_3 g340_4 g340_5 g340_6) hZ (wd_56 hw) (wd_2 hw) (by decide) (by decide)) q401a q401c (by rw [hml]; rfl) [] (lenOf pd_2 rfl) rfl (Nat.le_of_eq rfl) (hb hby at_167) (fun _ _ => ⟨rfl, rfl, (by decide : 4 + 0 ≤ _), (by decide : 17 + 0 ≤ _)⟩) (pc' := 170) rfl ?_
         rintro _ _ ⟨T401, L401, k401, n401⟩ X401 ⟨Lc401, hQ401, l401, y401, z401⟩
         dsimp only [Pt.U, Pt.locs, Pt.cells, Pt.slots] at X401 l401 y401 z401 hQ401 ⊢
         subst l401 y401 z401
         obtain ⟨rfl, N401q, K401, g401_0, g401_1, g401_2, g401_3, g401_4, g401_5, g401_6⟩ := hQ401
         have N402 := Fr.app N341 N401q
         have C403 : CHr Z EL s.vm h0 s.vm T401.heap := C342.trans (CHr.keep K401 (sfS (Safe.exa hZ.alike g340_0 (by decide) (by decide)) sf0) C342.1)
         have K404 : Keep h0 T401.heap [] := K343.trans K401 (allS (Or.inr sz39) (all0 (P := fun x => x ∈ [] ∨ h0.size ≤ x)))
         show Runs _ _ _ _ (T401.setTop (mkF m 170 #[.val (.int p0), .val (.int p1), .val (.int p2), .val (.int p3), .val (.ref b20), .val (.ref b36), .val (.int ((p0 &&& (255 : Int32)).toUInt32.toUInt16.toUInt32.toInt32)), .val (.int ((p1 &&& (255 : Int32)).toUInt32.toUInt16.toUInt32.toInt32)), .val (.int ((p2 &&& (255 : Int32)).toUInt32.toUInt16.toUInt32.toInt32)), .val (.int (p3 &&& (3 : Int32))), .val (.ref r0_323), .val .null] []))
         refine w_aload X401 hx (hb hby at_170) rfl rfl (pc' := 172) rfl ?_
         have f405 : Old Z n0 T401.heap := (f399.keep K401 (allS ge37 all0))
         have le406 : h0.size ≤ T401.heap.size := (Nat.le_trans le400 K401.1)
         obtain ⟨cq407, kq407, q407a, q407b, q407c⟩ := isOf hZ rfl g401_0
         refine w_virtual X401 hx (y := yn_8) (z := yn_8) hown (mvT hZ (wd_52 hw)) (mvT hZ (wd_53 hw)) (notFace_of_selects (args := #[]) (mvT hZ (wd_55 hw))) (mvT hZ (wd_55 hw)) (mvT hZ (wd_54 hw)) (by decide) (backOf (W := 0) (rm_m8_3 l Z aZ hw [] b36 G_ZERO T401.heap n0 (Nat.le_trans Z0 le406) g401_0 g401_1 ge37 S_ZERO f405 g401_2 g401_3 g401_4 g401_5 g401_6) hZ (wd_56 hw) (wd_2 hw) (by decide) (by decide)) q407a q407c (by rw [hml]; rfl) [] (lenOf pd_2 rfl) rfl (Nat.le_of_eq rfl) (hb hby at_172) (fun _ _ => ⟨rfl, rfl, (by decide : 4 + 0 ≤ _), (by decide : 17 + 0 ≤ _)⟩) (pc' := 175) rfl ?_
         rintro _ _ ⟨T407, L407, k407, n407⟩ X407 ⟨Lc407, hQ407, l407, y407, z407⟩
         dsimp only [Pt.U, Pt.locs, Pt.cells, Pt.slots] at X407 l407 y407 z407 hQ407 ⊢
         subst l407 y407 z407
         obtain ⟨rfl, N407q, K407, g407_0, g407_1, g407_2, g407_3, g407_4, g407_5, g407_6⟩ := hQ407
         have N408 := Fr.app N402 N407q
         have C409 : CHr Z EL s.vm h0 s.vm T407.heap := C403.trans (CHr.keep K407 (sfS (Safe.exa hZ.alike g401_0 (by decide) (by decide)) sf0) C403.1)
         have K410 : Keep h0 T407.heap [] := K404.trans K407 (allS (Or.inr sz39) (all0 (P := fun x => x ∈ [] ∨ h0.size ≤ x)))
         show Runs _ _ _ _ (T407.setTop (mkF m 175 #[.val (.int p0), .val (.int p1), .val (.int p2), .val (.int p3), .val (.ref b20), .val (.ref b36), .val (.int ((p0 &&& (255 : Int32)).toUInt32.toUInt16.toUInt32.toInt32)), .val (.int ((p1 &&& (255 : Int32)).toUInt32.toUInt16.toUInt32.toInt32)), .val (.int ((p2 &&& (255 : Int32)).toUInt32.toUInt16.toUInt32.toInt32)), .val (.int (p3 &&& (3 : Int32))), .val (.ref r0_323), .val .null] []))
         refine w_aload X407 hx (hb hby at_175) rfl rfl (pc' := 177) rfl ?_
         have le411 : h0.size ≤ T407.heap.size := (Nat.le_trans le406 K407.1)
         obtain ⟨cq412, kq412, q412a, q412b, q412c⟩ := isOf hZ rfl g407_0
         refine w_virtual X407 hx (y := yn_9) (z := yn_9) hown (mvT hZ (wd_57 hw)) (mvT hZ (wd_58 hw)) (notFace_of_selects (args := #[]) (mvT hZ (wd_60 hw))) (mvT hZ (wd_60 hw)) (mvT hZ (wd_59 hw)) (by decide) (backOf (W := 0) (rm_m9_4 l Z aZ hw [] b36 T407.heap n0 (Nat.le_trans Z0 le411) g407_1) hZ (wd_61 hw) (wd_2 hw) (by decide) (by decide)) q412a q412c (by rw [hml]; rfl) [] (lenOf pd_3 rfl) rfl (Nat.le_of_eq rfl) (hb hby at_177) (fun _ _ => ⟨rfl, rfl, (by decide : 4 + 0 ≤ _), (by decide : 17 + 0 ≤ _)⟩) (pc' := 180) rfl ?_
         rintro _ _ ⟨T412, L412, k412, n412⟩ X412 ⟨Lc412, hQ412, l412, y412, z412⟩
         dsimp only [Pt.U, Pt.locs, Pt.cells, Pt.slots] at X412 l412 y412 z412 hQ412 ⊢
         subst l412 y412 z412
         obtain ⟨rfl, N412q, e412⟩ := hQ412
         have N413 := Fr.app N408 N412q
         show Runs _ _ _ _ (T412.setTop (mkF m 180 #[.val (.int p0), .val (.int p1), .val (.int p2), .val (.int p3), .val (.ref b20), .val (.ref b36), .val (.int ((p0 &&& (255 : Int32)).toUInt32.toUInt16.toUInt32.toInt32)), .val (.int ((p1 &&& (255 : Int32)).toUInt32.toUInt16.toUInt32.toInt32)), .val (.int ((p2 &&& (255 : Int32)).toUInt32.toUInt16.toUInt32.toInt32)), .val (.int (p3 &&& (3 : Int32))), .val (.ref r0_323), .val .null] [.null]))
         refine w_ifnonnullN X412 hx (hb hby at_180) (pc' := 183) rfl ?_
         refine w_aload X412 hx (hb hby at_183) rfl rfl (pc' := 185) rfl ?_
         have f414 : Old Z n0 T407.heap := (f405.keep K407 (allS ge37 all0))
         refine w_getS X412 hx "" hZ hown (Or.inl (wd_62 hw)) Via.refl e412 (S_DOWNSIDE.ext f414.2) (hb hby at_185) (pc' := 188) rfl ?_
         intro T415 X415 e415
         have f416 : Exa Z T407.heap G_DOWNSIDE kc4 := ((((((((E_G_DOWNSIDE.ext E20).keep K32).ext E36).keep K50).keep K323).keep K340).keep K401).keep K407)
         have ne417 : G_DOWNSIDE ≠ b20 := (Nat.ne_of_lt (Nat.lt_of_lt_of_le E_G_DOWNSIDE.lt (Nat.le_trans (Nat.le_refl _) (Nat.le_of_eq g20.symm))))
         have ne418 : G_DOWNSIDE ≠ b36 := (Nat.ne_of_lt (Nat.lt_of_lt_of_le E_G_DOWNSIDE.lt (Nat.le_trans le38 (Nat.le_of_eq g36.symm))))
         have f419 : Fld Z T407.heap G_DOWNSIDE kc3 "ordinal" "I" (.int (1 : Int32)) := ((((((((F_ordinal_G_DOWNSIDE.ext E20).keep K32 (ninS ne417 nin0)).ext E36).keep K50 (ninS ne418 nin0)).keep K323 nin0).keep K340 (ninS ne418 nin0)).keep K401 (ninS ne418 nin0)).keep K407 (ninS ne418 nin0))
         have ne420 : G__SwitchMap_com_example_ringfence_ringfence_gate_Measure ≠ b20 := (Nat.ne_of_lt (Nat.lt_of_lt_of_le V_G__SwitchMap_com_example_ringfence_ringfence_gate_Measure.lt (Nat.le_trans (Nat.le_refl _) (Nat.le_of_eq g20.symm))))
         have ne421 : G__SwitchMap_com_example_ringfence_ringfence_gate_Measure ≠ b36 := (Nat.ne_of_lt (Nat.lt_of_lt_of_le V_G__SwitchMap_com_example_ringfence_ringfence_gate_Measure.lt (Nat.le_trans le38 (Nat.le_of_eq g36.symm))))
         have f422 : Arv Z T407.heap G__SwitchMap_com_example_ringfence_ringfence_gate_Measure k_G__SwitchMap_com_example_ringfence_ringfence_gate_Measure .int (5 : Int32) [(.int (1 : Int32)), (.int (2 : Int32)), (.int (3 : Int32)), (.int (4 : Int32)), (.int (5 : Int32))] (.int (0 : Int32)) := ((((((((V_G__SwitchMap_com_example_ringfence_ringfence_gate_Measure.ext E20).keep K32 (ninS ne420 nin0)).ext E36).keep K50 (ninS ne421 nin0)).keep K323 nin0).keep K340 (ninS ne421 nin0)).keep K401 (ninS ne421 nin0)).keep K407 (ninS ne421 nin0))
         obtain ⟨cq423, kq423, q423a, q423b, q423c⟩ := isOf hZ e415 g407_0
         refine w_virtual X415 hx (y := yn_10) (z := yn_10) hown (mvT hZ (wd_65 hw)) (mvT hZ (wd_66 hw)) (notFace_of_selects (args := #[]) (mvT hZ (wd_68 hw))) (mvT hZ (wd_68 hw)) (mvT hZ (wd_67 hw)) (by decide) (backOf (W := 0) (rm_m10_5 l Z aZ hw [] b36 G_DOWNSIDE G__SwitchMap_com_example_ringfence_ringfence_gate_Measure k_G__SwitchMap_com_example_ringfence_ringfence_gate_Measure G_ZERO T407.heap n0 (Nat.le_trans Z0 le411) g407_1 S__SwitchMap_com_example_ringfence_ringfence_gate_Measure f414 f416 f419 f422 g407_3) hZ (wd_69 hw) (wd_2 hw) (by decide) (by decide)) q423a q423c (by rw [hml]; rfl) [(.ref G_DOWNSIDE)] (lenOf pd_5 rfl) rfl (Nat.le_of_eq rfl) (hb hby at_188) (fun _ _ => ⟨rfl, e415, (by decide : 4 + 0 ≤ _), (by decide : 17 + 0 ≤ _)⟩) (pc' := 191) rfl ?_
         rintro _ _ ⟨T423, L423, k423, n423⟩ X423 ⟨Lc423, hQ423, l423, y423, z423⟩
         dsimp only [Pt.U, Pt.locs, Pt.cells, Pt.slots] at X423 l423 y423 z423 hQ423 ⊢
         subst l423 y423 z423
         obtain ⟨rfl, N423q, e423⟩ := hQ423
         have N424 := Fr.app N413 N423q
         show Runs _ _ _ _ (T423.setTop (mkF m 191 #[.val (.int p0), .val (.int p1), .val (.int p2), .val (.int p3), .val (.ref b20), .val (.ref b36), .val (.int ((p0 &&& (255 : Int32)).toUInt32.toUInt16.toUInt32.toInt32)), .val (.int ((p1 &&& (255 : Int32)).toUInt32.toUInt16.toUInt32.toInt32)), .val (.int ((p2 &&& (255 : Int32)).toUInt32.toUInt16.toUInt32.toInt32)), .val (.int (p3 &&& (3 : Int32))), .val (.ref r0_323), .val .null] [(.ref G_ZERO)]))
         refine w_aload X423 hx (hb hby at_191) rfl rfl (pc' := 193) rfl ?_
         refine w_getS X423 hx "" hZ hown (Or.inl (wd_82 hw)) Via.refl e423 (S_UPSIDE.ext f414.2) (hb hby at_193) (pc' := 196) rfl ?_
         intro T425 X425 e425
         have f427 : Exa Z T407.heap G_UPSIDE kc4 := ((((((((E_G_UPSIDE.ext E20).keep K32).ext E36).keep K50).keep K323).keep K340).keep K401).keep K407)
         have ne428 : G_UPSIDE ≠ b20 := (Nat.ne_of_lt (Nat.lt_of_lt_of_le E_G_UPSIDE.lt (Nat.le_trans (Nat.le_refl _) (Nat.le_of_eq g20.symm))))
         have ne429 : G_UPSIDE ≠ b36 := (Nat.ne_of_lt (Nat.lt_of_lt_of_le E_G_UPSIDE.lt (Nat.le_trans le38 (Nat.le_of_eq g36.symm))))
         have f430 : Fld Z T407.heap G_UPSIDE kc3 "ordinal" "I" (.int (2 : Int32)) := ((((((((F_ordinal_G_UPSIDE.ext E20).keep K32 (ninS ne428 nin0)).ext E36).keep K50 (ninS ne429 nin0)).keep K323 nin0).keep K340 (ninS ne429 nin0)).keep K401 (ninS ne429 nin0)).keep K407 (ninS ne429 nin0))
         obtain ⟨cq431, kq431, q431a, q431b, q431c⟩ := isOf hZ e425 g407_0
         refine w_virtual X425 hx (y := yn_10) (z := yn_10) hown (mvT hZ (wd_65 hw)) (mvT hZ (wd_66 hw)) (notFace_of_selects (args := #[]) (mvT hZ (wd_68 hw))) (mvT hZ (wd_68 hw)) (mvT hZ (wd_67 hw)) (by decide) (backOf (W := 1) (rm_m10_7 l Z aZ hw [] b36 G_UPSIDE G__SwitchMap_com_example_ringfence_ringfence_gate_Measure k_G__SwitchMap_com_example_ringfence_ringfence_gate_Measure G_ZERO T407.heap n0 (Nat.le_trans Z0 le411) g407_1 S__SwitchMap_com_example_ringfence_ringfence_gate_Measure f414 f427 f430 f422 g407_4) hZ (wd_69 hw) (wd_2 hw) (by decide) (by decide)) q431a q431c (by rw [hml]; rfl) [(.ref G_UPSIDE)] (lenOf pd_5 rfl) rfl (Nat.le_of_eq rfl) (hb hby at_196) (fun _ _ => ⟨rfl, e425, (by decide : 4 + 0 ≤ _), (by decide : 17 + 0 ≤ _)⟩) (pc' := 199) rfl ?_
         rintro _ _ ⟨T431, L431, k431, n431⟩ X431 ⟨Lc431, hQ431, l431, y431, z431⟩
         dsimp only [Pt.U, Pt.locs, Pt.cells, Pt.slots] at X431 l431 y431 z431 hQ431 ⊢
         subst l431 y431 z431
         obtain ⟨rfl, N431q, e431⟩ := hQ431
         have N432 := Fr.app N424 N431q
         show Runs _ _ _ _ (T431.setTop (mkF m 199 #[.val (.int p0), .val (.int p1), .val (.int p2), .val (.int p3), .val (.ref b20), .val (.ref b36), .val (.int ((p0 &&& (255 : Int32)).toUInt32.toUInt16.toUInt32.toInt32)), .val (.int ((p1 &&& (255 : Int32)).toUInt32.toUInt16.toUInt32.toInt32)), .val (.int ((p2 &&& (255 : Int32)).toUInt32.toUInt16.toUInt32.toInt32)), .val (.int (p3 &&& (3 : Int32))), .val (.ref r0_323), .val .null] [(.ref G_ZERO), (.ref G_ZERO)]))
         refine w_acmp X431 hx (hb hby at_199) (same := true) rfl rfl (decide_eq_true rfl) (pc' := 202) (by decide) (by decide) ?_
         refine w_aload X431 hx (hb hby at_202) rfl rfl (pc' := 204) rfl ?_
         refine w_getS X431 hx "" hZ hown (Or.inl (wd_82 hw)) Via.refl e431 (S_UPSIDE.ext f414.2) (hb hby at_204) (pc' := 207) rfl ?_
         intro T433 X433 e433
         obtain ⟨cq434, kq434, q434a, q434b, q434c⟩ := isOf hZ e433 g407_0
         refine w_virtual X433 hx (y := yn_10) (z := yn_10) hown (mvT hZ (wd_65 hw)) (mvT hZ (wd_66 hw)) (notFace_of_selects (args := #[]) (mvT hZ (wd_68 hw))) (mvT hZ (wd_68 hw)) (mvT hZ (wd_67 hw)) (by decide) (backOf (W := 0) (rm_m10_7 l Z aZ hw [] b36 G_UPSIDE G__SwitchMap_com_example_ringfence_ringfence_gate_Measure k_G__SwitchMap_com_example_ringfence_ringfence_gate_Measure G_ZERO T407.heap n0 (Nat.le_trans Z0 le411) g407_1 S__SwitchMap_com_example_ringfence_ringfence_gate_Measure f414 f427 f430 f422 g407_4) hZ (wd_69 hw) (wd_2 hw) (by decide) (by decide)) q434a q434c (by rw [hml]; rfl) [(.ref G_UPSIDE)] (lenOf pd_5 rfl) rfl (Nat.le_of_eq rfl) (hb hby at_207) (fun _ _ => ⟨rfl, e433, (by decide : 4 + 0 ≤ _), (by decide : 17 + 0 ≤ _)⟩) (pc' := 210) rfl ?_
         rintro _ _ ⟨T434, L434, k434, n434⟩ X434 ⟨Lc434, hQ434, l434, y434, z434⟩
         dsimp only [Pt.U, Pt.locs, Pt.cells, Pt.slots] at X434 l434 y434 z434 hQ434 ⊢
         subst l434 y434 z434
         obtain ⟨rfl, N434q, e434⟩ := hQ434
         have N435 := Fr.app N432 N434q
         show Runs _ _ _ _ (T434.setTop (mkF m 210 #[.val (.int p0), .val (.int p1), .val (.int p2), .val (.int p3), .val (.ref b20), .val (.ref b36), .val (.int ((p0 &&& (255 : Int32)).toUInt32.toUInt16.toUInt32.toInt32)), .val (.int ((p1 &&& (255 : Int32)).toUInt32.toUInt16.toUInt32.toInt32)), .val (.int ((p2 &&& (255 : Int32)).toUInt32.toUInt16.toUInt32.toInt32)), .val (.int (p3 &&& (3 : Int32))), .val (.ref r0_323), .val .null] [(.ref G_ZERO)]))
         refine w_aload X434 hx (hb hby at_210) rfl rfl (pc' := 212) rfl ?_
         refine w_getS X434 hx "" hZ hown (Or.inl (wd_84 hw)) Via.refl e434 (S_EXPOSURE.ext f414.2) (hb hby at_212) (pc' := 215) rfl ?_
         intro T436 X436 e436
         have f439 : Exa Z T407.heap G_EXPOSURE kc4 := ((((((((E_G_EXPOSURE.ext E20).keep K32).ext E36).keep K50).keep K323).keep K340).keep K401).keep K407)
         have ne440 : G_EXPOSURE ≠ b20 := (Nat.ne_of_lt (Nat.lt_of_lt_of_le E_G_EXPOSURE.lt (Nat.le_trans (Nat.le_refl _) (Nat.le_of_eq g20.symm))))
         have ne441 : G_EXPOSURE ≠ b36 := (Nat.ne_of_lt (Nat.lt_of_lt_of_le E_G_EXPOSURE.lt (Nat.le_trans le38 (Nat.le_of_eq g36.symm))))
         have f442 : Fld Z T407.heap G_EXPOSURE kc3 "ordinal" "I" (.int (3 : Int32)) := ((((((((F_ordinal_G_EXPOSURE.ext E20).keep K32 (ninS ne440 nin0)).ext E36).keep K50 (ninS ne441 nin0)).keep K323 nin0).keep K340 (ninS ne441 nin0)).keep K401 (ninS ne441 nin0)).keep K407 (ninS ne441 nin0))
         obtain ⟨cq443, kq443, q443a, q443b, q443c⟩ := isOf hZ e436 g407_0
         refine w_virtual X436 hx (y := yn_10) (z := yn_10) hown (mvT hZ (wd_65 hw)) (mvT hZ (wd_66 hw)) (notFace_of_selects (args := #[]) (mvT hZ (wd_68 hw))) (mvT hZ (wd_68 hw)) (mvT hZ (wd_67 hw)) (by decide) (backOf (W := 1) (rm_m10_9 l Z aZ hw [] b36 G_EXPOSURE G__SwitchMap_com_example_ringfence_ringfence_gate_Measure k_G__SwitchMap_com_example_ringfence_ringfence_gate_Measure G_ZERO T407.heap n0 (Nat.le_trans Z0 le411) g407_1 S__SwitchMap_com_example_ringfence_ringfence_gate_Measure f414 f439 f442 f422 g407_5) hZ (wd_69 hw) (wd_2 hw) (by decide) (by decide)) q443a q443c (by rw [hml]; rfl) [(.ref G_EXPOSURE)] (lenOf pd_5 rfl) rfl (Nat.le_of_eq rfl) (hb hby at_215) (fun _ _ => ⟨rfl, e436, (by decide : 4 + 0 ≤ _), (by decide : 17 + 0 ≤ _)⟩) (pc' := 218) rfl ?_
         rintro _ _ ⟨T443, L443, k443, n443⟩ X443 ⟨Lc443, hQ443, l443, y443, z443⟩
         dsimp only [Pt.U, Pt.locs, Pt.cells, Pt.slots] at X443 l443 y443 z443 hQ443 ⊢
         subst l443 y443 z443
         obtain ⟨rfl, N443q, e443⟩ := hQ443
         have N444 := Fr.app N435 N443q
         show Runs _ _ _ _ (T443.setTop (mkF m 218 #[.val (.int p0), .val (.int p1), .val (.int p2), .val (.int p3), .val (.ref b20), .val (.ref b36), .val (.int ((p0 &&& (255 : Int32)).toUInt32.toUInt16.toUInt32.toInt32)), .val (.int ((p1 &&& (255 : Int32)).toUInt32.toUInt16.toUInt32.toInt32)), .val (.int ((p2 &&& (255 : Int32)).toUInt32.toUInt16.toUInt32.toInt32)), .val (.int (p3 &&& (3 : Int32))), .val (.ref r0_323), .val .null] [(.ref G_ZERO), (.ref G_ZERO)]))
         refine w_acmp X443 hx (hb hby at_218) (same := true) rfl rfl (decide_eq_true rfl) (pc' := 221) (by decide) (by decide) ?_
         refine w_aload X443 hx (hb hby at_221) rfl rfl (pc' := 223) rfl ?_
         refine w_getS X443 hx "" hZ hown (Or.inl (wd_84 hw)) Via.refl e443 (S_EXPOSURE.ext f414.2) (hb hby at_223) (pc' := 226) rfl ?_
         intro T445 X445 e445
         obtain ⟨cq446, kq446, q446a, q446b, q446c⟩ := isOf hZ e445 g407_0
         refine w_virtual X445 hx (y := yn_10) (z := yn_10) hown (mvT hZ (wd_65 hw)) (mvT hZ (wd_66 hw)) (notFace_of_selects (args := #[]) (mvT hZ (wd_68 hw))) (mvT hZ (wd_68 hw)) (mvT hZ (wd_67 hw)) (by decide) (backOf (W := 0) (rm_m10_9 l Z aZ hw [] b36 G_EXPOSURE G__SwitchMap_com_example_ringfence_ringfence_gate_Measure k_G__SwitchMap_com_example_ringfence_ringfence_gate_Measure G_ZERO T407.heap n0 (Nat.le_trans Z0 le411) g407_1 S__SwitchMap_com_example_ringfence_ringfence_gate_Measure f414 f439 f442 f422 g407_5) hZ (wd_69 hw) (wd_2 hw) (by decide) (by decide)) q446a q446c (by rw [hml]; rfl) [(.ref G_EXPOSURE)] (lenOf pd_5 rfl) rfl (Nat.le_of_eq rfl) (hb hby at_226) (fun _ _ => ⟨rfl, e445, (by decide : 4 + 0 ≤ _), (by decide : 17 + 0 ≤ _)⟩) (pc' := 229) rfl ?_
         rintro _ _ ⟨T446, L446, k446, n446⟩ X446 ⟨Lc446, hQ446, l446, y446, z446⟩
         dsimp only [Pt.U, Pt.locs, Pt.cells, Pt.slots] at X446 l446 y446 z446 hQ446 ⊢
         subst l446 y446 z446
         obtain ⟨rfl, N446q, e446⟩ := hQ446
         have N447 := Fr.app N444 N446q
         show Runs _ _ _ _ (T446.setTop (mkF m 229 #[.val (.int p0), .val (.int p1), .val (.int p2), .val (.int p3), .val (.ref b20), .val (.ref b36), .val (.int ((p0 &&& (255 : Int32)).toUInt32.toUInt16.toUInt32.toInt32)), .val (.int ((p1 &&& (255 : Int32)).toUInt32.toUInt16.toUInt32.toInt32)), .val (.int ((p2 &&& (255 : Int32)).toUInt32.toUInt16.toUInt32.toInt32)), .val (.int (p3 &&& (3 : Int32))), .val (.ref r0_323), .val .null] [(.ref G_ZERO)]))
         refine w_aload X446 hx (hb hby at_229) rfl rfl (pc' := 231) rfl ?_
         refine w_getS X446 hx "" hZ hown (Or.inl (wd_84 hw)) Via.refl e446 (S_EXPOSURE.ext f414.2) (hb hby at_231) (pc' := 234) rfl ?_
         intro T448 X448 e448
         have ne453 : b20 ≠ b36 := (Nat.ne_of_lt (Nat.lt_of_lt_of_le A20.lt (Nat.le_trans K32.1 (Nat.le_of_eq g36.symm))))
         have f454 : Fld Z T407.heap b20 kc0 "unrated" "Ljava/lang/String;" .null := ((((((g32_6.ext E36).keep K50 (ninS ne453 nin0)).keep K323 nin0).keep K340 (ninS ne453 nin0)).keep K401 (ninS ne453 nin0)).keep K407 (ninS ne453 nin0))
         have f455 : Fld Z T407.heap b20 kc0 "exposure" "Ljava/math/BigDecimal;" (.ref G_ZERO) := ((((((g32_4.ext E36).keep K50 (ninS ne453 nin0)).keep K323 nin0).keep K340 (ninS ne453 nin0)).keep K401 (ninS ne453 nin0)).keep K407 (ninS ne453 nin0))
         have f457 : Exa Z T407.heap b20 kc0 := ((((((g32_0.ext E36).keep K50).keep K323).keep K340).keep K401).keep K407)
         obtain ⟨cq456, kq456, q456a, q456b, q456c⟩ := isOf hZ e448 f457
         refine w_virtual X448 hx (y := yn_10) (z := yn_10) hown (mvT hZ (wd_65 hw)) (mvT hZ (wd_66 hw)) (notFace_of_selects (args := #[]) (mvT hZ (wd_68 hw))) (mvT hZ (wd_68 hw)) (mvT hZ (wd_67 hw)) (by decide) (backOf (W := 1) (rm_m10_9 l Z aZ hw [] b20 G_EXPOSURE G__SwitchMap_com_example_ringfence_ringfence_gate_Measure k_G__SwitchMap_com_example_ringfence_ringfence_gate_Measure G_ZERO T407.heap n0 (Nat.le_trans Z0 le411) f454 S__SwitchMap_com_example_ringfence_ringfence_gate_Measure f414 f439 f442 f422 f455) hZ (wd_69 hw) (wd_2 hw) (by decide) (by decide)) q456a q456c (by rw [hml]; rfl) [(.ref G_EXPOSURE)] (lenOf pd_5 rfl) rfl (Nat.le_of_eq rfl) (hb hby at_234) (fun _ _ => ⟨rfl, e448, (by decide : 4 + 0 ≤ _), (by decide : 17 + 0 ≤ _)⟩) (pc' := 237) rfl ?_
         rintro _ _ ⟨T456, L456, k456, n456⟩ X456 ⟨Lc456, hQ456, l456, y456, z456⟩
         dsimp only [Pt.U, Pt.locs, Pt.cells, Pt.slots] at X456 l456 y456 z456 hQ456 ⊢
         subst l456 y456 z456
         obtain ⟨rfl, N456q, e456⟩ := hQ456
         have N458 := Fr.app N447 N456q
         show Runs _ _ _ _ (T456.setTop (mkF m 237 #[.val (.int p0), .val (.int p1), .val (.int p2), .val (.int p3), .val (.ref b20), .val (.ref b36), .val (.int ((p0 &&& (255 : Int32)).toUInt32.toUInt16.toUInt32.toInt32)), .val (.int ((p1 &&& (255 : Int32)).toUInt32.toUInt16.toUInt32.toInt32)), .val (.int ((p2 &&& (255 : Int32)).toUInt32.toUInt16.toUInt32.toInt32)), .val (.int (p3 &&& (3 : Int32))), .val (.ref r0_323), .val .null] [(.ref G_ZERO), (.ref G_ZERO)]))
         refine w_acmp X456 hx (hb hby at_237) (same := true) rfl rfl (decide_eq_true rfl) (pc' := 240) (by decide) (by decide) ?_
         refine w_iconst X456 hx (hb hby at_240) (v := (1 : Int32)) rfl (pc' := 241) rfl ?_
         refine w_goto X456 hx (hb hby at_241) (pc' := 245) (by decide) (by decide) ?_
         exact w_doneH X456 hlk (v := some (.int (1 : Int32))) e456 hh hZ (own_EW hw) hS0 (Nat.le_trans (Nat.le_refl _) le411) C409 (fun h => by rw [hret] at h; cases h) (fun fs hr => retN X456 hx (t := .boolean) hret (by simp) (hb hby at_245) hr) (by decide) (by decide) (fun hsy => ⟨rfl, N458⟩)
     · refine w_ifN X323 hx (hb hby at_140) (feq hc331).1 (pc' := 143) rfl ?_
       refine w_aload X323 hx (hb hby at_143) rfl rfl (pc' := 145) rfl ?_
       refine w_goto X323 hx (hb hby at_145) (pc' := 149) (by decide) (by decide) ?_
       refine w_astore X323 hx (hb hby at_149) rfl (L' := #[.val (.int p0), .val (.int p1), .val (.int p2), .val (.int p3), .val (.ref b20), .val (.ref b36), .val (.int ((p0 &&& (255 : Int32)).toUInt32.toUInt16.toUInt32.toInt32)), .val (.int ((p1 &&& (255 : Int32)).toUInt32.toUInt16.toUInt32.toInt32)), .val (.int ((p2 &&& (255 : Int32)).toUInt32.toUInt16.toUInt32.toInt32)), .val (.int (p3 &&& (3 : Int32))), .val (.ref r0_323), .val (.ref r0_323)]) rfl (pc' := 151) rfl ?_
       refine w_aload X323 hx (hb hby at_151) rfl rfl (pc' := 153) rfl ?_
       refine w_aload X323 hx (hb hby at_153) rfl rfl (pc' := 155) rfl ?_
       have f459 : Exa Z T323.heap b36 kc0 := (g50_0.keep K323)
       have f460 : Fld Z T323.heap b36 kc0 "unrated" "Ljava/lang/String;" .null := (g50_6.keep K323 nin0)
       have f461 : Fld Z T323.heap b36 kc0 "open" "Ljava/math/BigDecimal;" (.ref G_ZERO) := (g50_1.keep K323 nin0)
       have f462 : Fld Z T323.heap b36 kc0 "downside" "Ljava/math/BigDecimal;" (.ref G_ZERO) := (g50_2.keep K323 nin0)
       have f463 : Fld Z T323.heap b36 kc0 "upside" "Ljava/math/BigDecimal;" (.ref G_ZERO) := (g50_3.keep K323 nin0)
       have f464 : Fld Z T323.heap b36 kc0 "exposure" "Ljava/math/BigDecimal;" (.ref G_ZERO) := (g50_4.keep K323 nin0)
       have f465 : Fld Z T323.heap b36 kc0 "pool" "Lcom/example/ringfence/ringfence/gate/Pool;" .null := (g50_5.keep K323 nin0)
       have le466 : h0.size ≤ T323.heap.size := (Nat.le_trans le322 K323.1)
       obtain ⟨cq467, kq467, q467a, q467b, q467c⟩ := isOf hZ rfl f459
       refine w_virtual X323 hx (y := yn_7) (z := yn_7) hown (mvT hZ (wd_45 hw)) (mvT hZ (wd_46 hw)) (notFace_of_selects (args := #[]) (mvT hZ (wd_48 hw))) (mvT hZ (wd_48 hw)) (mvT hZ (wd_47 hw)) (by decide) (backOf (W := 0) (rm_m7_11 l Z aZ hw [] b36 r0_323 G_ZERO T323.heap n0 (Nat.le_trans Z0 le466) f459 f460 ge37 f461 f462 f463 f464 f465) hZ (wd_49 hw) (wd_2 hw) (by decide) (by decide)) q467a q467c (by rw [hml]; rfl) [(.ref r0_323)] (lenOf pd_1 rfl) rfl (Nat.le_of_eq rfl) (hb hby at_155) (fun _ _ => ⟨rfl, rfl, (by decide : 4 + 0 ≤ _), (by decide : 17 + 0 ≤ _)⟩) (pc' := 158) rfl ?_
       rintro _ _ ⟨T467, L467, k467, n467⟩ X467 ⟨Lc467, hQ467, l467, y467, z467⟩
       dsimp only [Pt.U, Pt.locs, Pt.cells, Pt.slots] at X467 l467 y467 z467 hQ467 ⊢
       subst l467 y467 z467
       obtain ⟨rfl, N467q, K467, g467_0, g467_1, g467_2, g467_3, g467_4, g467_5, g467_6⟩ := hQ467
       have N468 := Fr.app N324 N467q
       have C469 : CHr Z EL s.vm h0 s.vm T467.heap := C325.trans (CHr.keep K467 (sfS (Safe.exa hZ.alike f459 (by decide) (by decide)) sf0) C325.1)
       have K470 : Keep h0 T467.heap [] := K326.trans K467 (allS (Or.inr sz39) (all0 (P := fun x => x ∈ [] ∨ h0.size ≤ x)))
       show Runs _ _ _ _ (T467.setTop (mkF m 158 #[.val (.int p0), .val (.int p1), .val (.int p2), .val (.int p3), .val (.ref b20), .val (.ref b36), .val (.int ((p0 &&& (255 : Int32)).toUInt32.toUInt16.toUInt32.toInt32)), .val (.int ((p1 &&& (255 : Int32)).toUInt32.toUInt16.toUInt32.toInt32)), .val (.int ((p2 &&& (255 : Int32)).toUInt32.toUInt16.toUInt32.toInt32)), .val (.int (p3 &&& (3 : Int32))), .val (.ref r0_323), .val (.ref r0_323)] []))
       refine w_iloadN X467 hx (hb hby at_158) rfl (pc' := 159) rfl ?_
       refine w_bipush X467 hx (hb hby at_159) (v := (8 : Int32)) rfl (pc' := 161) rfl ?_
       refine w_iand X467 hx (hb hby at_161) (pc' := 162) rfl ?_
       by_cases hc471 : (p3 &&& (8 : Int32)) = (0 : Int32)
       · refine w_ifY X467 hx (hb hby at_162) (teq hc471).1 (pc' := 170) (by decide) (by decide) ?_
         refine w_aload X467 hx (hb hby at_170) rfl rfl (pc' := 172) rfl ?_
         have f472 : Old Z n0 T467.heap := ((f321.keep K323 all0).keep K467 (allS ge37 all0))
         have le473 : h0.size ≤ T467.heap.size := (Nat.le_trans le466 K467.1)
         obtain ⟨cq474, kq474, q474a, q474b, q474c⟩ := isOf hZ rfl g467_0
         refine w_virtual X467 hx (y := yn_8) (z := yn_8) hown (mvT hZ (wd_52 hw)) (mvT hZ (wd_53 hw)) (notFace_of_selects (args := #[]) (mvT hZ (wd_55 hw))) (mvT hZ (wd_55 hw)) (mvT hZ (wd_54 hw)) (by decide) (backOf (W := 0) (rm_m8_12 l Z aZ hw [] b36 r0_323 G_ZERO T467.heap n0 (Nat.le_trans Z0 le473) g467_0 g467_1 ge37 S_ZERO f472 g467_2 g467_3 g467_4 g467_5 g467_6) hZ (wd_56 hw) (wd_2 hw) (by decide) (by decide)) q474a q474c (by rw [hml]; rfl) [] (lenOf pd_2 rfl) rfl (Nat.le_of_eq rfl) (hb hby at_172) (fun _ _ => ⟨rfl, rfl, (by decide : 4 + 0 ≤ _), (by decide : 17 + 0 ≤ _)⟩) (pc' := 175) rfl ?_
         rintro _ _ ⟨T474, L474, k474, n474⟩ X474 ⟨Lc474, hQ474, l474, y474, z474⟩
         dsimp only [Pt.U, Pt.locs, Pt.cells, Pt.slots] at X474 l474 y474 z474 hQ474 ⊢
         subst l474 y474 z474
         obtain ⟨rfl, N474q, K474, g474_0, g474_1, g474_2, g474_3, g474_4, g474_5, g474_6⟩ := hQ474
         have N475 := Fr.app N468 N474q
         have C476 : CHr Z EL s.vm h0 s.vm T474.heap := C469.trans (CHr.keep K474 (sfS (Safe.exa hZ.alike g467_0 (by decide) (by decide)) sf0) C469.1)
         have K477 : Keep h0 T474.heap [] := K470.trans K474 (allS (Or.inr sz39) (all0 (P := fun x => x ∈ [] ∨ h0.size ≤ x)))
         show Runs _ _ _ _ (T474.setTop (mkF m 175 #[.val (.int p0), .val (.int p1), .val (.int p2), .val (.int p3), .val (.ref b20), .val (.ref b36), .val (.int ((p0 &&& (255 : Int32)).toUInt32.toUInt16.toUInt32.toInt32)), .val (.int ((p1 &&& (255 : Int32)).toUInt32.toUInt16.toUInt32.toInt32)), .val (.int ((p2 &&& (255 : Int32)).toUInt32.toUInt16.toUInt32.toInt32)), .val (.int (p3 &&& (3 : Int32))), .val (.ref r0_323), .val (.ref r0_323)] []))
         refine w_aload X474 hx (hb hby at_175) rfl rfl (pc' := 177) rfl ?_
         have le478 : h0.size ≤ T474.heap.size := (Nat.le_trans le473 K474.1)
         obtain ⟨cq479, kq479, q479a, q479b, q479c⟩ := isOf hZ rfl g474_0
         refine w_virtual X474 hx (y := yn_9) (z := yn_9) hown (mvT hZ (wd_57 hw)) (mvT hZ (wd_58 hw)) (notFace_of_selects (args := #[]) (mvT hZ (wd_60 hw))) (mvT hZ (wd_60 hw)) (mvT hZ (wd_59 hw)) (by decide) (backOf (W := 0) (rm_m9_4 l Z aZ hw [] b36 T474.heap n0 (Nat.le_trans Z0 le478) g474_1) hZ (wd_61 hw) (wd_2 hw) (by decide) (by decide)) q479a q479c (by rw [hml]; rfl) [] (lenOf pd_3 rfl) rfl (Nat.le_of_eq rfl) (hb hby at_177) (fun _ _ => ⟨rfl, rfl, (by decide : 4 + 0 ≤ _), (by decide : 17 + 0 ≤ _)⟩) (pc' := 180) rfl ?_
         rintro _ _ ⟨T479, L479, k479, n479⟩ X479 ⟨Lc479, hQ479, l479, y479, z479⟩
         dsimp only [Pt.U, Pt.locs, Pt.cells, Pt.slots] at X479 l479 y479 z479 hQ479 ⊢
         subst l479 y479 z479
         obtain ⟨rfl, N479q, e479⟩ := hQ479
         have N480 := Fr.app N475 N479q
         show Runs _ _ _ _ (T479.setTop (mkF m 180 #[.val (.int p0), .val (.int p1), .val (.int p2), .val (.int p3), .val (.ref b20), .val (.ref b36), .val (.int ((p0 &&& (255 : Int32)).toUInt32.toUInt16.toUInt32.toInt32)), .val (.int ((p1 &&& (255 : Int32)).toUInt32.toUInt16.toUInt32.toInt32)), .val (.int ((p2 &&& (255 : Int32)).toUInt32.toUInt16.toUInt32.toInt32)), .val (.int (p3 &&& (3 : Int32))), .val (.ref r0_323), .val (.ref r0_323)] [.null]))
         refine w_ifnonnullN X479 hx (hb hby at_180) (pc' := 183) rfl ?_
         refine w_aload X479 hx (hb hby at_183) rfl rfl (pc' := 185) rfl ?_
         have f481 : Old Z n0 T474.heap := (f472.keep K474 (allS ge37 all0))
         refine w_getS X479 hx "" hZ hown (Or.inl (wd_62 hw)) Via.refl e479 (S_DOWNSIDE.ext f481.2) (hb hby at_185) (pc' := 188) rfl ?_
         intro T482 X482 e482
         have f483 : Exa Z T474.heap G_DOWNSIDE kc4 := (((((((E_G_DOWNSIDE.ext E20).keep K32).ext E36).keep K50).keep K323).keep K467).keep K474)
         have ne484 : G_DOWNSIDE ≠ b20 := (Nat.ne_of_lt (Nat.lt_of_lt_of_le E_G_DOWNSIDE.lt (Nat.le_trans (Nat.le_refl _) (Nat.le_of_eq g20.symm))))
         have ne485 : G_DOWNSIDE ≠ b36 := (Nat.ne_of_lt (Nat.lt_of_lt_of_le E_G_DOWNSIDE.lt (Nat.le_trans le38 (Nat.le_of_eq g36.symm))))
         have f486 : Fld Z T474.heap G_DOWNSIDE kc3 "ordinal" "I" (.int (1 : Int32)) := (((((((F_ordinal_G_DOWNSIDE.ext E20).keep K32 (ninS ne484 nin0)).ext E36).keep K50 (ninS ne485 nin0)).keep K323 nin0).keep K467 (ninS ne485 nin0)).keep K474 (ninS ne485 nin0))
         have ne487 : G__SwitchMap_com_example_ringfence_ringfence_gate_Measure ≠ b20 := (Nat.ne_of_lt (Nat.lt_of_lt_of_le V_G__SwitchMap_com_example_ringfence_ringfence_gate_Measure.lt (Nat.le_trans (Nat.le_refl _) (Nat.le_of_eq g20.symm))))
         have ne488 : G__SwitchMap_com_example_ringfence_ringfence_gate_Measure ≠ b36 := (Nat.ne_of_lt (Nat.lt_of_lt_of_le V_G__SwitchMap_com_example_ringfence_ringfence_gate_Measure.lt (Nat.le_trans le38 (Nat.le_of_eq g36.symm))))
         have f489 : Arv Z T474.heap G__SwitchMap_com_example_ringfence_ringfence_gate_Measure k_G__SwitchMap_com_example_ringfence_ringfence_gate_Measure .int (5 : Int32) [(.int (1 : Int32)), (.int (2 : Int32)), (.int (3 : Int32)), (.int (4 : Int32)), (.int (5 : Int32))] (.int (0 : Int32)) := (((((((V_G__SwitchMap_com_example_ringfence_ringfence_gate_Measure.ext E20).keep K32 (ninS ne487 nin0)).ext E36).keep K50 (ninS ne488 nin0)).keep K323 nin0).keep K467 (ninS ne488 nin0)).keep K474 (ninS ne488 nin0))
         obtain ⟨cq490, kq490, q490a, q490b, q490c⟩ := isOf hZ e482 g474_0
         refine w_virtual X482 hx (y := yn_10) (z := yn_10) hown (mvT hZ (wd_65 hw)) (mvT hZ (wd_66 hw)) (notFace_of_selects (args := #[]) (mvT hZ (wd_68 hw))) (mvT hZ (wd_68 hw)) (mvT hZ (wd_67 hw)) (by decide) (backOf (W := 0) (rm_m10_5 l Z aZ hw [] b36 G_DOWNSIDE G__SwitchMap_com_example_ringfence_ringfence_gate_Measure k_G__SwitchMap_com_example_ringfence_ringfence_gate_Measure G_ZERO T474.heap n0 (Nat.le_trans Z0 le478) g474_1 S__SwitchMap_com_example_ringfence_ringfence_gate_Measure f481 f483 f486 f489 g474_3) hZ (wd_69 hw) (wd_2 hw) (by decide) (by decide)) q490a q490c (by rw [hml]; rfl) [(.ref G_DOWNSIDE)] (lenOf pd_5 rfl) rfl (Nat.le_of_eq rfl) (hb hby at_188) (fun _ _ => ⟨rfl, e482, (by decide : 4 + 0 ≤ _), (by decide : 17 + 0 ≤ _)⟩) (pc' := 191) rfl ?_
         rintro _ _ ⟨T490, L490, k490, n490⟩ X490 ⟨Lc490, hQ490, l490, y490, z490⟩
         dsimp only [Pt.U, Pt.locs, Pt.cells, Pt.slots] at X490 l490 y490 z490 hQ490 ⊢
         subst l490 y490 z490
         obtain ⟨rfl, N490q, e490⟩ := hQ490
         have N491 := Fr.app N480 N490q
         show Runs _ _ _ _ (T490.setTop (mkF m 191 #[.val (.int p0), .val (.int p1), .val (.int p2), .val (.int p3), .val (.ref b20), .val (.ref b36), .val (.int ((p0 &&& (255 : Int32)).toUInt32.toUInt16.toUInt32.toInt32)), .val (.int ((p1 &&& (255 : Int32)).toUInt32.toUInt16.toUInt32.toInt32)), .val (.int ((p2 &&& (255 : Int32)).toUInt32.toUInt16.toUInt32.toInt32)), .val (.int (p3 &&& (3 : Int32))), .val (.ref r0_323), .val (.ref r0_323)] [(.ref G_ZERO)]))
         refine w_aload X490 hx (hb hby at_191) rfl rfl (pc' := 193) rfl ?_
         refine w_getS X490 hx "" hZ hown (Or.inl (wd_82 hw)) Via.refl e490 (S_UPSIDE.ext f481.2) (hb hby at_193) (pc' := 196) rfl ?_
         intro T492 X492 e492
         have f494 : Exa Z T474.heap G_UPSIDE kc4 := (((((((E_G_UPSIDE.ext E20).keep K32).ext E36).keep K50).keep K323).keep K467).keep K474)
         have ne495 : G_UPSIDE ≠ b20 := (Nat.ne_of_lt (Nat.lt_of_lt_of_le E_G_UPSIDE.lt (Nat.le_trans (Nat.le_refl _) (Nat.le_of_eq g20.symm))))
         have ne496 : G_UPSIDE ≠ b36 := (Nat.ne_of_lt (Nat.lt_of_lt_of_le E_G_UPSIDE.lt (Nat.le_trans le38 (Nat.le_of_eq g36.symm))))
         have f497 : Fld Z T474.heap G_UPSIDE kc3 "ordinal" "I" (.int (2 : Int32)) := (((((((F_ordinal_G_UPSIDE.ext E20).keep K32 (ninS ne495 nin0)).ext E36).keep K50 (ninS ne496 nin0)).keep K323 nin0).keep K467 (ninS ne496 nin0)).keep K474 (ninS ne496 nin0))
         obtain ⟨cq498, kq498, q498a, q498b, q498c⟩ := isOf hZ e492 g474_0
         refine w_virtual X492 hx (y := yn_10) (z := yn_10) hown (mvT hZ (wd_65 hw)) (mvT hZ (wd_66 hw)) (notFace_of_selects (args := #[]) (mvT hZ (wd_68 hw))) (mvT hZ (wd_68 hw)) (mvT hZ (wd_67 hw)) (by decide) (backOf (W := 1) (rm_m10_7 l Z aZ hw [] b36 G_UPSIDE G__SwitchMap_com_example_ringfence_ringfence_gate_Measure k_G__SwitchMap_com_example_ringfence_ringfence_gate_Measure G_ZERO T474.heap n0 (Nat.le_trans Z0 le478) g474_1 S__SwitchMap_com_example_ringfence_ringfence_gate_Measure f481 f494 f497 f489 g474_4) hZ (wd_69 hw) (wd_2 hw) (by decide) (by decide)) q498a q498c (by rw [hml]; rfl) [(.ref G_UPSIDE)] (lenOf pd_5 rfl) rfl (Nat.le_of_eq rfl) (hb hby at_196) (fun _ _ => ⟨rfl, e492, (by decide : 4 + 0 ≤ _), (by decide : 17 + 0 ≤ _)⟩) (pc' := 199) rfl ?_
         rintro _ _ ⟨T498, L498, k498, n498⟩ X498 ⟨Lc498, hQ498, l498, y498, z498⟩
         dsimp only [Pt.U, Pt.locs, Pt.cells, Pt.slots] at X498 l498 y498 z498 hQ498 ⊢
         subst l498 y498 z498
         obtain ⟨rfl, N498q, e498⟩ := hQ498
         have N499 := Fr.app N491 N498q
         show Runs _ _ _ _ (T498.setTop (mkF m 199 #[.val (.int p0), .val (.int p1), .val (.int p2), .val (.int p3), .val (.ref b20), .val (.ref b36), .val (.int ((p0 &&& (255 : Int32)).toUInt32.toUInt16.toUInt32.toInt32)), .val (.int ((p1 &&& (255 : Int32)).toUInt32.toUInt16.toUInt32.toInt32)), .val (.int ((p2 &&& (255 : Int32)).toUInt32.toUInt16.toUInt32.toInt32)), .val (.int (p3 &&& (3 : Int32))), .val (.ref r0_323), .val (.ref r0_323)] [(.ref G_ZERO), (.ref G_ZERO)]))
         refine w_acmp X498 hx (hb hby at_199) (same := true) rfl rfl (decide_eq_true rfl) (pc' := 202) (by decide) (by decide) ?_
         refine w_aload X498 hx (hb hby at_202) rfl rfl (pc' := 204) rfl ?_
         refine w_getS X498 hx "" hZ hown (Or.inl (wd_82 hw)) Via.refl e498 (S_UPSIDE.ext f481.2) (hb hby at_204) (pc' := 207) rfl ?_
         intro T500 X500 e500
         obtain ⟨cq501, kq501, q501a, q501b, q501c⟩ := isOf hZ e500 g474_0
         refine w_virtual X500 hx (y := yn_10) (z := yn_10) hown (mvT hZ (wd_65 hw)) (mvT hZ (wd_66 hw)) (notFace_of_selects (args := #[]) (mvT hZ (wd_68 hw))) (mvT hZ (wd_68 hw)) (mvT hZ (wd_67 hw)) (by decide) (backOf (W := 0) (rm_m10_7 l Z aZ hw [] b36 G_UPSIDE G__SwitchMap_com_example_ringfence_ringfence_gate_Measure k_G__SwitchMap_com_example_ringfence_ringfence_gate_Measure G_ZERO T474.heap n0 (Nat.le_trans Z0 le478) g474_1 S__SwitchMap_com_example_ringfence_ringfence_gate_Measure f481 f494 f497 f489 g474_4) hZ (wd_69 hw) (wd_2 hw) (by decide) (by decide)) q501a q501c (by rw [hml]; rfl) [(.ref G_UPSIDE)] (lenOf pd_5 rfl) rfl (Nat.le_of_eq rfl) (hb hby at_207) (fun _ _ => ⟨rfl, e500, (by decide : 4 + 0 ≤ _), (by decide : 17 + 0 ≤ _)⟩) (pc' := 210) rfl ?_
         rintro _ _ ⟨T501, L501, k501, n501⟩ X501 ⟨Lc501, hQ501, l501, y501, z501⟩
         dsimp only [Pt.U, Pt.locs, Pt.cells, Pt.slots] at X501 l501 y501 z501 hQ501 ⊢
         subst l501 y501 z501
         obtain ⟨rfl, N501q, e501⟩ := hQ501
         have N502 := Fr.app N499 N501q
         show Runs _ _ _ _ (T501.setTop (mkF m 210 #[.val (.int p0), .val (.int p1), .val (.int p2), .val (.int p3), .val (.ref b20), .val (.ref b36), .val (.int ((p0 &&& (255 : Int32)).toUInt32.toUInt16.toUInt32.toInt32)), .val (.int ((p1 &&& (255 : Int32)).toUInt32.toUInt16.toUInt32.toInt32)), .val (.int ((p2 &&& (255 : Int32)).toUInt32.toUInt16.toUInt32.toInt32)), .val (.int (p3 &&& (3 : Int32))), .val (.ref r0_323), .val (.ref r0_323)] [(.ref G_ZERO)]))
         refine w_aload X501 hx (hb hby at_210) rfl rfl (pc' := 212) rfl ?_
         refine w_getS X501 hx "" hZ hown (Or.inl (wd_84 hw)) Via.refl e501 (S_EXPOSURE.ext f481.2) (hb hby at_212) (pc' := 215) rfl ?_
         intro T503 X503 e503
         have f506 : Exa Z T474.heap G_EXPOSURE kc4 := (((((((E_G_EXPOSURE.ext E20).keep K32).ext E36).keep K50).keep K323).keep K467).keep K474)
         have ne507 : G_EXPOSURE ≠ b20 := (Nat.ne_of_lt (Nat.lt_of_lt_of_le E_G_EXPOSURE.lt (Nat.le_trans (Nat.le_refl _) (Nat.le_of_eq g20.symm))))
         have ne508 : G_EXPOSURE ≠ b36 := (Nat.ne_of_lt (Nat.lt_of_lt_of_le E_G_EXPOSURE.lt (Nat.le_trans le38 (Nat.le_of_eq g36.symm))))
         have f509 : Fld Z T474.heap G_EXPOSURE kc3 "ordinal" "I" (.int (3 : Int32)) := (((((((F_ordinal_G_EXPOSURE.ext E20).keep K32 (ninS ne507 nin0)).ext E36).keep K50 (ninS ne508 nin0)).keep K323 nin0).keep K467 (ninS ne508 nin0)).keep K474 (ninS ne508 nin0))
         obtain ⟨cq510, kq510, q510a, q510b, q510c⟩ := isOf hZ e503 g474_0
         refine w_virtual X503 hx (y := yn_10) (z := yn_10) hown (mvT hZ (wd_65 hw)) (mvT hZ (wd_66 hw)) (notFace_of_selects (args := #[]) (mvT hZ (wd_68 hw))) (mvT hZ (wd_68 hw)) (mvT hZ (wd_67 hw)) (by decide) (backOf (W := 1) (rm_m10_9 l Z aZ hw [] b36 G_EXPOSURE G__SwitchMap_com_example_ringfence_ringfence_gate_Measure k_G__SwitchMap_com_example_ringfence_ringfence_gate_Measure G_ZERO T474.heap n0 (Nat.le_trans Z0 le478) g474_1 S__SwitchMap_com_example_ringfence_ringfence_gate_Measure f481 f506 f509 f489 g474_5) hZ (wd_69 hw) (wd_2 hw) (by decide) (by decide)) q510a q510c (by rw [hml]; rfl) [(.ref G_EXPOSURE)] (lenOf pd_5 rfl) rfl (Nat.le_of_eq rfl) (hb hby at_215) (fun _ _ => ⟨rfl, e503, (by decide : 4 + 0 ≤ _), (by decide : 17 + 0 ≤ _)⟩) (pc' := 218) rfl ?_
         rintro _ _ ⟨T510, L510, k510, n510⟩ X510 ⟨Lc510, hQ510, l510, y510, z510⟩
         dsimp only [Pt.U, Pt.locs, Pt.cells, Pt.slots] at X510 l510 y510 z510 hQ510 ⊢
         subst l510 y510 z510
         obtain ⟨rfl, N510q, e510⟩ := hQ510
         have N511 := Fr.app N502 N510q
         show Runs _ _ _ _ (T510.setTop (mkF m 218 #[.val (.int p0), .val (.int p1), .val (.int p2), .val (.int p3), .val (.ref b20), .val (.ref b36), .val (.int ((p0 &&& (255 : Int32)).toUInt32.toUInt16.toUInt32.toInt32)), .val (.int ((p1 &&& (255 : Int32)).toUInt32.toUInt16.toUInt32.toInt32)), .val (.int ((p2 &&& (255 : Int32)).toUInt32.toUInt16.toUInt32.toInt32)), .val (.int (p3 &&& (3 : Int32))), .val (.ref r0_323), .val (.ref r0_323)] [(.ref G_ZERO), (.ref G_ZERO)]))
         refine w_acmp X510 hx (hb hby at_218) (same := true) rfl rfl (decide_eq_true rfl) (pc' := 221) (by decide) (by decide) ?_
         refine w_aload X510 hx (hb hby at_221) rfl rfl (pc' := 223) rfl ?_
         refine w_getS X510 hx "" hZ hown (Or.inl (wd_84 hw)) Via.refl e510 (S_EXPOSURE.ext f481.2) (hb hby at_223) (pc' := 226) rfl ?_
         intro T512 X512 e512
         obtain ⟨cq513, kq513, q513a, q513b, q513c⟩ := isOf hZ e512 g474_0
         refine w_virtual X512 hx (y := yn_10) (z := yn_10) hown (mvT hZ (wd_65 hw)) (mvT hZ (wd_66 hw)) (notFace_of_selects (args := #[]) (mvT hZ (wd_68 hw))) (mvT hZ (wd_68 hw)) (mvT hZ (wd_67 hw)) (by decide) (backOf (W := 0) (rm_m10_9 l Z aZ hw [] b36 G_EXPOSURE G__SwitchMap_com_example_ringfence_ringfence_gate_Measure k_G__SwitchMap_com_example_ringfence_ringfence_gate_Measure G_ZERO T474.heap n0 (Nat.le_trans Z0 le478) g474_1 S__SwitchMap_com_example_ringfence_ringfence_gate_Measure f481 f506 f509 f489 g474_5) hZ (wd_69 hw) (wd_2 hw) (by decide) (by decide)) q513a q513c (by rw [hml]; rfl) [(.ref G_EXPOSURE)] (lenOf pd_5 rfl) rfl (Nat.le_of_eq rfl) (hb hby at_226) (fun _ _ => ⟨rfl, e512, (by decide : 4 + 0 ≤ _), (by decide : 17 + 0 ≤ _)⟩) (pc' := 229) rfl ?_
         rintro _ _ ⟨T513, L513, k513, n513⟩ X513 ⟨Lc513, hQ513, l513, y513, z513⟩
         dsimp only [Pt.U, Pt.locs, Pt.cells, Pt.slots] at X513 l513 y513 z513 hQ513 ⊢
         subst l513 y513 z513
         obtain ⟨rfl, N513q, e513⟩ := hQ513
         have N514 := Fr.app N511 N513q
         show Runs _ _ _ _ (T513.setTop (mkF m 229 #[.val (.int p0), .val (.int p1), .val (.int p2), .val (.int p3), .val (.ref b20), .val (.ref b36), .val (.int ((p0 &&& (255 : Int32)).toUInt32.toUInt16.toUInt32.toInt32)), .val (.int ((p1 &&& (255 : Int32)).toUInt32.toUInt16.toUInt32.toInt32)), .val (.int ((p2 &&& (255 : Int32)).toUInt32.toUInt16.toUInt32.toInt32)), .val (.int (p3 &&& (3 : Int32))), .val (.ref r0_323), .val (.ref r0_323)] [(.ref G_ZERO)]))
         refine w_aload X513 hx (hb hby at_229) rfl rfl (pc' := 231) rfl ?_
         refine w_getS X513 hx "" hZ hown (Or.inl (wd_84 hw)) Via.refl e513 (S_EXPOSURE.ext f481.2) (hb hby at_231) (pc' := 234) rfl ?_
         intro T515 X515 e515
         have ne520 : b20 ≠ b36 := (Nat.ne_of_lt (Nat.lt_of_lt_of_le A20.lt (Nat.le_trans K32.1 (Nat.le_of_eq g36.symm))))
         have f521 : Fld Z T474.heap b20 kc0 "unrated" "Ljava/lang/String;" .null := (((((g32_6.ext E36).keep K50 (ninS ne520 nin0)).keep K323 nin0).keep K467 (ninS ne520 nin0)).keep K474 (ninS ne520 nin0))
         have f522 : Fld Z T474.heap b20 kc0 "exposure" "Ljava/math/BigDecimal;" (.ref G_ZERO) := (((((g32_4.ext E36).keep K50 (ninS ne520 nin0)).keep K323 nin0).keep K467 (ninS ne520 nin0)).keep K474 (ninS ne520 nin0))
         have f524 : Exa Z T474.heap b20 kc0 := (((((g32_0.ext E36).keep K50).keep K323).keep K467).keep K474)
         obtain ⟨cq523, kq523, q523a, q523b, q523c⟩ := isOf hZ e515 f524
         refine w_virtual X515 hx (y := yn_10) (z := yn_10) hown (mvT hZ (wd_65 hw)) (mvT hZ (wd_66 hw)) (notFace_of_selects (args := #[]) (mvT hZ (wd_68 hw))) (mvT hZ (wd_68 hw)) (mvT hZ (wd_67 hw)) (by decide) (backOf (W := 1) (rm_m10_9 l Z aZ hw [] b20 G_EXPOSURE G__SwitchMap_com_example_ringfence_ringfence_gate_Measure k_G__SwitchMap_com_example_ringfence_ringfence_gate_Measure G_ZERO T474.heap n0 (Nat.le_trans Z0 le478) f521 S__SwitchMap_com_example_ringfence_ringfence_gate_Measure f481 f506 f509 f489 f522) hZ (wd_69 hw) (wd_2 hw) (by decide) (by decide)) q523a q523c (by rw [hml]; rfl) [(.ref G_EXPOSURE)] (lenOf pd_5 rfl) rfl (Nat.le_of_eq rfl) (hb hby at_234) (fun _ _ => ⟨rfl, e515, (by decide : 4 + 0 ≤ _), (by decide : 17 + 0 ≤ _)⟩) (pc' := 237) rfl ?_
         rintro _ _ ⟨T523, L523, k523, n523⟩ X523 ⟨Lc523, hQ523, l523, y523, z523⟩
         dsimp only [Pt.U, Pt.locs, Pt.cells, Pt.slots] at X523 l523 y523 z523 hQ523 ⊢
         subst l523 y523 z523
         obtain ⟨rfl, N523q, e523⟩ := hQ523
         have N525 := Fr.app N514 N523q
         show Runs _ _ _ _ (T523.setTop (mkF m 237 #[.val (.int p0), .val (.int p1), .val (.int p2), .val (.int p3), .val (.ref b20), .val (.ref b36), .val (.int ((p0 &&& (255 : Int32)).toUInt32.toUInt16.toUInt32.toInt32)), .val (.int ((p1 &&& (255 : Int32)).toUInt32.toUInt16.toUInt32.toInt32)), .val (.int ((p2 &&& (255 : Int32)).toUInt32.toUInt16.toUInt32.toInt32)), .val (.int (p3 &&& (3 : Int32))), .val (.ref r0_323), .val (.ref r0_323)] [(.ref G_ZERO), (.ref G_ZERO)]))
         refine w_acmp X523 hx (hb hby at_237) (same := true) rfl rfl (decide_eq_true rfl) (pc' := 240) (by decide) (by decide) ?_
         refine w_iconst X523 hx (hb hby at_240) (v := (1 : Int32)) rfl (pc' := 241) rfl ?_
         refine w_goto X523 hx (hb hby at_241) (pc' := 245) (by decide) (by decide) ?_
         exact w_doneH X523 hlk (v := some (.int (1 : Int32))) e523 hh hZ (own_EW hw) hS0 (Nat.le_trans (Nat.le_refl _) le478) C476 (fun h => by rw [hret] at h; cases h) (fun fs hr => retN X523 hx (t := .boolean) hret (by simp) (hb hby at_245) hr) (by decide) (by decide) (fun hsy => ⟨rfl, N525⟩)
       · refine w_ifN X467 hx (hb hby at_162) (feq hc471).1 (pc' := 165) rfl ?_
         refine w_aload X467 hx (hb hby at_165) rfl rfl (pc' := 167) rfl ?_
         have f526 : Old Z n0 T467.heap := ((f321.keep K323 all0).keep K467 (allS ge37 all0))
         have le527 : h0.size ≤ T467.heap.size := (Nat.le_trans le466 K467.1)
         obtain ⟨cq528, kq528, q528a, q528b, q528c⟩ := isOf hZ rfl g467_0
         refine w_virtual X467 hx (y := yn_8) (z := yn_8) hown (mvT hZ (wd_52 hw)) (mvT hZ (wd_53 hw)) (notFace_of_selects (args := #[]) (mvT hZ (wd_55 hw))) (mvT hZ (wd_55 hw)) (mvT hZ (wd_54 hw)) (by decide) (backOf (W := 0) (rm_m8_12 l Z aZ hw [] b36 r0_323 G_ZERO T467.heap n0 (Nat.le_trans Z0 le527) g467_0 g467_1 ge37 S_ZERO f526 g467_2 g467_3 g467_4 g467_5 g467_6) hZ (wd_56 hw) (wd_2 hw) (by decide) (by decide)) q528a q528c (by rw [hml]; rfl) [] (lenOf pd_2 rfl) rfl (Nat.le_of_eq rfl) (hb hby at_167) (fun _ _ => ⟨rfl, rfl, (by decide : 4 + 0 ≤ _), (by decide : 17 + 0 ≤ _)⟩) (pc' := 170) rfl ?_
         rintro _ _ ⟨T528, L528, k528, n528⟩ X528 ⟨Lc528, hQ528, l528, y528, z528⟩
         dsimp only [Pt.U, Pt.locs, Pt.cells, Pt.slots] at X528 l528 y528 z528 hQ528 ⊢
         subst l528 y528 z528
         obtain ⟨rfl, N528q, K528, g528_0, g528_1, g528_2, g528_3, g528_4, g528_5, g528_6⟩ := hQ528
         have N529 := Fr.app N468 N528q
         have C530 : CHr Z EL s.vm h0 s.vm T528.heap := C469.trans (CHr.keep K528 (sfS (Safe.exa hZ.alike g467_0 (by decide) (by decide)) sf0) C469.1)
         have K531 : Keep h0 T528.heap [] := K470.trans K528 (allS (Or.inr sz39) (all0 (P := fun x => x ∈ [] ∨ h0.size ≤ x)))
         show Runs _ _ _ _ (T528.setTop (mkF m 170 #[.val (.int p0), .val (.int p1), .val (.int p2), .val (.int p3), .val (.ref b20), .val (.ref b36), .val (.int ((p0 &&& (255 : Int32)).toUInt32.toUInt16.toUInt32.toInt32)), .val (.int ((p1 &&& (255 : Int32)).toUInt32.toUInt16.toUInt32.toInt32)), .val (.int ((p2 &&& (255 : Int32)).toUInt32.toUInt16.toUInt32.toInt32)), .val (.int (p3 &&& (3 : Int32))), .val (.ref r0_323), .val (.ref r0_323)] []))
         refine w_aload X528 hx (hb hby at_170) rfl rfl (pc' := 172) rfl ?_
         have f532 : Old Z n0 T528.heap := (f526.keep K528 (allS ge37 all0))
         have le533 : h0.size ≤ T528.heap.size := (Nat.le_trans le527 K528.1)
         obtain ⟨cq534, kq534, q534a, q534b, q534c⟩ := isOf hZ rfl g528_0
         refine w_virtual X528 hx (y := yn_8) (z := yn_8) hown (mvT hZ (wd_52 hw)) (mvT hZ (wd_53 hw)) (notFace_of_selects (args := #[]) (mvT hZ (wd_55 hw))) (mvT hZ (wd_55 hw)) (mvT hZ (wd_54 hw)) (by decide) (backOf (W := 0) (rm_m8_3 l Z aZ hw [] b36 G_ZERO T528.heap n0 (Nat.le_trans Z0 le533) g528_0 g528_1 ge37 S_ZERO f532 g528_2 g528_3 g528_4 g528_5 g528_6) hZ (wd_56 hw) (wd_2 hw) (by decide) (by decide)) q534a q534c (by rw [hml]; rfl) [] (lenOf pd_2 rfl) rfl (Nat.le_of_eq rfl) (hb hby at_172) (fun _ _ => ⟨rfl, rfl, (by decide : 4 + 0 ≤ _), (by decide : 17 + 0 ≤ _)⟩) (pc' := 175) rfl ?_
         rintro _ _ ⟨T534, L534, k534, n534⟩ X534 ⟨Lc534, hQ534, l534, y534, z534⟩
         dsimp only [Pt.U, Pt.locs, Pt.cells, Pt.slots] at X534 l534 y534 z534 hQ534 ⊢
         subst l534 y534 z534
         obtain ⟨rfl, N534q, K534, g534_0, g534_1, g534_2, g534_3, g534_4, g534_5, g534_6⟩ := hQ534
         have N535 := Fr.app N529 N534q
         have C536 : CHr Z EL s.vm h0 s.vm T534.heap := C530.trans (CHr.keep K534 (sfS (Safe.exa hZ.alike g528_0 (by decide) (by decide)) sf0) C530.1)
         have K537 : Keep h0 T534.heap [] := K531.trans K534 (allS (Or.inr sz39) (all0 (P := fun x => x ∈ [] ∨ h0.size ≤ x)))
         show Runs _ _ _ _ (T534.setTop (mkF m 175 #[.val (.int p0), .val (.int p1), .val (.int p2), .val (.int p3), .val (.ref b20), .val (.ref b36), .val (.int ((p0 &&& (255 : Int32)).toUInt32.toUInt16.toUInt32.toInt32)), .val (.int ((p1 &&& (255 : Int32)).toUInt32.toUInt16.toUInt32.toInt32)), .val (.int ((p2 &&& (255 : Int32)).toUInt32.toUInt16.toUInt32.toInt32)), .val (.int (p3 &&& (3 : Int32))), .val (.ref r0_323), .val (.ref r0_323)] []))
         refine w_aload X534 hx (hb hby at_175) rfl rfl (pc' := 177) rfl ?_
         have le538 : h0.size ≤ T534.heap.size := (Nat.le_trans le533 K534.1)
         obtain ⟨cq539, kq539, q539a, q539b, q539c⟩ := isOf hZ rfl g534_0
         refine w_virtual X534 hx (y := yn_9) (z := yn_9) hown (mvT hZ (wd_57 hw)) (mvT hZ (wd_58 hw)) (notFace_of_selects (args := #[]) (mvT hZ (wd_60 hw))) (mvT hZ (wd_60 hw)) (mvT hZ (wd_59 hw)) (by decide) (backOf (W := 0) (rm_m9_4 l Z aZ hw [] b36 T534.heap n0 (Nat.le_trans Z0 le538) g534_1) hZ (wd_61 hw) (wd_2 hw) (by decide) (by decide)) q539a q539c (by rw [hml]; rfl) [] (lenOf pd_3 rfl) rfl (Nat.le_of_eq rfl) (hb hby at_177) (fun _ _ => ⟨rfl, rfl, (by decide : 4 + 0 ≤ _), (by decide : 17 + 0 ≤ _)⟩) (pc' := 180) rfl ?_
         rintro _ _ ⟨T539, L539, k539, n539⟩ X539 ⟨Lc539, hQ539, l539, y539, z539⟩
         dsimp only [Pt.U, Pt.locs, Pt.cells, Pt.slots] at X539 l539 y539 z539 hQ539 ⊢
         subst l539 y539 z539
         obtain ⟨rfl, N539q, e539⟩ := hQ539
         have N540 := Fr.app N535 N539q
         show Runs _ _ _ _ (T539.setTop (mkF m 180 #[.val (.int p0), .val (.int p1), .val (.int p2), .val (.int p3), .val (.ref b20), .val (.ref b36), .val (.int ((p0 &&& (255 : Int32)).toUInt32.toUInt16.toUInt32.toInt32)), .val (.int ((p1 &&& (255 : Int32)).toUInt32.toUInt16.toUInt32.toInt32)), .val (.int ((p2 &&& (255 : Int32)).toUInt32.toUInt16.toUInt32.toInt32)), .val (.int (p3 &&& (3 : Int32))), .val (.ref r0_323), .val (.ref r0_323)] [.null]))
         refine w_ifnonnullN X539 hx (hb hby at_180) (pc' := 183) rfl ?_
         refine w_aload X539 hx (hb hby at_183) rfl rfl (pc' := 185) rfl ?_
         have f541 : Old Z n0 T534.heap := (f532.keep K534 (allS ge37 all0))
         refine w_getS X539 hx "" hZ hown (Or.inl (wd_62 hw)) Via.refl e539 (S_DOWNSIDE.ext f541.2) (hb hby at_185) (pc' := 188) rfl ?_
         intro T542 X542 e542
         have f543 : Exa Z T534.heap G_DOWNSIDE kc4 := ((((((((E_G_DOWNSIDE.ext E20).keep K32).ext E36).keep K50).keep K323).keep K467).keep K528).keep K534)
         have ne544 : G_DOWNSIDE ≠ b20 := (Nat.ne_of_lt (Nat.lt_of_lt_of_le E_G_DOWNSIDE.lt (Nat.le_trans (Nat.le_refl _) (Nat.le_of_eq g20.symm))))
         have ne545 : G_DOWNSIDE ≠ b36 := (Nat.ne_of_lt (Nat.lt_of_lt_of_le E_G_DOWNSIDE.lt (Nat.le_trans le38 (Nat.le_of_eq g36.symm))))
         have f546 : Fld Z T534.heap G_DOWNSIDE kc3 "ordinal" "I" (.int (1 : Int32)) := ((((((((F_ordinal_G_DOWNSIDE.ext E20).keep K32 (ninS ne544 nin0)).ext E36).keep K50 (ninS ne545 nin0)).keep K323 nin0).keep K467 (ninS ne545 nin0)).keep K528 (ninS ne545 nin0)).keep K534 (ninS ne545 nin0))
         have ne547 : G__SwitchMap_com_example_ringfence_ringfence_gate_Measure ≠ b20 := (Nat.ne_of_lt (Nat.lt_of_lt_of_le V_G__SwitchMap_com_example_ringfence_ringfence_gate_Measure.lt (Nat.le_trans (Nat.le_refl _) (Nat.le_of_eq g20.symm))))
         have ne548 : G__SwitchMap_com_example_ringfence_ringfence_gate_Measure ≠ b36 := (Nat.ne_of_lt (Nat.lt_of_lt_of_le V_G__SwitchMap_com_example_ringfence_ringfence_gate_Measure.lt (Nat.le_trans le38 (Nat.le_of_eq g36.symm))))
         have f549 : Arv Z T534.heap G__SwitchMap_com_example_ringfence_ringfence_gate_Measure k_G__SwitchMap_com_example_ringfence_ringfence_gate_Measure .int (5 : Int32) [(.int (1 : Int32)), (.int (2 : Int32)), (.int (3 : Int32)), (.int (4 : Int32)), (.int (5 : Int32))] (.int (0 : Int32)) := ((((((((V_G__SwitchMap_com_example_ringfence_ringfence_gate_Measure.ext E20).keep K32 (ninS ne547 nin0)).ext E36).keep K50 (ninS ne548 nin0)).keep K323 nin0).keep K467 (ninS ne548 nin0)).keep K528 (ninS ne548 nin0)).keep K534 (ninS ne548 nin0))
         obtain ⟨cq550, kq550, q550a, q550b, q550c⟩ := isOf hZ e542 g534_0
         refine w_virtual X542 hx (y := yn_10) (z := yn_10) hown (mvT hZ (wd_65 hw)) (mvT hZ (wd_66 hw)) (notFace_of_selects (args := #[]) (mvT hZ (wd_68 hw))) (mvT hZ (wd_68 hw)) (mvT hZ (wd_67 hw)) (by decide) (backOf (W := 0) (rm_m10_5 l Z aZ hw [] b36 G_DOWNSIDE G__SwitchMap_com_example_ringfence_ringfence_gate_Measure k_G__SwitchMap_com_example_ringfence_ringfence_gate_Measure G_ZERO T534.heap n0 (Nat.le_trans Z0 le538) g534_1 S__SwitchMap_com_example_ringfence_ringfence_gate_Measure f541 f543 f546 f549 g534_3) hZ (wd_69 hw) (wd_2 hw) (by decide) (by decide)) q550a q550c (by rw [hml]; rfl) [(.ref G_DOWNSIDE)] (lenOf pd_5 rfl) rfl (Nat.le_of_eq rfl) (hb hby at_188) (fun _ _ => ⟨rfl, e542, (by decide : 4 + 0 ≤ _), (by decide : 17 + 0 ≤ _)⟩) (pc' := 191) rfl ?_
         rintro _ _ ⟨T550, L550, k550, n550⟩ X550 ⟨Lc550, hQ550, l550, y550, z550⟩
         dsimp only [Pt.U, Pt.locs, Pt.cells, Pt.slots] at X550 l550 y550 z550 hQ550 ⊢
         subst l550 y550 z550
         obtain ⟨rfl, N550q, e550⟩ := hQ550
         have N551 := Fr.app N540 N550q
         show Runs _ _ _ _ (T550.setTop (mkF m 191 #[.val (.int p0), .val (.int p1), .val (.int p2), .val (.int p3), .val (.ref b20), .val (.ref b36), .val (.int ((p0 &&& (255 : Int32)).toUInt32.toUInt16.toUInt32.toInt32)), .val (.int ((p1 &&& (255 : Int32)).toUInt32.toUInt16.toUInt32.toInt32)), .val (.int ((p2 &&& (255 : Int32)).toUInt32.toUInt16.toUInt32.toInt32)), .val (.int (p3 &&& (3 : Int32))), .val (.ref r0_323), .val (.ref r0_323)] [(.ref G_ZERO)]))
         refine w_aload X550 hx (hb hby at_191) rfl rfl (pc' := 193) rfl ?_
         refine w_getS X550 hx "" hZ hown (Or.inl (wd_82 hw)) Via.refl e550 (S_UPSIDE.ext f541.2) (hb hby at_193) (pc' := 196) rfl ?_
         intro T552 X552 e552
         have f554 : Exa Z T534.heap G_UPSIDE kc4 := ((((((((E_G_UPSIDE.ext E20).keep K32).ext E36).keep K50).keep K323).keep K467).keep K528).keep K534)
         have ne555 : G_UPSIDE ≠ b20 := (Nat.ne_of_lt (Nat.lt_of_lt_of_le E_G_UPSIDE.lt (Nat.le_trans (Nat.le_refl _) (Nat.le_of_eq g20.symm))))
         have ne556 : G_UPSIDE ≠ b36 := (Nat.ne_of_lt (Nat.lt_of_lt_of_le E_G_UPSIDE.lt (Nat.le_trans le38 (Nat.le_of_eq g36.symm))))
         have f557 : Fld Z T534.heap G_UPSIDE kc3 "ordinal" "I" (.int (2 : Int32)) := ((((((((F_ordinal_G_UPSIDE.ext E20).keep K32 (ninS ne555 nin0)).ext E36).keep K50 (ninS ne556 nin0)).keep K323 nin0).keep K467 (ninS ne556 nin0)).keep K528 (ninS ne556 nin0)).keep K534 (ninS ne556 nin0))
         obtain ⟨cq558, kq558, q558a, q558b, q558c⟩ := isOf hZ e552 g534_0
         refine w_virtual X552 hx (y := yn_10) (z := yn_10) hown (mvT hZ (wd_65 hw)) (mvT hZ (wd_66 hw)) (notFace_of_selects (args := #[]) (mvT hZ (wd_68 hw))) (mvT hZ (wd_68 hw)) (mvT hZ (wd_67 hw)) (by decide) (backOf (W := 1) (rm_m10_7 l Z aZ hw [] b36 G_UPSIDE G__SwitchMap_com_example_ringfence_ringfence_gate_Measure k_G__SwitchMap_com_example_ringfence_ringfence_gate_Measure G_ZERO T534.heap n0 (Nat.le_trans Z0 le538) g534_1 S__SwitchMap_com_example_ringfence_ringfence_gate_Measure f541 f554 f557 f549 g534_4) hZ (wd_69 hw) (wd_2 hw) (by decide) (by decide)) q558a q558c (by rw [hml]; rfl) [(.ref G_UPSIDE)] (lenOf pd_5 rfl) rfl (Nat.le_of_eq rfl) (hb hby at_196) (fun _ _ => ⟨rfl, e552, (by decide : 4 + 0 ≤ _), (by decide : 17 + 0 ≤ _)⟩) (pc' := 199) rfl ?_
         rintro _ _ ⟨T558, L558, k558, n558⟩ X558 ⟨Lc558, hQ558, l558, y558, z558⟩
         dsimp only [Pt.U, Pt.locs, Pt.cells, Pt.slots] at X558 l558 y558 z558 hQ558 ⊢
         subst l558 y558 z558
         obtain ⟨rfl, N558q, e558⟩ := hQ558
         have N559 := Fr.app N551 N558q
         show Runs _ _ _ _ (T558.setTop (mkF m 199 #[.val (.int p0), .val (.int p1), .val (.int p2), .val (.int p3), .val (.ref b20), .val (.ref b36), .val (.int ((p0 &&& (255 : Int32)).toUInt32.toUInt16.toUInt32.toInt32)), .val (.int ((p1 &&& (255 : Int32)).toUInt32.toUInt16.toUInt32.toInt32)), .val (.int ((p2 &&& (255 : Int32)).toUInt32.toUInt16.toUInt32.toInt32)), .val (.int (p3 &&& (3 : Int32))), .val (.ref r0_323), .val (.ref r0_323)] [(.ref G_ZERO), (.ref G_ZERO)]))
         refine w_acmp X558 hx (hb hby at_199) (same := true) rfl rfl (decide_eq_true rfl) (pc' := 202) (by decide) (by decide) ?_
         refine w_aload X558 hx (hb hby at_202) rfl rfl (pc' := 204) rfl ?_
         refine w_getS X558 hx "" hZ hown (Or.inl (wd_82 hw)) Via.refl e558 (S_UPSIDE.ext f541.2) (hb hby at_204) (pc' := 207) rfl ?_
         intro T560 X560 e560
         obtain ⟨cq561, kq561, q561a, q561b, q561c⟩ := isOf hZ e560 g534_0
         refine w_virtual X560 hx (y := yn_10) (z := yn_10) hown (mvT hZ (wd_65 hw)) (mvT hZ (wd_66 hw)) (notFace_of_selects (args := #[]) (mvT hZ (wd_68 hw))) (mvT hZ (wd_68 hw)) (mvT hZ (wd_67 hw)) (by decide) (backOf (W := 0) (rm_m10_7 l Z aZ hw [] b36 G_UPSIDE G__SwitchMap_com_example_ringfence_ringfence_gate_Measure k_G__SwitchMap_com_example_ringfence_ringfence_gate_Measure G_ZERO T534.heap n0 (Nat.le_trans Z0 le538) g534_1 S__SwitchMap_com_example_ringfence_ringfence_gate_Measure f541 f554 f557 f549 g534_4) hZ (wd_69 hw) (wd_2 hw) (by decide) (by decide)) q561a q561c (by rw [hml]; rfl) [(.ref G_UPSIDE)] (lenOf pd_5 rfl) rfl (Nat.le_of_eq rfl) (hb hby at_207) (fun _ _ => ⟨rfl, e560, (by decide : 4 + 0 ≤ _), (by decide : 17 + 0 ≤ _)⟩) (pc' := 210) rfl ?_
         rintro _ _ ⟨T561, L561, k561, n561⟩ X561 ⟨Lc561, hQ561, l561, y561, z561⟩
         dsimp only [Pt.U, Pt.locs, Pt.cells, Pt.slots] at X561 l561 y561 z561 hQ561 ⊢
         subst l561 y561 z561
         obtain ⟨rfl, N561q, e561⟩ := hQ561
         have N562 := Fr.app N559 N561q
         show Runs _ _ _ _ (T561.setTop (mkF m 210 #[.val (.int p0), .val (.int p1), .val (.int p2), .val (.int p3), .val (.ref b20), .val (.ref b36), .val (.int ((p0 &&& (255 : Int32)).toUInt32.toUInt16.toUInt32.toInt32)), .val (.int ((p1 &&& (255 : Int32)).toUInt32.toUInt16.toUInt32.toInt32)), .val (.int ((p2 &&& (255 : Int32)).toUInt32.toUInt16.toUInt32.toInt32)), .val (.int (p3 &&& (3 : Int32))), .val (.ref r0_323), .val (.ref r0_323)] [(.ref G_ZERO)]))
         refine w_aload X561 hx (hb hby at_210) rfl rfl (pc' := 212) rfl ?_
         refine w_getS X561 hx "" hZ hown (Or.inl (wd_84 hw)) Via.refl e561 (S_EXPOSURE.ext f541.2) (hb hby at_212) (pc' := 215) rfl ?_
         intro T563 X563 e563
         have f566 : Exa Z T534.heap G_EXPOSURE kc4 := ((((((((E_G_EXPOSURE.ext E20).keep K32).ext E36).keep K50).keep K323).keep K467).keep K528).keep K534)
         have ne567 : G_EXPOSURE ≠ b20 := (Nat.ne_of_lt (Nat.lt_of_lt_of_le E_G_EXPOSURE.lt (Nat.le_trans (Nat.le_refl _) (Nat.le_of_eq g20.symm))))
         have ne568 : G_EXPOSURE ≠ b36 := (Nat.ne_of_lt (Nat.lt_of_lt_of_le E_G_EXPOSURE.lt (Nat.le_trans le38 (Nat.le_of_eq g36.symm))))
         have f569 : Fld Z T534.heap G_EXPOSURE kc3 "ordinal" "I" (.int (3 : Int32)) := ((((((((F_ordinal_G_EXPOSURE.ext E20).keep K32 (ninS ne567 nin0)).ext E36).keep K50 (ninS ne568 nin0)).keep K323 nin0).keep K467 (ninS ne568 nin0)).keep K528 (ninS ne568 nin0)).keep K534 (ninS ne568 nin0))
         obtain ⟨cq570, kq570, q570a, q570b, q570c⟩ := isOf hZ e563 g534_0
         refine w_virtual X563 hx (y := yn_10) (z := yn_10) hown (mvT hZ (wd_65 hw)) (mvT hZ (wd_66 hw)) (notFace_of_selects (args := #[]) (mvT hZ (wd_68 hw))) (mvT hZ (wd_68 hw)) (mvT hZ (wd_67 hw)) (by decide) (backOf (W := 1) (rm_m10_9 l Z aZ hw [] b36 G_EXPOSURE G__SwitchMap_com_example_ringfence_ringfence_gate_Measure k_G__SwitchMap_com_example_ringfence_ringfence_gate_Measure G_ZERO T534.heap n0 (Nat.le_trans Z0 le538) g534_1 S__SwitchMap_com_example_ringfence_ringfence_gate_Measure f541 f566 f569 f549 g534_5) hZ (wd_69 hw) (wd_2 hw) (by decide) (by decide)) q570a q570c (by rw [hml]; rfl) [(.ref G_EXPOSURE)] (lenOf pd_5 rfl) rfl (Nat.le_of_eq rfl) (hb hby at_215) (fun _ _ => ⟨rfl, e563, (by decide : 4 + 0 ≤ _), (by decide : 17 + 0 ≤ _)⟩) (pc' := 218) rfl ?_
         rintro _ _ ⟨T570, L570, k570, n570⟩ X570 ⟨Lc570, hQ570, l570, y570, z570⟩
         dsimp only [Pt.U, Pt.locs, Pt.cells, Pt.slots] at X570 l570 y570 z570 hQ570 ⊢
         subst l570 y570 z570
         obtain ⟨rfl, N570q, e570⟩ := hQ570
         have N571 := Fr.app N562 N570q
         show Runs _ _ _ _ (T570.setTop (mkF m 218 #[.val (.int p0), .val (.int p1), .val (.int p2), .val (.int p3), .val (.ref b20), .val (.ref b36), .val (.int ((p0 &&& (255 : Int32)).toUInt32.toUInt16.toUInt32.toInt32)), .val (.int ((p1 &&& (255 : Int32)).toUInt32.toUInt16.toUInt32.toInt32)), .val (.int ((p2 &&& (255 : Int32)).toUInt32.toUInt16.toUInt32.toInt32)), .val (.int (p3 &&& (3 : Int32))), .val (.ref r0_323), .val (.ref r0_323)] [(.ref G_ZERO), (.ref G_ZERO)]))
         refine w_acmp X570 hx (hb hby at_218) (same := true) rfl rfl (decide_eq_true rfl) (pc' := 221) (by decide) (by decide) ?_
         refine w_aload X570 hx (hb hby at_221) rfl rfl (pc' := 223) rfl ?_
         refine w_getS X570 hx "" hZ hown (Or.inl (wd_84 hw)) Via.refl e570 (S_EXPOSURE.ext f541.2) (hb hby at_223) (pc' := 226) rfl ?_
         intro T572 X572 e572
         obtain ⟨cq573, kq573, q573a, q573b, q573c⟩ := isOf hZ e572 g534_0
         refine w_virtual X572 hx (y := yn_10) (z := yn_10) hown (mvT hZ (wd_65 hw)) (mvT hZ (wd_66 hw)) (notFace_of_selects (args := #[]) (mvT hZ (wd_68 hw))) (mvT hZ (wd_68 hw)) (mvT hZ (wd_67 hw)) (by decide) (backOf (W := 0) (rm_m10_9 l Z aZ hw [] b36 G_EXPOSURE G__SwitchMap_com_example_ringfence_ringfence_gate_Measure k_G__SwitchMap_com_example_ringfence_ringfence_gate_Measure G_ZERO T534.heap n0 (Nat.le_trans Z0 le538) g534_1 S__SwitchMap_com_example_ringfence_ringfence_gate_Measure f541 f566 f569 f549 g534_5) hZ (wd_69 hw) (wd_2 hw) (by decide) (by decide)) q573a q573c (by rw [hml]; rfl) [(.ref G_EXPOSURE)] (lenOf pd_5 rfl) rfl (Nat.le_of_eq rfl) (hb hby at_226) (fun _ _ => ⟨rfl, e572, (by decide : 4 + 0 ≤ _), (by decide : 17 + 0 ≤ _)⟩) (pc' := 229) rfl ?_
         rintro _ _ ⟨T573, L573, k573, n573⟩ X573 ⟨Lc573, hQ573, l573, y573, z573⟩
         dsimp only [Pt.U, Pt.locs, Pt.cells, Pt.slots] at X573 l573 y573 z573 hQ573 ⊢
         subst l573 y573 z573
         obtain ⟨rfl, N573q, e573⟩ := hQ573
         have N574 := Fr.app N571 N573q
         show Runs _ _ _ _ (T573.setTop (mkF m 229 #[.val (.int p0), .val (.int p1), .val (.int p2), .val (.int p3), .val (.ref b20), .val (.ref b36), .val (.int ((p0 &&& (255 : Int32)).toUInt32.toUInt16.toUInt32.toInt32)), .val (.int ((p1 &&& (255 : Int32)).toUInt32.toUInt16.toUInt32.toInt32)), .val (.int ((p2 &&& (255 : Int32)).toUInt32.toUInt16.toUInt32.toInt32)), .val (.int (p3 &&& (3 : Int32))), .val (.ref r0_323), .val (.ref r0_323)] [(.ref G_ZERO)]))
         refine w_aload X573 hx (hb hby at_229) rfl rfl (pc' := 231) rfl ?_
         refine w_getS X573 hx "" hZ hown (Or.inl (wd_84 hw)) Via.refl e573 (S_EXPOSURE.ext f541.2) (hb hby at_231) (pc' := 234) rfl ?_
         intro T575 X575 e575
         have ne580 : b20 ≠ b36 := (Nat.ne_of_lt (Nat.lt_of_lt_of_le A20.lt (Nat.le_trans K32.1 (Nat.le_of_eq g36.symm))))
         have f581 : Fld Z T534.heap b20 kc0 "unrated" "Ljava/lang/String;" .null := ((((((g32_6.ext E36).keep K50 (ninS ne580 nin0)).keep K323 nin0).keep K467 (ninS ne580 nin0)).keep K528 (ninS ne580 nin0)).keep K534 (ninS ne580 nin0))
         have f582 : Fld Z T534.heap b20 kc0 "exposure" "Ljava/math/BigDecimal;" (.ref G_ZERO) := ((((((g32_4.ext E36).keep K50 (ninS ne580 nin0)).keep K323 nin0).keep K467 (ninS ne580 nin0)).keep K528 (ninS ne580 nin0)).keep K534 (ninS ne580 nin0))
         have f584 : Exa Z T534.heap b20 kc0 := ((((((g32_0.ext E36).keep K50).keep K323).keep K467).keep K528).keep K534)
         obtain ⟨cq583, kq583, q583a, q583b, q583c⟩ := isOf hZ e575 f584
         refine w_virtual X575 hx (y := yn_10) (z := yn_10) hown (mvT hZ (wd_65 hw)) (mvT hZ (wd_66 hw)) (notFace_of_selects (args := #[]) (mvT hZ (wd_68 hw))) (mvT hZ (wd_68 hw)) (mvT hZ (wd_67 hw)) (by decide) (backOf (W := 1) (rm_m10_9 l Z aZ hw [] b20 G_EXPOSURE G__SwitchMap_com_example_ringfence_ringfence_gate_Measure k_G__SwitchMap_com_example_ringfence_ringfence_gate_Measure G_ZERO T534.heap n0 (Nat.le_trans Z0 le538) f581 S__SwitchMap_com_example_ringfence_ringfence_gate_Measure f541 f566 f569 f549 f582) hZ (wd_69 hw) (wd_2 hw) (by decide) (by decide)) q583a q583c (by rw [hml]; rfl) [(.ref G_EXPOSURE)] (lenOf pd_5 rfl) rfl (Nat.le_of_eq rfl) (hb hby at_234) (fun _ _ => ⟨rfl, e575, (by decide : 4 + 0 ≤ _), (by decide : 17 + 0 ≤ _)⟩) (pc' := 237) rfl ?_
         rintro _ _ ⟨T583, L583, k583, n583⟩ X583 ⟨Lc583, hQ583, l583, y583, z583⟩
         dsimp only [Pt.U, Pt.locs, Pt.cells, Pt.slots] at X583 l583 y583 z583 hQ583 ⊢
         subst l583 y583 z583
         obtain ⟨rfl, N583q, e583⟩ := hQ583
         have N585 := Fr.app N574 N583q
         show Runs _ _ _ _ (T583.setTop (mkF m 237 #[.val (.int p0), .val (.int p1), .val (.int p2), .val (.int p3), .val (.ref b20), .val (.ref b36), .val (.int ((p0 &&& (255 : Int32)).toUInt32.toUInt16.toUInt32.toInt32)), .val (.int ((p1 &&& (255 : Int32)).toUInt32.toUInt16.toUInt32.toInt32)), .val (.int ((p2 &&& (255 : Int32)).toUInt32.toUInt16.toUInt32.toInt32)), .val (.int (p3 &&& (3 : Int32))), .val (.ref r0_323), .val (.ref r0_323)] [(.ref G_ZERO), (.ref G_ZERO)]))
         refine w_acmp X583 hx (hb hby at_237) (same := true) rfl rfl (decide_eq_true rfl) (pc' := 240) (by decide) (by decide) ?_
         refine w_iconst X583 hx (hb hby at_240) (v := (1 : Int32)) rfl (pc' := 241) rfl ?_
         refine w_goto X583 hx (hb hby at_241) (pc' := 245) (by decide) (by decide) ?_
         exact w_doneH X583 hlk (v := some (.int (1 : Int32))) e583 hh hZ (own_EW hw) hS0 (Nat.le_trans (Nat.le_refl _) le538) C536 (fun h => by rw [hret] at h; cases h) (fun fs hr => retN X583 hx (t := .boolean) hret (by simp) (hb hby at_245) hr) (by decide) (by decide) (fun hsy => ⟨rfl, N585⟩)
   · refine w_icY X50 hx (hb hby at_64) (feq hc320).2 (pc' := 77) (by decide) (by decide) ?_
     refine w_iload X50 hx (hb hby at_77) rfl (pc' := 79) rfl ?_
     refine w_iconst X50 hx (hb hby at_79) (v := (2 : Int32)) rfl (pc' := 80) rfl ?_
     by_cases hc586 : (p3 &&& (3 : Int32)) = (2 : Int32)
     · refine w_icN X50 hx (hb hby at_80) (teq hc586).2 (pc' := 83) rfl ?_
       refine w_new X50 hx hZ hown (wd_86 hw) (wd_31 hw) (wd_23 hw) rfl (hb hby at_83) (by decide) (by decide) (pc' := 86) rfl ?_
       intro T587 h587 b587 X587 e587 E587 g587 A587 D587
       have le589 : h0.size ≤ T50.heap.size := (Nat.le_trans le49 K50.1)
       have ge588 : n0 ≤ b587 := Nat.le_trans (Nat.le_trans Z0 le589) (Nat.le_of_eq g587.symm)
       have sz590 : h0.size ≤ b587 := Nat.le_trans le589 (Nat.le_of_eq g587.symm)
       have C591 : CHr Z EL s.vm h0 s.vm h587 := C52.trans (CHr.ext E587 C52.1)
       have K592 : Keep h0 h587 [] := K53.ext E587
       have f593 : Fld Z h587 b587 kc2 "value" "[B" .null := D587 (Or.inr (wd_42 hw)) (ty := (.array .byte)) (by decide)
       have f594 : Fld Z h587 b587 kc2 "coder" "B" (.int (0 : Int32)) := D587 (Or.inr (wd_44 hw)) (ty := .byte) (by decide)
       refine w_dup X587 hx (hb hby at_86) rfl (pc' := 87) rfl ?_
       refine w_iconst X587 hx (hb hby at_87) (v := (2 : Int32)) rfl (pc' := 88) rfl ?_
       refine w_newP X587 hx .char .char 2 rfl hZ (wd_87 hw) e587 (hb hby at_88) (by decide) (by decide) (by decide) (by decide) (by decide) (pc' := 90) rfl ?_
       intro T595 h595 k595 b595 X595 e595 E595 g595 A595
       have le597 : h0.size ≤ h587.size := (Nat.le_trans le589 E587.1)
       have ge596 : n0 ≤ b595 := Nat.le_trans (Nat.le_trans Z0 le597) (Nat.le_of_eq g595.symm)
       have sz598 : h0.size ≤ b595 := Nat.le_trans le597 (Nat.le_of_eq g595.symm)
       have C599 : CHr Z EL s.vm h0 s.vm h595 := C591.trans (CHr.ext E595 C591.1)
       have K600 : Keep h0 h595 [] := K592.ext E595
       have V601 : Arv Z h595 b595 k595 .char (2 : Int32) [(.int (0 : Int32)), (.int (0 : Int32))] (.int (0 : Int32)) := (Arv.new A595 (by decide)).pad (pad_rep [] (.int (0 : Int32)) 2)
       refine w_dup X595 hx (hb hby at_90) rfl (pc' := 91) rfl ?_
       refine w_iconst X595 hx (hb hby at_91) (v := (0 : Int32)) rfl (pc' := 92) rfl ?_
       refine w_iload X595 hx (hb hby at_92) rfl (pc' := 94) rfl ?_
       obtain ⟨clu602, Aru602, qu602, Su602, Nu602, Hu602, Gu602⟩ := id V601
       have hinu602 := inb_of (j := (0 : Int32)) Su602 ⟨by decide, by decide⟩
       refine w_stC X595 hx hZ e595 Aru602 hinu602 (hb hby at_94) (pc' := 95) rfl ?_
       intro T603 h603 X603 e603 W603
       have C604 : CHr Z EL s.vm h0 s.vm h603 := C599.trans (CHr.wr W603 (Safe.arv hZ.alike V601 (by decide)) C599.1)
       have V605 : Arv Z h603 b595 k595 .char (2 : Int32) [(.int (nar .char ((p0 &&& (255 : Int32)).toUInt32.toUInt16.toUInt32.toInt32))), (.int (0 : Int32))] (.int (0 : Int32)) := Arv.set Aru602 qu602 Su602 Nu602 Hu602 Gu602 (fits_nar_char _) W603 0 rfl (Nat.le_of_ble_eq_true rfl)
       have V606 : Arv Z h603 b595 k595 .char (2 : Int32) [(.int ((p0 &&& (255 : Int32)).toUInt32.toUInt16.toUInt32.toInt32)), (.int (0 : Int32))] (.int (0 : Int32)) := by rw [nar_c] at V605; exact V605
       have K607 : Keep h0 h603 [] := K600.wr W603 (Or.inr sz598)
       have N608 := Fr.snoc X603 N51 ge596
       refine w_dup X603 hx (hb hby at_95) rfl (pc' := 96) rfl ?_
       refine w_iconst X603 hx (hb hby at_96) (v := (1 : Int32)) rfl (pc' := 97) rfl ?_
       refine w_iload X603 hx (hb hby at_97) rfl (pc' := 99) rfl ?_
       obtain ⟨clu609, Aru609, qu609, Su609, Nu609, Hu609, Gu609⟩ := id V606
       have hinu609 := inb_of (j := (1 : Int32)) Su609 ⟨by decide, by decide⟩
       refine w_stC X603 hx hZ e603 Aru609 hinu609 (hb hby at_99) (pc' := 100) rfl ?_
       intro T610 h610 X610 e610 W610
       have C611 : CHr Z EL s.vm h0 s.vm h610 := C604.trans (CHr.wr W610 (Safe.arv hZ.alike V606 (by decide)) C604.1)
       have V612 : Arv Z h610 b595 k595 .char (2 : Int32) [(.int ((p0 &&& (255 : Int32)).toUInt32.toUInt16.toUInt32.toInt32)), (.int (nar .char ((p1 &&& (255 : Int32)).toUInt32.toUInt16.toUInt32.toInt32)))] (.int (0 : Int32)) := Arv.set Aru609 qu609 Su609 Nu609 Hu609 Gu609 (fits_nar_char _) W610 1 rfl (Nat.le_of_ble_eq_true rfl)
       have V613 : Arv Z h610 b595 k595 .char (2 : Int32) [(.int ((p0 &&& (255 : Int32)).toUInt32.toUInt16.toUInt32.toInt32)), (.int ((p1 &&& (255 : Int32)).toUInt32.toUInt16.toUInt32.toInt32))] (.int (0 : Int32)) := by rw [nar_c] at V612; exact V612
       have K614 : Keep h0 h610 [] := K607.wr W610 (Or.inr sz598)
       have N615 := Fr.snoc X610 N608 ge596
       have le616 : h0.size ≤ h595.size := (Nat.le_trans le597 E595.1)
       have le617 : h0.size ≤ h603.size := (Nat.le_trans le616 (Keep.of_wr W603).1)
       have le618 : h0.size ≤ h610.size := (Nat.le_trans le617 (Keep.of_wr W610).1)
       have f620 : Exa Z h610 b587 kc2 := (((A587.ext E595).wr W603).wr W610)
       have ne621 : b587 ≠ b595 := (Nat.ne_of_lt (Nat.lt_of_lt_of_le A587.lt (Nat.le_trans (Nat.le_refl _) (Nat.le_of_eq g595.symm))))
       have f622 : Fld Z h610 b587 kc2 "value" "[B" .null := (((f593.ext E595).other W603 (Or.inl ne621)).other W610 (Or.inl ne621))
       have f623 : Fld Z h610 b587 kc2 "coder" "B" (.int (0 : Int32)) := (((f594.ext E595).other W603 (Or.inl ne621)).other W610 (Or.inl ne621))
       have f624 : Old Z n0 h610 := (((((f48.keep K50 (allS ge37 all0)).ext E587).ext E595).wr W603 ge596).wr W610 ge596)
       refine w_special X610 hx (y := yn_12) rfl hown (mvT hZ (wd_88 hw)) (mvT hZ (wd_89 hw)) (mvT hZ (wd_90 hw)) (by decide) (StrChars.Road.backV (W := 1) hZ (own_hws hw) (kI := 4) (wd_31 hw) (cs := ([((p0 &&& (255 : Int32)).toUInt32.toUInt16.toUInt32.toInt32), ((p1 &&& (255 : Int32)).toUInt32.toUInt16.toUInt32.toInt32)] : List Int32)) (bs := ([((p0 &&& (255 : Int32)).toUInt32.toUInt16.toUInt32.toInt32), ((p1 &&& (255 : Int32)).toUInt32.toUInt16.toUInt32.toInt32)] : List Int32).map (fun c => c.toInt8.toInt32)) (n := 2) ge588 (Nat.le_trans Z0 le618) f620 f622 f623 V613 (S_COMPACT_STRINGS.ext f624.2) hP_13 rfl rfl (by decide) (by decide) (List.forall_mem_cons.2 ⟨(own_and255 p0), (List.forall_mem_cons.2 ⟨(own_and255 p1), (fun _ h => nomatch h)⟩)⟩) rfl (by decide) (by decide)) (by rw [hml]; rfl) [(.ref b595)] (lenOf pd_10 rfl) rfl (Nat.le_of_eq rfl) (hb hby at_100) (fun _ _ => ⟨rfl, e610, (by decide : 4 + 1 ≤ _), (by decide : 18 + 2 ≤ _)⟩) (pc' := 103) rfl ?_
       rintro _ _ ⟨T619, L619, k619, n619⟩ X619 ⟨Lc619, hQ619, l619, y619, z619⟩
       dsimp only [Pt.U, Pt.locs, Pt.cells, Pt.slots] at X619 l619 y619 z619 hQ619 ⊢
       subst l619 y619 z619
       obtain ⟨rfl, N619q, K619, g619_0, g619_1, t_619, kb_619, g619_2, g619_3, g619_4, g619_5, g619_6⟩ := hQ619
       have N625 := Fr.app N615 N619q
       have y626 : Safe Z EL s.vm h610 b587 := (Safe.wr W610 (Safe.arv hZ.alike V606 (by decide)) C604.1 (Safe.wr W603 (Safe.arv hZ.alike V601 (by decide)) C599.1 (Safe.ext E595 C591.1 (Safe.ext E587 C52.1 (Safe.new (Nat.le_of_eq g587.symm))))))
       have C627 : CHr Z EL s.vm h0 s.vm T619.heap := C611.trans (CHr.keep K619 (sfS y626 sf0) C611.1)
       have K628 : Keep h0 T619.heap [] := K614.trans K619 (allS (Or.inr sz590) (all0 (P := fun x => x ∈ [] ∨ h0.size ≤ x)))
       have ge629 : n0 ≤ t_619 := Nat.le_trans (Nat.le_trans Z0 le618) g619_3
       have sz630 : h0.size ≤ t_619 := Nat.le_trans le618 g619_3
       show Runs _ _ _ _ (T619.setTop (mkF m 103 #[.val (.int p0), .val (.int p1), .val (.int p2), .val (.int p3), .val (.ref b20), .val (.ref b36), .val (.int ((p0 &&& (255 : Int32)).toUInt32.toUInt16.toUInt32.toInt32)), .val (.int ((p1 &&& (255 : Int32)).toUInt32.toUInt16.toUInt32.toInt32)), .val (.int ((p2 &&& (255 : Int32)).toUInt32.toUInt16.toUInt32.toInt32)), .val (.int (p3 &&& (3 : Int32))), .unset, .unset] [(.ref b587)]))
       refine w_astore X619 hx (hb hby at_103) rfl (L' := #[.val (.int p0), .val (.int p1), .val (.int p2), .val (.int p3), .val (.ref b20), .val (.ref b36), .val (.int ((p0 &&& (255 : Int32)).toUInt32.toUInt16.toUInt32.toInt32)), .val (.int ((p1 &&& (255 : Int32)).toUInt32.toUInt16.toUInt32.toInt32)), .val (.int ((p2 &&& (255 : Int32)).toUInt32.toUInt16.toUInt32.toInt32)), .val (.int (p3 &&& (3 : Int32))), .val (.ref b587), .unset]) rfl (pc' := 105) rfl ?_
       refine w_goto X619 hx (hb hby at_105) (pc' := 135) (by decide) (by decide) ?_
       refine w_iloadN X619 hx (hb hby at_135) rfl (pc' := 136) rfl ?_
       refine w_iconst X619 hx (hb hby at_136) (v := (2 : Int32)) rfl (pc' := 137) rfl ?_
       refine w_ishr X619 hx (hb hby at_137) (pc' := 138) rfl ?_
       refine w_iconst X619 hx (hb hby at_138) (v := (1 : Int32)) rfl (pc' := 139) rfl ?_
       refine w_iand X619 hx (hb hby at_139) (pc' := 140) rfl ?_
       by_cases hc631 : ((p3 >>> ((2 : Int32) &&& 31)) &&& (1 : Int32)) = (0 : Int32)
       · refine w_ifY X619 hx (hb hby at_140) (teq hc631).1 (pc' := 148) (by decide) (by decide) ?_
         refine w_null X619 hx (hb hby at_148) (pc' := 149) rfl ?_
         refine w_astore X619 hx (hb hby at_149) rfl (L' := #[.val (.int p0), .val (.int p1), .val (.int p2), .val (.int p3), .val (.ref b20), .val (.ref b36), .val (.int ((p0 &&& (255 : Int32)).toUInt32.toUInt16.toUInt32.toInt32)), .val (.int ((p1 &&& (255 : Int32)).toUInt32.toUInt16.toUInt32.toInt32)), .val (.int ((p2 &&& (255 : Int32)).toUInt32.toUInt16.toUInt32.toInt32)), .val (.int (p3 &&& (3 : Int32))), .val (.ref b587), .val .null]) rfl (pc' := 151) rfl ?_
         refine w_aload X619 hx (hb hby at_151) rfl rfl (pc' := 153) rfl ?_
         refine w_aload X619 hx (hb hby at_153) rfl rfl (pc' := 155) rfl ?_
         have f632 : Exa Z T619.heap b36 kc0 := (((((g50_0.ext E587).ext E595).wr W603).wr W610).keep K619)
         have le633 : h36.size ≤ h587.size := (Nat.le_trans K50.1 E587.1)
         have ne634 : b36 ≠ b595 := (Nat.ne_of_lt (Nat.lt_of_lt_of_le A36.lt (Nat.le_trans le633 (Nat.le_of_eq g595.symm))))
         have ne635 : b36 ≠ b587 := (Nat.ne_of_lt (Nat.lt_of_lt_of_le A36.lt (Nat.le_trans K50.1 (Nat.le_of_eq g587.symm))))
         have f636 : Fld Z T619.heap b36 kc0 "unrated" "Ljava/lang/String;" .null := (((((g50_6.ext E587).ext E595).other W603 (Or.inl ne634)).other W610 (Or.inl ne634)).keep K619 (ninS ne635 nin0))
         have f637 : Fld Z T619.heap b36 kc0 "open" "Ljava/math/BigDecimal;" (.ref G_ZERO) := (((((g50_1.ext E587).ext E595).other W603 (Or.inl ne634)).other W610 (Or.inl ne634)).keep K619 (ninS ne635 nin0))
         have f638 : Fld Z T619.heap b36 kc0 "downside" "Ljava/math/BigDecimal;" (.ref G_ZERO) := (((((g50_2.ext E587).ext E595).other W603 (Or.inl ne634)).other W610 (Or.inl ne634)).keep K619 (ninS ne635 nin0))
         have f639 : Fld Z T619.heap b36 kc0 "upside" "Ljava/math/BigDecimal;" (.ref G_ZERO) := (((((g50_3.ext E587).ext E595).other W603 (Or.inl ne634)).other W610 (Or.inl ne634)).keep K619 (ninS ne635 nin0))
         have f640 : Fld Z T619.heap b36 kc0 "exposure" "Ljava/math/BigDecimal;" (.ref G_ZERO) := (((((g50_4.ext E587).ext E595).other W603 (Or.inl ne634)).other W610 (Or.inl ne634)).keep K619 (ninS ne635 nin0))
         have f641 : Fld Z T619.heap b36 kc0 "pool" "Lcom/example/ringfence/ringfence/gate/Pool;" .null := (((((g50_5.ext E587).ext E595).other W603 (Or.inl ne634)).other W610 (Or.inl ne634)).keep K619 (ninS ne635 nin0))
         have le642 : h0.size ≤ T619.heap.size := (Nat.le_trans le618 K619.1)
         obtain ⟨cq643, kq643, q643a, q643b, q643c⟩ := isOf hZ rfl f632
         refine w_virtual X619 hx (y := yn_7) (z := yn_7) hown (mvT hZ (wd_45 hw)) (mvT hZ (wd_46 hw)) (notFace_of_selects (args := #[]) (mvT hZ (wd_48 hw))) (mvT hZ (wd_48 hw)) (mvT hZ (wd_47 hw)) (by decide) (backOf (W := 0) (rm_m7_2 l Z aZ hw [] b36 G_ZERO T619.heap n0 (Nat.le_trans Z0 le642) f632 f636 ge37 f637 f638 f639 f640 f641) hZ (wd_49 hw) (wd_2 hw) (by decide) (by decide)) q643a q643c (by rw [hml]; rfl) [.null] (lenOf pd_1 rfl) rfl (Nat.le_of_eq rfl) (hb hby at_155) (fun _ _ => ⟨rfl, rfl, (by decide : 5 + 0 ≤ _), (by decide : 20 + 0 ≤ _)⟩) (pc' := 158) rfl ?_
         rintro _ _ ⟨T643, L643, k643, n643⟩ X643 ⟨Lc643, hQ643, l643, y643, z643⟩
         dsimp only [Pt.U, Pt.locs, Pt.cells, Pt.slots] at X643 l643 y643 z643 hQ643 ⊢
         subst l643 y643 z643
         obtain ⟨rfl, N643q, K643, g643_0, g643_1, g643_2, g643_3, g643_4, g643_5, g643_6⟩ := hQ643
         have N644 := Fr.app N625 N643q
         have C645 : CHr Z EL s.vm h0 s.vm T643.heap := C627.trans (CHr.keep K643 (sfS (Safe.exa hZ.alike f632 (by decide) (by decide)) sf0) C627.1)
         have K646 : Keep h0 T643.heap [] := K628.trans K643 (allS (Or.inr sz39) (all0 (P := fun x => x ∈ [] ∨ h0.size ≤ x)))
         show Runs _ _ _ _ (T643.setTop (mkF m 158 #[.val (.int p0), .val (.int p1), .val (.int p2), .val (.int p3), .val (.ref b20), .val (.ref b36), .val (.int ((p0 &&& (255 : Int32)).toUInt32.toUInt16.toUInt32.toInt32)), .val (.int ((p1 &&& (255 : Int32)).toUInt32.toUInt16.toUInt32.toInt32)), .val (.int ((p2 &&& (255 : Int32)).toUInt32.toUInt16.toUInt32.toInt32)), .val (.int (p3 &&& (3 : Int32))), .val (.ref b587), .val .null] []))
         refine w_iloadN X643 hx (hb hby at_158) rfl (pc' := 159) rfl ?_
         refine w_bipush X643 hx (hb hby at_159) (v := (8 : Int32)) rfl (pc' := 161) rfl ?_
         refine w_iand X643 hx (hb hby at_161) (pc' := 162) rfl ?_
         by_cases hc647 : (p3 &&& (8 : Int32)) = (0 : Int32)
         · refine w_ifY X643 hx (hb hby at_162) (teq hc647).1 (pc' := 170) (by decide) (by decide) ?_
           refine w_aload X643 hx (hb hby at_170) rfl rfl (pc' := 172) rfl ?_
           have f648 : Old Z n0 T643.heap := ((f624.keep K619 (allS ge588 all0)).keep K643 (allS ge37 all0))
           have le649 : h0.size ≤ T643.heap.size := (Nat.le_trans le642 K643.1)
           obtain ⟨cq650, kq650, q650a, q650b, q650c⟩ := isOf hZ rfl g643_0
           refine w_virtual X643 hx (y := yn_8) (z := yn_8) hown (mvT hZ (wd_52 hw)) (mvT hZ (wd_53 hw)) (notFace_of_selects (args := #[]) (mvT hZ (wd_55 hw))) (mvT hZ (wd_55 hw)) (mvT hZ (wd_54 hw)) (by decide) (backOf (W := 0) (rm_m8_3 l Z aZ hw [] b36 G_ZERO T643.heap n0 (Nat.le_trans Z0 le649) g643_0 g643_1 ge37 S_ZERO f648 g643_2 g643_3 g643_4 g643_5 g643_6) hZ (wd_56 hw) (wd_2 hw) (by decide) (by decide)) q650a q650c (by rw [hml]; rfl) [] (lenOf pd_2 rfl) rfl (Nat.le_of_eq rfl) (hb hby at_172) (fun _ _ => ⟨rfl, rfl, (by decide : 5 + 0 ≤ _), (by decide : 20 + 0 ≤ _)⟩) (pc' := 175) rfl ?_
           rintro _ _ ⟨T650, L650, k650, n650⟩ X650 ⟨Lc650, hQ650, l650, y650, z650⟩
           dsimp only [Pt.U, Pt.locs, Pt.cells, Pt.slots] at X650 l650 y650 z650 hQ650 ⊢
           subst l650 y650 z650
           obtain ⟨rfl, N650q, K650, g650_0, g650_1, g650_2, g650_3, g650_4, g650_5, g650_6⟩ := hQ650
           have N651 := Fr.app N644 N650q
           have C652 : CHr Z EL s.vm h0 s.vm T650.heap := C645.trans (CHr.keep K650 (sfS (Safe.exa hZ.alike g643_0 (by decide) (by decide)) sf0) C645.1)
           have K653 : Keep h0 T650.heap [] := K646.trans K650 (allS (Or.inr sz39) (all0 (P := fun x => x ∈ [] ∨ h0.size ≤ x)))
           show Runs _ _ _ _ (T650.setTop (mkF m 175 #[.val (.int p0), .val (.int p1), .val (.int p2), .val (.int p3), .val (.ref b20), .val (.ref b36), .val (.int ((p0 &&& (255 : Int32)).toUInt32.toUInt16.toUInt32.toInt32)), .val (.int ((p1 &&& (255 : Int32)).toUInt32.toUInt16.toUInt32.toInt32)), .val (.int ((p2 &&& (255 : Int32)).toUInt32.toUInt16.toUInt32.toInt32)), .val (.int (p3 &&& (3 : Int32))), .val (.ref b587), .val .null] []))
           refine w_aload X650 hx (hb hby at_175) rfl rfl (pc' := 177) rfl ?_
           have le654 : h0.size ≤ T650.heap.size := (Nat.le_trans le649 K650.1)
           obtain ⟨cq655, kq655, q655a, q655b, q655c⟩ := isOf hZ rfl g650_0
           refine w_virtual X650 hx (y := yn_9) (z := yn_9) hown (mvT hZ (wd_57 hw)) (mvT hZ (wd_58 hw)) (notFace_of_selects (args := #[]) (mvT hZ (wd_60 hw))) (mvT hZ (wd_60 hw)) (mvT hZ (wd_59 hw)) (by decide) (backOf (W := 0) (rm_m9_4 l Z aZ hw [] b36 T650.heap n0 (Nat.le_trans Z0 le654) g650_1) hZ (wd_61 hw) (wd_2 hw) (by decide) (by decide)) q655a q655c (by rw [hml]; rfl) [] (lenOf pd_3 rfl) rfl (Nat.le_of_eq rfl) (hb hby at_177) (fun _ _ => ⟨rfl, rfl, (by decide : 5 + 0 ≤ _), (by decide : 20 + 0 ≤ _)⟩) (pc' := 180) rfl ?_
           rintro _ _ ⟨T655, L655, k655, n655⟩ X655 ⟨Lc655, hQ655, l655, y655, z655⟩
           dsimp only [Pt.U, Pt.locs, Pt.cells, Pt.slots] at X655 l655 y655 z655 hQ655 ⊢
           subst l655 y655 z655
           obtain ⟨rfl, N655q, e655⟩ := hQ655
           have N656 := Fr.app N651 N655q
           show Runs _ _ _ _ (T655.setTop (mkF m 180 #[.val (.int p0), .val (.int p1), .val (.int p2), .val (.int p3), .val (.ref b20), .val (.ref b36), .val (.int ((p0 &&& (255 : Int32)).toUInt32.toUInt16.toUInt32.toInt32)), .val (.int ((p1 &&& (255 : Int32)).toUInt32.toUInt16.toUInt32.toInt32)), .val (.int ((p2 &&& (255 : Int32)).toUInt32.toUInt16.toUInt32.toInt32)), .val (.int (p3 &&& (3 : Int32))), .val (.ref b587), .val .null] [.null]))
           refine w_ifnonnullN X655 hx (hb hby at_180) (pc' := 183) rfl ?_
           refine w_aload X655 hx (hb hby at_183) rfl rfl (pc' := 185) rfl ?_
           have f657 : Old Z n0 T650.heap := (f648.keep K650 (allS ge37 all0))
           refine w_getS X655 hx "" hZ hown (Or.inl (wd_62 hw)) Via.refl e655 (S_DOWNSIDE.ext f657.2) (hb hby at_185) (pc' := 188) rfl ?_
           intro T658 X658 e658
           have f659 : Exa Z T650.heap G_DOWNSIDE kc4 := (((((((((((E_G_DOWNSIDE.ext E20).keep K32).ext E36).keep K50).ext E587).ext E595).wr W603).wr W610).keep K619).keep K643).keep K650)
           have ne660 : G_DOWNSIDE ≠ b20 := (Nat.ne_of_lt (Nat.lt_of_lt_of_le E_G_DOWNSIDE.lt (Nat.le_trans (Nat.le_refl _) (Nat.le_of_eq g20.symm))))
           have ne661 : G_DOWNSIDE ≠ b36 := (Nat.ne_of_lt (Nat.lt_of_lt_of_le E_G_DOWNSIDE.lt (Nat.le_trans le38 (Nat.le_of_eq g36.symm))))
           have ne662 : G_DOWNSIDE ≠ b595 := (Nat.ne_of_lt (Nat.lt_of_lt_of_le E_G_DOWNSIDE.lt (Nat.le_trans le597 (Nat.le_of_eq g595.symm))))
           have ne663 : G_DOWNSIDE ≠ b587 := (Nat.ne_of_lt (Nat.lt_of_lt_of_le E_G_DOWNSIDE.lt (Nat.le_trans le589 (Nat.le_of_eq g587.symm))))
           have f664 : Fld Z T650.heap G_DOWNSIDE kc3 "ordinal" "I" (.int (1 : Int32)) := (((((((((((F_ordinal_G_DOWNSIDE.ext E20).keep K32 (ninS ne660 nin0)).ext E36).keep K50 (ninS ne661 nin0)).ext E587).ext E595).other W603 (Or.inl ne662)).other W610 (Or.inl ne662)).keep K619 (ninS ne663 nin0)).keep K643 (ninS ne661 nin0)).keep K650 (ninS ne661 nin0))
           have ne665 : G__SwitchMap_com_example_ringfence_ringfence_gate_Measure ≠ b20 := (Nat.ne_of_lt (Nat.lt_of_lt_of_le V_G__SwitchMap_com_example_ringfence_ringfence_gate_Measure.lt (Nat.le_trans (Nat.le_refl _) (Nat.le_of_eq g20.symm))))
           have ne666 : G__SwitchMap_com_example_ringfence_ringfence_gate_Measure ≠ b36 := (Nat.ne_of_lt (Nat.lt_of_lt_of_le V_G__SwitchMap_com_example_ringfence_ringfence_gate_Measure.lt (Nat.le_trans le38 (Nat.le_of_eq g36.symm))))
           have ne667 : G__SwitchMap_com_example_ringfence_ringfence_gate_Measure ≠ b595 := (Nat.ne_of_lt (Nat.lt_of_lt_of_le V_G__SwitchMap_com_example_ringfence_ringfence_gate_Measure.lt (Nat.le_trans le597 (Nat.le_of_eq g595.symm))))
           have ne668 : G__SwitchMap_com_example_ringfence_ringfence_gate_Measure ≠ b587 := (Nat.ne_of_lt (Nat.lt_of_lt_of_le V_G__SwitchMap_com_example_ringfence_ringfence_gate_Measure.lt (Nat.le_trans le589 (Nat.le_of_eq g587.symm))))
           have f669 : Arv Z T650.heap G__SwitchMap_com_example_ringfence_ringfence_gate_Measure k_G__SwitchMap_com_example_ringfence_ringfence_gate_Measure .int (5 : Int32) [(.int (1 : Int32)), (.int (2 : Int32)), (.int (3 : Int32)), (.int (4 : Int32)), (.int (5 : Int32))] (.int (0 : Int32)) := (((((((((((V_G__SwitchMap_com_example_ringfence_ringfence_gate_Measure.ext E20).keep K32 (ninS ne665 nin0)).ext E36).keep K50 (ninS ne666 nin0)).ext E587).ext E595).other W603 ne667).other W610 ne667).keep K619 (ninS ne668 nin0)).keep K643 (ninS ne666 nin0)).keep K650 (ninS ne666 nin0))
           obtain ⟨cq670, kq670, q670a, q670b, q670c⟩ := isOf hZ e658 g650_0
           refine w_virtual X658 hx (y := yn_10) (z := yn_10) hown (mvT hZ (wd_65 hw)) (mvT hZ (wd_66 hw)) (notFace_of_selects (args := #[]) (mvT hZ (wd_68 hw))) (mvT hZ (wd_68 hw)) (mvT hZ (wd_67 hw)) (by decide) (backOf (W := 0) (rm_m10_5 l Z aZ hw [] b36 G_DOWNSIDE G__SwitchMap_com_example_ringfence_ringfence_gate_Measure k_G__SwitchMap_com_example_ringfence_ringfence_gate_Measure G_ZERO T650.heap n0 (Nat.le_trans Z0 le654) g650_1 S__SwitchMap_com_example_ringfence_ringfence_gate_Measure f657 f659 f664 f669 g650_3) hZ (wd_69 hw) (wd_2 hw) (by decide) (by decide)) q670a q670c (by rw [hml]; rfl) [(.ref G_DOWNSIDE)] (lenOf pd_5 rfl) rfl (Nat.le_of_eq rfl) (hb hby at_188) (fun _ _ => ⟨rfl, e658, (by decide : 5 + 0 ≤ _), (by decide : 20 + 0 ≤ _)⟩) (pc' := 191) rfl ?_
           rintro _ _ ⟨T670, L670, k670, n670⟩ X670 ⟨Lc670, hQ670, l670, y670, z670⟩
           dsimp only [Pt.U, Pt.locs, Pt.cells, Pt.slots] at X670 l670 y670 z670 hQ670 ⊢
           subst l670 y670 z670
           obtain ⟨rfl, N670q, e670⟩ := hQ670
           have N671 := Fr.app N656 N670q
           show Runs _ _ _ _ (T670.setTop (mkF m 191 #[.val (.int p0), .val (.int p1), .val (.int p2), .val (.int p3), .val (.ref b20), .val (.ref b36), .val (.int ((p0 &&& (255 : Int32)).toUInt32.toUInt16.toUInt32.toInt32)), .val (.int ((p1 &&& (255 : Int32)).toUInt32.toUInt16.toUInt32.toInt32)), .val (.int ((p2 &&& (255 : Int32)).toUInt32.toUInt16.toUInt32.toInt32)), .val (.int (p3 &&& (3 : Int32))), .val (.ref b587), .val .null] [(.ref G_ZERO)]))
           refine w_aload X670 hx (hb hby at_191) rfl rfl (pc' := 193) rfl ?_
           refine w_getS X670 hx "" hZ hown (Or.inl (wd_82 hw)) Via.refl e670 (S_UPSIDE.ext f657.2) (hb hby at_193) (pc' := 196) rfl ?_
           intro T672 X672 e672
           have f674 : Exa Z T650.heap G_UPSIDE kc4 := (((((((((((E_G_UPSIDE.ext E20).keep K32).ext E36).keep K50).ext E587).ext E595).wr W603).wr W610).keep K619).keep K643).keep K650)
           have ne675 : G_UPSIDE ≠ b20 := (Nat.ne_of_lt (Nat.lt_of_lt_of_le E_G_UPSIDE.lt (Nat.le_trans (Nat.le_refl _) (Nat.le_of_eq g20.symm))))
           have ne676 : G_UPSIDE ≠ b36 := (Nat.ne_of_lt (Nat.lt_of_lt_of_le E_G_UPSIDE.lt (Nat.le_trans le38 (Nat.le_of_eq g36.symm))))
           have ne677 : G_UPSIDE ≠ b595 := (Nat.ne_of_lt (Nat.lt_of_lt_of_le E_G_UPSIDE.lt (Nat.le_trans le597 (Nat.le_of_eq g595.symm))))
           have ne678 : G_UPSIDE ≠ b587 := (Nat.ne_of_lt (Nat.lt_of_lt_of_le E_G_UPSIDE.lt (Nat.le_trans le589 (Nat.le_of_eq g587.symm))))
           have f679 : Fld Z T650.heap G_UPSIDE kc3 "ordinal" "I" (.int (2 : Int32)) := (((((((((((F_ordinal_G_UPSIDE.ext E20).keep K32 (ninS ne675 nin0)).ext E36).keep K50 (ninS ne676 nin0)).ext E587).ext E595).other W603 (Or.inl ne677)).other W610 (Or.inl ne677)).keep K619 (ninS ne678 nin0)).keep K643 (ninS ne676 nin0)).keep K650 (ninS ne676 nin0))
           obtain ⟨cq680, kq680, q680a, q680b, q680c⟩ := isOf hZ e672 g650_0
           refine w_virtual X672 hx (y := yn_10) (z := yn_10) hown (mvT hZ (wd_65 hw)) (mvT hZ (wd_66 hw)) (notFace_of_selects (args := #[]) (mvT hZ (wd_68 hw))) (mvT hZ (wd_68 hw)) (mvT hZ (wd_67 hw)) (by decide) (backOf (W := 1) (rm_m10_7 l Z aZ hw [] b36 G_UPSIDE G__SwitchMap_com_example_ringfence_ringfence_gate_Measure k_G__SwitchMap_com_example_ringfence_ringfence_gate_Measure G_ZERO T650.heap n0 (Nat.le_trans Z0 le654) g650_1 S__SwitchMap_com_example_ringfence_ringfence_gate_Measure f657 f674 f679 f669 g650_4) hZ (wd_69 hw) (wd_2 hw) (by decide) (by decide)) q680a q680c (by rw [hml]; rfl) [(.ref G_UPSIDE)] (lenOf pd_5 rfl) rfl (Nat.le_of_eq rfl) (hb hby at_196) (fun _ _ => ⟨rfl, e672, (by decide : 5 + 0 ≤ _), (by decide : 20 + 0 ≤ _)⟩) (pc' := 199) rfl ?_
           rintro _ _ ⟨T680, L680, k680, n680⟩ X680 ⟨Lc680, hQ680, l680, y680, z680⟩
           dsimp only [Pt.U, Pt.locs, Pt.cells, Pt.slots] at X680 l680 y680 z680 hQ680 ⊢
           subst l680 y680 z680
           obtain ⟨rfl, N680q, e680⟩ := hQ680
           have N681 := Fr.app N671 N680q
           show Runs _ _ _ _ (T680.setTop (mkF m 199 #[.val (.int p0), .val (.int p1), .val (.int p2), .val (.int p3), .val (.ref b20), .val (.ref b36), .val (.int ((p0 &&& (255 : Int32)).toUInt32.toUInt16.toUInt32.toInt32)), .val (.int ((p1 &&& (255 : Int32)).toUInt32.toUInt16.toUInt32.toInt32)), .val (.int ((p2 &&& (255 : Int32)).toUInt32.toUInt16.toUInt32.toInt32)), .val (.int (p3 &&& (3 : Int32))), .val (.ref b587), .val .null] [(.ref G_ZERO), (.ref G_ZERO)]))
           refine w_acmp X680 hx (hb hby at_199) (same := true) rfl rfl (decide_eq_true rfl) (pc' := 202) (by decide) (by decide) ?_
           refine w_aload X680 hx (hb hby at_202) rfl rfl (pc' := 204) rfl ?_
           refine w_getS X680 hx "" hZ hown (Or.inl (wd_82 hw)) Via.refl e680 (S_UPSIDE.ext f657.2) (hb hby at_204) (pc' := 207) rfl ?_
           intro T682 X682 e682
           obtain ⟨cq683, kq683, q683a, q683b, q683c⟩ := isOf hZ e682 g650_0
           refine w_virtual X682 hx (y := yn_10) (z := yn_10) hown (mvT hZ (wd_65 hw)) (mvT hZ (wd_66 hw)) (notFace_of_selects (args := #[]) (mvT hZ (wd_68 hw))) (mvT hZ (wd_68 hw)) (mvT hZ (wd_67 hw)) (by decide) (backOf (W := 0) (rm_m10_7 l Z aZ hw [] b36 G_UPSIDE G__SwitchMap_com_example_ringfence_ringfence_gate_Measure k_G__SwitchMap_com_example_ringfence_ringfence_gate_Measure G_ZERO T650.heap n0 (Nat.le_trans Z0 le654) g650_1 S__SwitchMap_com_example_ringfence_ringfence_gate_Measure f657 f674 f679 f669 g650_4) hZ (wd_69 hw) (wd_2 hw) (by decide) (by decide)) q683a q683c (by rw [hml]; rfl) [(.ref G_UPSIDE)] (lenOf pd_5 rfl) rfl (Nat.le_of_eq rfl) (hb hby at_207) (fun _ _ => ⟨rfl, e682, (by decide : 5 + 0 ≤ _), (by decide : 20 + 0 ≤ _)⟩) (pc' := 210) rfl ?_
           rintro _ _ ⟨T683, L683, k683, n683⟩ X683 ⟨Lc683, hQ683, l683, y683, z683⟩
           dsimp only [Pt.U, Pt.locs, Pt.cells, Pt.slots] at X683 l683 y683 z683 hQ683 ⊢
           subst l683 y683 z683
           obtain ⟨rfl, N683q, e683⟩ := hQ683
           have N684 := Fr.app N681 N683q
           show Runs _ _ _ _ (T683.setTop (mkF m 210 #[.val (.int p0), .val (.int p1), .val (.int p2), .val (.int p3), .val (.ref b20), .val (.ref b36), .val (.int ((p0 &&& (255 : Int32)).toUInt32.toUInt16.toUInt32.toInt32)), .val (.int ((p1 &&& (255 : Int32)).toUInt32.toUInt16.toUInt32.toInt32)), .val (.int ((p2 &&& (255 : Int32)).toUInt32.toUInt16.toUInt32.toInt32)), .val (.int (p3 &&& (3 : Int32))), .val (.ref b587), .val .null] [(.ref G_ZERO)]))
           refine w_aload X683 hx (hb hby at_210) rfl rfl (pc' := 212) rfl ?_
           refine w_getS X683 hx "" hZ hown (Or.inl (wd_84 hw)) Via.refl e683 (S_EXPOSURE.ext f657.2) (hb hby at_212) (pc' := 215) rfl ?_
           intro T685 X685 e685
           have f688 : Exa Z T650.heap G_EXPOSURE kc4 := (((((((((((E_G_EXPOSURE.ext E20).keep K32).ext E36).keep K50).ext E587).ext E595).wr W603).wr W610).keep K619).keep K643).keep K650)
           have ne689 : G_EXPOSURE ≠ b20 := (Nat.ne_of_lt (Nat.lt_of_lt_of_le E_G_EXPOSURE.lt (Nat.le_trans (Nat.le_refl _) (Nat.le_of_eq g20.symm))))
           have ne690 : G_EXPOSURE ≠ b36 := (Nat.ne_of_lt (Nat.lt_of_lt_of_le E_G_EXPOSURE.lt (Nat.le_trans le38 (Nat.le_of_eq g36.symm))))
           have ne691 : G_EXPOSURE ≠ b595 := (Nat.ne_of_lt (Nat.lt_of_lt_of_le E_G_EXPOSURE.lt (Nat.le_trans le597 (Nat.le_of_eq g595.symm))))
           have ne692 : G_EXPOSURE ≠ b587 := (Nat.ne_of_lt (Nat.lt_of_lt_of_le E_G_EXPOSURE.lt (Nat.le_trans le589 (Nat.le_of_eq g587.symm))))
           have f693 : Fld Z T650.heap G_EXPOSURE kc3 "ordinal" "I" (.int (3 : Int32)) := (((((((((((F_ordinal_G_EXPOSURE.ext E20).keep K32 (ninS ne689 nin0)).ext E36).keep K50 (ninS ne690 nin0)).ext E587).ext E595).other W603 (Or.inl ne691)).other W610 (Or.inl ne691)).keep K619 (ninS ne692 nin0)).keep K643 (ninS ne690 nin0)).keep K650 (ninS ne690 nin0))
           obtain ⟨cq694, kq694, q694a, q694b, q694c⟩ := isOf hZ e685 g650_0
           refine w_virtual X685 hx (y := yn_10) (z := yn_10) hown (mvT hZ (wd_65 hw)) (mvT hZ (wd_66 hw)) (notFace_of_selects (args := #[]) (mvT hZ (wd_68 hw))) (mvT hZ (wd_68 hw)) (mvT hZ (wd_67 hw)) (by decide) (backOf (W := 1) (rm_m10_9 l Z aZ hw [] b36 G_EXPOSURE G__SwitchMap_com_example_ringfence_ringfence_gate_Measure k_G__SwitchMap_com_example_ringfence_ringfence_gate_Measure G_ZERO T650.heap n0 (Nat.le_trans Z0 le654) g650_1 S__SwitchMap_com_example_ringfence_ringfence_gate_Measure f657 f688 f693 f669 g650_5) hZ (wd_69 hw) (wd_2 hw) (by decide) (by decide)) q694a q694c (by rw [hml]; rfl) [(.ref G_EXPOSURE)] (lenOf pd_5 rfl) rfl (Nat.le_of_eq rfl) (hb hby at_215) (fun _ _ => ⟨rfl, e685, (by decide : 5 + 0 ≤ _), (by decide : 20 + 0 ≤ _)⟩) (pc' := 218) rfl ?_
           rintro _ _ ⟨T694, L694, k694, n694⟩ X694 ⟨Lc694, hQ694, l694, y694, z694⟩
           dsimp only [Pt.U, Pt.locs, Pt.cells, Pt.slots] at X694 l694 y694 z694 hQ694 ⊢
           subst l694 y694 z694
           obtain ⟨rfl, N694q, e694⟩ := hQ694
           have N695 := Fr.app N684 N694q
           show Runs _ _ _ _ (T694.setTop (mkF m 218 #[.val (.int p0), .val (.int p1), .val (.int p2), .val (.int p3), .val (.ref b20), .val (.ref b36), .val (.int ((p0 &&& (255 : Int32)).toUInt32.toUInt16.toUInt32.toInt32)), .val (.int ((p1 &&& (255 : Int32)).toUInt32.toUInt16.toUInt32.toInt32)), .val (.int ((p2 &&& (255 : Int32)).toUInt32.toUInt16.toUInt32.toInt32)), .val (.int (p3 &&& (3 : Int32))), .val (.ref b587), .val .null] [(.ref G_ZERO), (.ref G_ZERO)]))
           refine w_acmp X694 hx (hb hby at_218) (same := true) rfl rfl (decide_eq_true rfl) (pc' := 221) (by decide) (by decide) ?_
           refine w_aload X694 hx (hb hby at_221) rfl rfl (pc' := 223) rfl ?_
           refine w_getS X694 hx "" hZ hown (Or.inl (wd_84 hw)) Via.refl e694 (S_EXPOSURE.ext f657.2) (hb hby at_223) (pc' := 226) rfl ?_
           intro T696 X696 e696
           obtain ⟨cq697, kq697, q697a, q697b, q697c⟩ := isOf hZ e696 g650_0
           refine w_virtual X696 hx (y := yn_10) (z := yn_10) hown (mvT hZ (wd_65 hw)) (mvT hZ (wd_66 hw)) (notFace_of_selects (args := #[]) (mvT hZ (wd_68 hw))) (mvT hZ (wd_68 hw)) (mvT hZ (wd_67 hw)) (by decide) (backOf (W := 0) (rm_m10_9 l Z aZ hw [] b36 G_EXPOSURE G__SwitchMap_com_example_ringfence_ringfence_gate_Measure k_G__SwitchMap_com_example_ringfence_ringfence_gate_Measure G_ZERO T650.heap n0 (Nat.le_trans Z0 le654) g650_1 S__SwitchMap_com_example_ringfence_ringfence_gate_Measure f657 f688 f693 f669 g650_5) hZ (wd_69 hw) (wd_2 hw) (by decide) (by decide)) q697a q697c (by rw [hml]; rfl) [(.ref G_EXPOSURE)] (lenOf pd_5 rfl) rfl (Nat.le_of_eq rfl) (hb hby at_226) (fun _ _ => ⟨rfl, e696, (by decide : 5 + 0 ≤ _), (by decide : 20 + 0 ≤ _)⟩) (pc' := 229) rfl ?_
           rintro _ _ ⟨T697, L697, k697, n697⟩ X697 ⟨Lc697, hQ697, l697, y697, z697⟩
           dsimp only [Pt.U, Pt.locs, Pt.cells, Pt.slots] at X697 l697 y697 z697 hQ697 ⊢
           subst l697 y697 z697
           obtain ⟨rfl, N697q, e697⟩ := hQ697
           have N698 := Fr.app N695 N697q
           show Runs _ _ _ _ (T697.setTop (mkF m 229 #[.val (.int p0), .val (.int p1), .val (.int p2), .val (.int p3), .val (.ref b20), .val (.ref b36), .val (.int ((p0 &&& (255 : Int32)).toUInt32.toUInt16.toUInt32.toInt32)), .val (.int ((p1 &&& (255 : Int32)).toUInt32.toUInt16.toUInt32.toInt32)), .val (.int ((p2 &&& (255 : Int32)).toUInt32.toUInt16.toUInt32.toInt32)), .val (.int (p3 &&& (3 : Int32))), .val (.ref b587), .val .null] [(.ref G_ZERO)]))
           refine w_aload X697 hx (hb hby at_229) rfl rfl (pc' := 231) rfl ?_
           refine w_getS X697 hx "" hZ hown (Or.inl (wd_84 hw)) Via.refl e697 (S_EXPOSURE.ext f657.2) (hb hby at_231) (pc' := 234) rfl ?_
           intro T699 X699 e699
           have ne714 : b20 ≠ b36 := (Nat.ne_of_lt (Nat.lt_of_lt_of_le A20.lt (Nat.le_trans K32.1 (Nat.le_of_eq g36.symm))))
           have le715 : h20.size ≤ h36.size := (Nat.le_trans K32.1 E36.1)
           have le716 : h20.size ≤ T50.heap.size := (Nat.le_trans le715 K50.1)
           have le717 : h20.size ≤ h587.size := (Nat.le_trans le716 E587.1)
           have ne718 : b20 ≠ b595 := (Nat.ne_of_lt (Nat.lt_of_lt_of_le A20.lt (Nat.le_trans le717 (Nat.le_of_eq g595.symm))))
           have ne719 : b20 ≠ b587 := (Nat.ne_of_lt (Nat.lt_of_lt_of_le A20.lt (Nat.le_trans le716 (Nat.le_of_eq g587.symm))))
           have f720 : Fld Z T650.heap b20 kc0 "unrated" "Ljava/lang/String;" .null := (((((((((g32_6.ext E36).keep K50 (ninS ne714 nin0)).ext E587).ext E595).other W603 (Or.inl ne718)).other W610 (Or.inl ne718)).keep K619 (ninS ne719 nin0)).keep K643 (ninS ne714 nin0)).keep K650 (ninS ne714 nin0))
           have f721 : Fld Z T650.heap b20 kc0 "exposure" "Ljava/math/BigDecimal;" (.ref G_ZERO) := (((((((((g32_4.ext E36).keep K50 (ninS ne714 nin0)).ext E587).ext E595).other W603 (Or.inl ne718)).other W610 (Or.inl ne718)).keep K619 (ninS ne719 nin0)).keep K643 (ninS ne714 nin0)).keep K650 (ninS ne714 nin0))
           have f723 : Exa Z T650.heap b20 kc0 := (((((((((g32_0.ext E36).keep K50).ext E587).ext E595).wr W603).wr W610).keep K619).keep K643).keep K650)
           obtain ⟨cq722, kq722, q722a, q722b, q722c⟩ := isOf hZ e699 f723
           refine w_virtual X699 hx (y := yn_10) (z := yn_10) hown (mvT hZ (wd_65 hw)) (mvT hZ (wd_66 hw)) (notFace_of_selects (args := #[]) (mvT hZ (wd_68 hw))) (mvT hZ (wd_68 hw)) (mvT hZ (wd_67 hw)) (by decide) (backOf (W := 1) (rm_m10_9 l Z aZ hw [] b20 G_EXPOSURE G__SwitchMap_com_example_ringfence_ringfence_gate_Measure k_G__SwitchMap_com_example_ringfence_ringfence_gate_Measure G_ZERO T650.heap n0 (Nat.le_trans Z0 le654) f720 S__SwitchMap_com_example_ringfence_ringfence_gate_Measure f657 f688 f693 f669 f721) hZ (wd_69 hw) (wd_2 hw) (by decide) (by decide)) q722a q722c (by rw [hml]; rfl) [(.ref G_EXPOSURE)] (lenOf pd_5 rfl) rfl (Nat.le_of_eq rfl) (hb hby at_234) (fun _ _ => ⟨rfl, e699, (by decide : 5 + 0 ≤ _), (by decide : 20 + 0 ≤ _)⟩) (pc' := 237) rfl ?_
           rintro _ _ ⟨T722, L722, k722, n722⟩ X722 ⟨Lc722, hQ722, l722, y722, z722⟩
           dsimp only [Pt.U, Pt.locs, Pt.cells, Pt.slots] at X722 l722 y722 z722 hQ722 ⊢
           subst l722 y722 z722
           obtain ⟨rfl, N722q, e722⟩ := hQ722
           have N724 := Fr.app N698 N722q
           show Runs _ _ _ _ (T722.setTop (mkF m 237 #[.val (.int p0), .val (.int p1), .val (.int p2), .val (.int p3), .val (.ref b20), .val (.ref b36), .val (.int ((p0 &&& (255 : Int32)).toUInt32.toUInt16.toUInt32.toInt32)), .val (.int ((p1 &&& (255 : Int32)).toUInt32.toUInt16.toUInt32.toInt32)), .val (.int ((p2 &&& (255 : Int32)).toUInt32.toUInt16.toUInt32.toInt32)), .val (.int (p3 &&& (3 : Int32))), .val (.ref b587), .val .null] [(.ref G_ZERO), (.ref G_ZERO)]))
           refine w_acmp X722 hx (hb hby at_237) (same := true) rfl rfl (decide_eq_true rfl) (pc' := 240) (by decide) (by decide) ?_
           refine w_iconst X722 hx (hb hby at_240) (v := (1 : Int32)) rfl (pc' := 241) rfl ?_
           refine w_goto X722 hx (hb hby at_241) (pc' := 245) (by decide) (by decide) ?_
           exact w_doneH X722 hlk (v := some (.int (1 : Int32))) e722 hh hZ (own_EW hw) hS0 (Nat.le_trans (Nat.le_refl _) le654) C652 (fun h => by rw [hret] at h; cases h) (fun fs hr => retN X722 hx (t := .boolean) hret (by simp) (hb hby at_245) hr) (by decide) (by decide) (fun hsy => ⟨rfl, N724⟩)
         · refine w_ifN X643 hx (hb hby at_162) (feq hc647).1 (pc' := 165) rfl ?_
           refine w_aload X643 hx (hb hby at_165) rfl rfl (pc' := 167) rfl ?_
           have f725 : Old Z n0 T643.heap := ((f624.keep K619 (allS ge588 all0)).keep K643 (allS ge37 all0))
           have le726 : h0.size ≤ T643.heap.size := (Nat.le_trans le642 K643.1)
           obtain ⟨cq727, kq727, q727a, q727b, q727c⟩ := isOf hZ rfl g643_0
           refine w_virtual X643 hx (y := yn_8) (z := yn_8) hown (mvT hZ (wd_52 hw)) (mvT hZ (wd_53 hw)) (notFace_of_selects (args := #[]) (mvT hZ (wd_55 hw))) (mvT hZ (wd_55 hw)) (mvT hZ (wd_54 hw)) (by decide) (backOf (W := 0) (rm_m8_3 l Z aZ hw [] b36 G_ZERO T643.heap n0 (Nat.le_trans Z0 le726) g643_0 g643_1 ge37 S_ZERO f725 g643_2 g643_3 g643_4 g643_5 g643_6) hZ (wd_56 hw) (wd_2 hw) (by decide) (by decide)) q727a q727c (by rw [hml]; rfl) [] (lenOf pd_2 rfl) rfl (Nat.le_of_eq rfl) (hb hby at_167) (fun _ _ => ⟨rfl, rfl, (by decide : 5 + 0 ≤ _), (by decide : 20 + 0 ≤ _)⟩) (pc' := 170) rfl ?_
           rintro _ _ ⟨T727, L727, k727, n727⟩ X727 ⟨Lc727, hQ727, l727, y727, z727⟩
           dsimp only [Pt.U, Pt.locs, Pt.cells, Pt.slots] at X727 l727 y727 z727 hQ727 ⊢
           subst l727 y727 z727
           obtain ⟨rfl, N727q, K727, g727_0, g727_1, g727_2, g727_3, g727_4, g727_5, g727_6⟩ := hQ727
           have N728 := Fr.app N644 N727q
           have C729 : CHr Z EL s.vm h0 s.vm T727.heap := C645.trans (CHr.keep K727 (sfS (Safe.exa hZ.alike g643_0 (by decide) (by decide)) sf0) C645.1)
           have K730 : Keep h0 T727.heap [] := K646.trans K727 (allS (Or.inr sz39) (all0 (P := fun x => x ∈ [] ∨ h0.size ≤ x)))
           show Runs _ _ _ _ (T727.setTop (mkF m 170 #[.val (.int p0), .val (.int p1), .val (.int p2), .val (.int p3), .val (.ref b20), .val (.ref b36), .val (.int ((p0 &&& (255 : Int32)).toUInt32.toUInt16.toUInt32.toInt32)), .val (.int ((p1 &&& (255 : Int32)).toUInt32.toUInt16.toUInt32.toInt32)), .val (.int ((p2 &&& (255 : Int32)).toUInt32.toUInt16.toUInt32.toInt32)), .val (.int (p3 &&& (3 : Int32))), .val (.ref b587), .val .null] []))
           refine w_aload X727 hx (hb hby at_170) rfl rfl (pc' := 172) rfl ?_
           have f731 : Old Z n0 T727.heap := (f725.keep K727 (allS ge37 all0))
           have le732 : h0.size ≤ T727.heap.size := (Nat.le_trans le726 K727.1)
           obtain ⟨cq733, kq733, q733a, q733b, q733c⟩ := isOf hZ rfl g727_0
           refine w_virtual X727 hx (y := yn_8) (z := yn_8) hown (mvT hZ (wd_52 hw)) (mvT hZ (wd_53 hw)) (notFace_of_selects (args := #[]) (mvT hZ (wd_55 hw))) (mvT hZ (wd_55 hw)) (mvT hZ (wd_54 hw)) (by decide) (backOf (W := 0) (rm_m8_3 l Z aZ hw [] b36 G_ZERO T727.heap n0 (Nat.le_trans Z0 le732) g727_0 g727_1 ge37 S_ZERO f731 g727_2 g727_3 g727_4 g727_5 g727_6) hZ (wd_56 hw) (wd_2 hw) (by decide) (by decide)) q733a q733c (by rw [hml]; rfl) [] (lenOf pd_2 rfl) rfl (Nat.le_of_eq rfl) (hb hby at_172) (fun _ _ => ⟨rfl, rfl, (by decide : 5 + 0 ≤ _), (by decide : 20 + 0 ≤ _)⟩) (pc' := 175) rfl ?_
           rintro _ _ ⟨T733, L733, k733, n733⟩ X733 ⟨Lc733, hQ733, l733, y733, z733⟩
           dsimp only [Pt.U, Pt.locs, Pt.cells, Pt.slots] at X733 l733 y733 z733 hQ733 ⊢
           subst l733 y733 z733
           obtain ⟨rfl, N733q, K733, g733_0, g733_1, g733_2, g733_3, g733_4, g733_5, g733_6⟩ := hQ733
           have N734 := Fr.app N728 N733q
           have C735 : CHr Z EL s.vm h0 s.vm T733.heap := C729.trans (CHr.keep K733 (sfS (Safe.exa hZ.alike g727_0 (by decide) (by decide)) sf0) C729.1)
           have K736 : Keep h0 T733.heap [] := K730.trans K733 (allS (Or.inr sz39) (all0 (P := fun x => x ∈ [] ∨ h0.size ≤ x)))
           show Runs _ _ _ _ (T733.setTop (mkF m 175 #[.val (.int p0), .val (.int p1), .val (.int p2), .val (.int p3), .val (.ref b20), .val (.ref b36), .val (.int ((p0 &&& (255 : Int32)).toUInt32.toUInt16.toUInt32.toInt32)), .val (.int ((p1 &&& (255 : Int32)).toUInt32.toUInt16.toUInt32.toInt32)), .val (.int ((p2 &&& (255 : Int32)).toUInt32.toUInt16.toUInt32.toInt32)), .val (.int (p3 &&& (3 : Int32))), .val (.ref b587), .val .null] []))
           refine w_aload X733 hx (hb hby at_175) rfl rfl (pc' := 177) rfl ?_
           have le737 : h0.size ≤ T733.heap.size := (Nat.le_trans le732 K733.1)
           obtain ⟨cq738, kq738, q738a, q738b, q738c⟩ := isOf hZ rfl g733_0
           refine w_virtual X733 hx (y := yn_9) (z := yn_9) hown (mvT hZ (wd_57 hw)) (mvT hZ (wd_58 hw)) (notFace_of_selects (args := #[]) (mvT hZ (wd_60 hw))) (mvT hZ (wd_60 hw)) (mvT hZ (wd_59 hw)) (by decide) (backOf (W := 0) (rm_m9_4 l Z aZ hw [] b36 T733.heap n0 (Nat.le_trans Z0 le737) g733_1) hZ (wd_61 hw) (wd_2 hw) (by decide) (by decide)) q738a q738c (by rw [hml]; rfl) [] (lenOf pd_3 rfl) rfl (Nat.le_of_eq rfl) (hb hby at_177) (fun _ _ => ⟨rfl, rfl, (by decide : 5 + 0 ≤ _), (by decide : 20 + 0 ≤ _)⟩) (pc' := 180) rfl ?_
           rintro _ _ ⟨T738, L738, k738, n738⟩ X738 ⟨Lc738, hQ738, l738, y738, z738⟩
           dsimp only [Pt.U, Pt.locs, Pt.cells, Pt.slots] at X738 l738 y738 z738 hQ738 ⊢
           subst l738 y738 z738
           obtain ⟨rfl, N738q, e738⟩ := hQ738
           have N739 := Fr.app N734 N738q
           show Runs _ _ _ _ (T738.setTop (mkF m 180 #[.val (.int p0), .val (.int p1), .val (.int p2), .val (.int p3), .val (.ref b20), .val (.ref b36), .val (.int ((p0 &&& (255 : Int32)).toUInt32.toUInt16.toUInt32.toInt32)), .val (.int ((p1 &&& (255 : Int32)).toUInt32.toUInt16.toUInt32.toInt32)), .val (.int ((p2 &&& (255 : Int32)).toUInt32.toUInt16.toUInt32.toInt32)), .val (.int (p3 &&& (3 : Int32))), .val (.ref b587), .val .null] [.null]))
           refine w_ifnonnullN X738 hx (hb hby at_180) (pc' := 183) rfl ?_
           refine w_aload X738 hx (hb hby at_183) rfl rfl (pc' := 185) rfl ?_
           have f740 : Old Z n0 T733.heap := (f731.keep K733 (allS ge37 all0))
           refine w_getS X738 hx "" hZ hown (Or.inl (wd_62 hw)) Via.refl e738 (S_DOWNSIDE.ext f740.2) (hb hby at_185) (pc' := 188) rfl ?_
           intro T741 X741 e741
           have f742 : Exa Z T733.heap G_DOWNSIDE kc4 := ((((((((((((E_G_DOWNSIDE.ext E20).keep K32).ext E36).keep K50).ext E587).ext E595).wr W603).wr W610).keep K619).keep K643).keep K727).keep K733)
           have ne743 : G_DOWNSIDE ≠ b20 := (Nat.ne_of_lt (Nat.lt_of_lt_of_le E_G_DOWNSIDE.lt (Nat.le_trans (Nat.le_refl _) (Nat.le_of_eq g20.symm))))
           have ne744 : G_DOWNSIDE ≠ b36 := (Nat.ne_of_lt (Nat.lt_of_lt_of_le E_G_DOWNSIDE.lt (Nat.le_trans le38 (Nat.le_of_eq g36.symm))))
           have ne745 : G_DOWNSIDE ≠ b595 := (Nat.ne_of_lt (Nat.lt_of_lt_of_le E_G_DOWNSIDE.lt (Nat.le_trans le597 (Nat.le_of_eq g595.symm))))
           have ne746 : G_DOWNSIDE ≠ b587 := (Nat.ne_of_lt (Nat.lt_of_lt_of_le E_G_DOWNSIDE.lt (Nat.le_trans le589 (Nat.le_of_eq g587.symm))))
           have f747 : Fld Z T733.heap G_DOWNSIDE kc3 "ordinal" "I" (.int (1 : Int32)) := ((((((((((((F_ordinal_G_DOWNSIDE.ext E20).keep K32 (ninS ne743 nin0)).ext E36).keep K50 (ninS ne744 nin0)).ext E587).ext E595).other W603 (Or.inl ne745)).other W610 (Or.inl ne745)).keep K619 (ninS ne746 nin0)).keep K643 (ninS ne744 nin0)).keep K727 (ninS ne744 nin0)).keep K733 (ninS ne744 nin0))
           have ne748 : G__SwitchMap_com_example_ringfence_ringfence_gate_Measure ≠ b20 := (Nat.ne_of_lt (Nat.lt_of_lt_of_le V_G__SwitchMap_com_example_ringfence_ringfence_gate_Measure.lt (Nat.le_trans (Nat.le_refl _) (Nat.le_of_eq g20.symm))))
           have ne749 : G__SwitchMap_com_example_ringfence_ringfence_gate_Measure ≠ b36 := (Nat.ne_of_lt (Nat.lt_of_lt_of_le V_G__SwitchMap_com_example_ringfence_ringfence_gate_Measure.lt (Nat.le_trans le38 (Nat.le_of_eq g36.symm))))
           have ne750 : G__SwitchMap_com_example_ringfence_ringfence_gate_Measure ≠ b595 := (Nat.ne_of_lt (Nat.lt_of_lt_of_le V_G__SwitchMap_com_example_ringfence_ringfence_gate_Measure.lt (Nat.le_trans le597 (Nat.le_of_eq g595.symm))))
           have ne751 : G__SwitchMap_com_example_ringfence_ringfence_gate_Measure ≠ b587 := (Nat.ne_of_lt (Nat.lt_of_lt_of_le V_G__SwitchMap_com_example_ringfence_ringfence_gate_Measure.lt (Nat.le_trans le589 (Nat.le_of_eq g587.symm))))
           have f752 : Arv Z T733.heap G__SwitchMap_com_example_ringfence_ringfence_gate_Measure k_G__SwitchMap_com_example_ringfence_ringfence_gate_Measure .int (5 : Int32) [(.int (1 : Int32)), (.int (2 : Int32)), (.int (3 : Int32)), (.int (4 : Int32)), (.int (5 : Int32))] (.int (0 : Int32)) := ((((((((((((V_G__SwitchMap_com_example_ringfence_ringfence_gate_Measure.ext E20).keep K32 (ninS ne748 nin0)).ext E36).keep K50 (ninS ne749 nin0)).ext E587).ext E595).other W603 ne750).other W610 ne750).keep K619 (ninS ne751 nin0)).keep K643 (ninS ne749 nin0)).keep K727 (ninS ne749 nin0)).keep K733 (ninS ne749 nin0))
           obtain ⟨cq753, kq753, q753a, q753b, q753c⟩ := isOf hZ e741 g733_0
           refine w_virtual X741 hx (y := yn_10) (z := yn_10) hown (mvT hZ (wd_65 hw)) (mvT hZ (wd_66 hw)) (notFace_of_selects (args := #[]) (mvT hZ (wd_68 hw))) (mvT hZ (wd_68 hw)) (mvT hZ (wd_67 hw)) (by decide) (backOf (W := 0) (rm_m10_5 l Z aZ hw [] b36 G_DOWNSIDE G__SwitchMap_com_example_ringfence_ringfence_gate_Measure k_G__SwitchMap_com_example_ringfence_ringfence_gate_Measure G_ZERO T733.heap n0 (Nat.le_trans Z0 le737) g733_1 S__SwitchMap_com_example_ringfence_ringfence_gate_Measure f740 f742 f747 f752 g733_3) hZ (wd_69 hw) (wd_2 hw) (by decide) (by decide)) q753a q753c (by rw [hml]; rfl) [(.ref G_DOWNSIDE)] (lenOf pd_5 rfl) rfl (Nat.le_of_eq rfl) (hb hby at_188) (fun _ _ => ⟨rfl, e741, (by decide : 5 + 0 ≤ _), (by decide : 20 + 0 ≤ _)⟩) (pc' := 191) rfl ?_
           rintro _ _ ⟨T753, L753, k753, n753⟩ X753 ⟨Lc753, hQ753, l753, y753, z753⟩
           dsimp only [Pt.U, Pt.locs, Pt.cells, Pt.slots] at X753 l753 y753 z753 hQ753 ⊢
           subst l753 y753 z753
           obtain ⟨rfl, N753q, e753⟩ := hQ753
           have N754 := Fr.app N739 N753q
           show Runs _ _ _ _ (T753.setTop (mkF m 191 #[.val (.int p0), .val (.int p1), .val (.int p2), .val (.int p3), .val (.ref b20), .val (.ref b36), .val (.int ((p0 &&& (255 : Int32)).toUInt32.toUInt16.toUInt32.toInt32)), .val (.int ((p1 &&& (255 : Int32)).toUInt32.toUInt16.toUInt32.toInt32)), .val (.int ((p2 &&& (255 : Int32)).toUInt32.toUInt16.toUInt32.toInt32)), .val (.int (p3 &&& (3 : Int32))), .val (.ref b587), .val .null] [(.ref G_ZERO)]))
           refine w_aload X753 hx (hb hby at_191) rfl rfl (pc' := 193) rfl ?_
           refine w_getS X753 hx "" hZ hown (Or.inl (wd_82 hw)) Via.refl e753 (S_UPSIDE.ext f740.2) (hb hby at_193) (pc' := 196) rfl ?_
           intro T755 X755 e755
           have f757 : Exa Z T733.heap G_UPSIDE kc4 := ((((((((((((E_G_UPSIDE.ext E20).keep K32).ext E36).keep K50).ext E587).ext E595).wr W603).wr W610).keep K619).keep K643).keep K727).keep K733)
           have ne758 : G_UPSIDE ≠ b20 := (Nat.ne_of_lt (Nat.lt_of_lt_of_le E_G_UPSIDE.lt (Nat.le_trans (Nat.le_refl _) (Nat.le_of_eq g20.symm))))
           have ne759 : G_UPSIDE ≠ b36 := (Nat.ne_of_lt (Nat.lt_of_lt_of_le E_G_UPSIDE.lt (Nat.le_trans le38 (Nat.le_of_eq g36.symm))))
           have ne760 : G_UPSIDE ≠ b595 := (Nat.ne_of_lt (Nat.lt_of_lt_of_le E_G_UPSIDE.lt (Nat.le_trans le597 (Nat.le_of_eq g595.symm))))
           have ne761 : G_UPSIDE ≠ b587 := (Nat.ne_of_lt (Nat.lt_of_lt_of_le E_G_UPSIDE.lt (Nat.le_trans le589 (Nat.le_of_eq g587.symm))))
           have f762 : Fld Z T733.heap G_UPSIDE kc3 "ordinal" "I" (.int (2 : Int32)) := ((((((((((((F_ordinal_G_UPSIDE.ext E20).keep K32 (ninS ne758 nin0)).ext E36).keep K50 (ninS ne759 nin0)).ext E587).ext E595).other W603 (Or.inl ne760)).other W610 (Or.inl ne760)).keep K619 (ninS ne761 nin0)).keep K643 (ninS ne759 nin0)).keep K727 (ninS ne759 nin0)).keep K733 (ninS ne759 nin0))
           obtain ⟨cq763, kq763, q763a, q763b, q763c⟩ := isOf hZ e755 g733_0
           refine w_virtual X755 hx (y := yn_10) (z := yn_10) hown (mvT hZ (wd_65 hw)) (mvT hZ (wd_66 hw)) (notFace_of_selects (args := #[]) (mvT hZ (wd_68 hw))) (mvT hZ (wd_68 hw)) (mvT hZ (wd_67 hw)) (by decide) (backOf (W := 1) (rm_m10_7 l Z aZ hw [] b36 G_UPSIDE G__SwitchMap_com_example_ringfence_ringfence_gate_Measure k_G__SwitchMap_com_example_ringfence_ringfence_gate_Measure G_ZERO T733.heap n0 (Nat.le_trans Z0 le737) g733_1 S__SwitchMap_com_example_ringfence_ringfence_gate_Measure f740 f757 f762 f752 g733_4) hZ (wd_69 hw) (wd_2 hw) (by decide) (by decide)) q763a q763c (by rw [hml]; rfl) [(.ref G_UPSIDE)] (lenOf pd_5 rfl) rfl (Nat.le_of_eq rfl) (hb hby at_196) (fun _ _ => ⟨rfl, e755, (by decide : 5 + 0 ≤ _), (by decide : 20 + 0 ≤ _)⟩) (pc' := 199) rfl ?_
           rintro _ _ ⟨T763, L763, k763, n763⟩ X763 ⟨Lc763, hQ763, l763, y763, z763⟩
           dsimp only [Pt.U, Pt.locs, Pt.cells, Pt.slots] at X763 l763 y763 z763 hQ763 ⊢
           subst l763 y763 z763
           obtain ⟨rfl, N763q, e763⟩ := hQ763
           have N764 := Fr.app N754 N763q
           show Runs _ _ _ _ (T763.setTop (mkF m 199 #[.val (.int p0), .val (.int p1), .val (.int p2), .val (.int p3), .val (.ref b20), .val (.ref b36), .val (.int ((p0 &&& (255 : Int32)).toUInt32.toUInt16.toUInt32.toInt32)), .val (.int ((p1 &&& (255 : Int32)).toUInt32.toUInt16.toUInt32.toInt32)), .val (.int ((p2 &&& (255 : Int32)).toUInt32.toUInt16.toUInt32.toInt32)), .val (.int (p3 &&& (3 : Int32))), .val (.ref b587), .val .null] [(.ref G_ZERO), (.ref G_ZERO)]))
           refine w_acmp X763 hx (hb hby at_199) (same := true) rfl rfl (decide_eq_true rfl) (pc' := 202) (by decide) (by decide) ?_
           refine w_aload X763 hx (hb hby at_202) rfl rfl (pc' := 204) rfl ?_
           refine w_getS X763 hx "" hZ hown (Or.inl (wd_82 hw)) Via.refl e763 (S_UPSIDE.ext f740.2) (hb hby at_204) (pc' := 207) rfl ?_
           intro T765 X765 e765
           obtain ⟨cq766, kq766, q766a, q766b, q766c⟩ := isOf hZ e765 g733_0
           refine w_virtual X765 hx (y := yn_10) (z := yn_10) hown (mvT hZ (wd_65 hw)) (mvT hZ (wd_66 hw)) (notFace_of_selects (args := #[]) (mvT hZ (wd_68 hw))) (mvT hZ (wd_68 hw)) (mvT hZ (wd_67 hw)) (by decide) (backOf (W := 0) (rm_m10_7 l Z aZ hw [] b36 G_UPSIDE G__SwitchMap_com_example_ringfence_ringfence_gate_Measure k_G__SwitchMap_com_example_ringfence_ringfence_gate_Measure G_ZERO T733.heap n0 (Nat.le_trans Z0 le737) g733_1 S__SwitchMap_com_example_ringfence_ringfence_gate_Measure f740 f757 f762 f752 g733_4) hZ (wd_69 hw) (wd_2 hw) (by decide) (by decide)) q766a q766c (by rw [hml]; rfl) [(.ref G_UPSIDE)] (lenOf pd_5 rfl) rfl (Nat.le_of_eq rfl) (hb hby at_207) (fun _ _ => ⟨rfl, e765, (by decide : 5 + 0 ≤ _), (by decide : 20 + 0 ≤ _)⟩) (pc' := 210) rfl ?_
           rintro _ _ ⟨T766, L766, k766, n766⟩ X766 ⟨Lc766, hQ766, l766, y766, z766⟩
           dsimp only [Pt.U, Pt.locs, Pt.cells, Pt.slots] at X766 l766 y766 z766 hQ766 ⊢
           subst l766 y766 z766
           obtain ⟨rfl, N766q, e766⟩ := hQ766
           have N767 := Fr.app N764 N766q
           show Runs _ _ _ _ (T766.setTop (mkF m 210 #[.val (.int p0), .val (.int p1), .val (.int p2), .val (.int p3), .val (.ref b20), .val (.ref b36), .val (.int ((p0 &&& (255 : Int32)).toUInt32.toUInt16.toUInt32.toInt32)), .val (.int ((p1 &&& (255 : Int32)).toUInt32.toUInt16.toUInt32.toInt32)), .val (.int ((p2 &&& (255 : Int32)).toUInt32.toUInt16.toUInt32.toInt32)), .val (.int (p3 &&& (3 : Int32))), .val (.ref b587), .val .null] [(.ref G_ZERO)]))
           refine w_aload X766 hx (hb hby at_210) rfl rfl (pc' := 212) rfl ?_
           refine w_getS X766 hx "" hZ hown (Or.inl (wd_84 hw)) Via.refl e766 (S_EXPOSURE.ext f740.2) (hb hby at_212) (pc' := 215) rfl ?_
           intro T768 X768 e768
           have f771 : Exa Z T733.heap G_EXPOSURE kc4 := ((((((((((((E_G_EXPOSURE.ext E20).keep K32).ext E36).keep K50).ext E587).ext E595).wr W603).wr W610).keep K619).keep K643).keep K727).keep K733)
           have ne772 : G_EXPOSURE ≠ b20 := (Nat.ne_of_lt (Nat.lt_of_lt_of_le E_G_EXPOSURE.lt (Nat.le_trans (Nat.le_refl _) (Nat.le_of_eq g20.symm))))
           have ne773 : G_EXPOSURE ≠ b36 := (Nat.ne_of_lt (Nat.lt_of_lt_of_le E_G_EXPOSURE.lt (Nat.le_trans le38 (Nat.le_of_eq g36.symm))))
           have ne774 : G_EXPOSURE ≠ b595 := (Nat.ne_of_lt (Nat.lt_of_lt_of_le E_G_EXPOSURE.lt (Nat.le_trans le597 (Nat.le_of_eq g595.symm))))
           have ne775 : G_EXPOSURE ≠ b587 := (Nat.ne_of_lt (Nat.lt_of_lt_of_le E_G_EXPOSURE.lt (Nat.le_trans le589 (Nat.le_of_eq g587.symm))))
           have f776 : Fld Z T733.heap G_EXPOSURE kc3 "ordinal" "I" (.int (3 : Int32)) := ((((((((((((F_ordinal_G_EXPOSURE.ext E20).keep K32 (ninS ne772 nin0)).ext E36).keep K50 (ninS ne773 nin0)).ext E587).ext E595).other W603 (Or.inl ne774)).other W610 (Or.inl ne774)).keep K619 (ninS ne775 nin0)).keep K643 (ninS ne773 nin0)).keep K727 (ninS ne773 nin0)).keep K733 (ninS ne773 nin0))
           obtain ⟨cq777, kq777, q777a, q777b, q777c⟩ := isOf hZ e768 g733_0
           refine w_virtual X768 hx (y := yn_10) (z := yn_10) hown (mvT hZ (wd_65 hw)) (mvT hZ (wd_66 hw)) (notFace_of_selects (args := #[]) (mvT hZ (wd_68 hw))) (mvT hZ (wd_68 hw)) (mvT hZ (wd_67 hw)) (by decide) (backOf (W := 1) (rm_m10_9 l Z aZ hw [] b36 G_EXPOSURE G__SwitchMap_com_example_ringfence_ringfence_gate_Measure k_G__SwitchMap_com_example_ringfence_ringfence_gate_Measure G_ZERO T733.heap n0 (Nat.le_trans Z0 le737) g733_1 S__SwitchMap_com_example_ringfence_ringfence_gate_Measure f740 f771 f776 f752 g733_5) hZ (wd_69 hw) (wd_2 hw) (by decide) (by decide)) q777a q777c (by rw [hml]; rfl) [(.ref G_EXPOSURE)] (lenOf pd_5 rfl) rfl (Nat.le_of_eq rfl) (hb hby at_215) (fun _ _ => ⟨rfl, e768, (by decide : 5 + 0 ≤ _), (by decide : 20 + 0 ≤ _)⟩) (pc' := 218) rfl ?_
           rintro _ _ ⟨T777, L777, k777, n777⟩ X777 ⟨Lc777, hQ777, l777, y777, z777⟩
           dsimp only [Pt.U, Pt.locs, Pt.cells, Pt.slots] at X777 l777 y777 z777 hQ777 ⊢
           subst l777 y777 z777
           obtain ⟨rfl, N777q, e777⟩ := hQ777
           have N778 := Fr.app N767 N777q
           show Runs _ _ _ _ (T777.setTop (mkF m 218 #[.val (.int p0), .val (.int p1), .val (.int p2), .val (.int p3), .val (.ref b20), .val (.ref b36), .val (.int ((p0 &&& (255 : Int32)).toUInt32.toUInt16.toUInt32.toInt32)), .val (.int ((p1 &&& (255 : Int32)).toUInt32.toUInt16.toUInt32.toInt32)), .val (.int ((p2 &&& (255 : Int32)).toUInt32.toUInt16.toUInt32.toInt32)), .val (.int (p3 &&& (3 : Int32))), .val (.ref b587), .val .null] [(.ref G_ZERO), (.ref G_ZERO)]))
           refine w_acmp X777 hx (hb hby at_218) (same := true) rfl rfl (decide_eq_true rfl) (pc' := 221) (by decide) (by decide) ?_
           refine w_aload X777 hx (hb hby at_221) rfl rfl (pc' := 223) rfl ?_
           refine w_getS X777 hx "" hZ hown (Or.inl (wd_84 hw)) Via.refl e777 (S_EXPOSURE.ext f740.2) (hb hby at_223) (pc' := 226) rfl ?_
           intro T779 X779 e779
           obtain ⟨cq780, kq780, q780a, q780b, q780c⟩ := isOf hZ e779 g733_0
           refine w_virtual X779 hx (y := yn_10) (z := yn_10) hown (mvT hZ (wd_65 hw)) (mvT hZ (wd_66 hw)) (notFace_of_selects (args := #[]) (mvT hZ (wd_68 hw))) (mvT hZ (wd_68 hw)) (mvT hZ (wd_67 hw)) (by decide) (backOf (W := 0) (rm_m10_9 l Z aZ hw [] b36 G_EXPOSURE G__SwitchMap_com_example_ringfence_ringfence_gate_Measure k_G__SwitchMap_com_example_ringfence_ringfence_gate_Measure G_ZERO T733.heap n0 (Nat.le_trans Z0 le737) g733_1 S__SwitchMap_com_example_ringfence_ringfence_gate_Measure f740 f771 f776 f752 g733_5) hZ (wd_69 hw) (wd_2 hw) (by decide) (by decide)) q780a q780c (by rw [hml]; rfl) [(.ref G_EXPOSURE)] (lenOf pd_5 rfl) rfl (Nat.le_of_eq rfl) (hb hby at_226) (fun _ _ => ⟨rfl, e779, (by decide : 5 + 0 ≤ _), (by decide : 20 + 0 ≤ _)⟩) (pc' := 229) rfl ?_
           rintro _ _ ⟨T780, L780, k780, n780⟩ X780 ⟨Lc780, hQ780, l780, y780, z780⟩
           dsimp only [Pt.U, Pt.locs, Pt.cells, Pt.slots] at X780 l780 y780 z780 hQ780 ⊢
           subst l780 y780 z780
           obtain ⟨rfl, N780q, e780⟩ := hQ780
           have N781 := Fr.app N778 N780q
           show Runs _ _ _ _ (T780.setTop (mkF m 229 #[.val (.int p0), .val (.int p1), .val (.int p2), .val (.int p3), .val (.ref b20), .val (.ref b36), .val (.int ((p0 &&& (255 : Int32)).toUInt32.toUInt16.toUInt32.toInt32)), .val (.int ((p1 &&& (255 : Int32)).toUInt32.toUInt16.toUInt32.toInt32)), .val (.int ((p2 &&& (255 : Int32)).toUInt32.toUInt16.toUInt32.toInt32)), .val (.int (p3 &&& (3 : Int32))), .val (.ref b587), .val .null] [(.ref G_ZERO)]))
           refine w_aload X780 hx (hb hby at_229) rfl rfl (pc' := 231) rfl ?_
           refine w_getS X780 hx "" hZ hown (Or.inl (wd_84 hw)) Via.refl e780 (S_EXPOSURE.ext f740.2) (hb hby at_231) (pc' := 234) rfl ?_
           intro T782 X782 e782
           have ne797 : b20 ≠ b36 := (Nat.ne_of_lt (Nat.lt_of_lt_of_le A20.lt (Nat.le_trans K32.1 (Nat.le_of_eq g36.symm))))
           have le798 : h20.size ≤ h36.size := (Nat.le_trans K32.1 E36.1)
           have le799 : h20.size ≤ T50.heap.size := (Nat.le_trans le798 K50.1)
           have le800 : h20.size ≤ h587.size := (Nat.le_trans le799 E587.1)
           have ne801 : b20 ≠ b595 := (Nat.ne_of_lt (Nat.lt_of_lt_of_le A20.lt (Nat.le_trans le800 (Nat.le_of_eq g595.symm))))
           have ne802 : b20 ≠ b587 := (Nat.ne_of_lt (Nat.lt_of_lt_of_le A20.lt (Nat.le_trans le799 (Nat.le_of_eq g587.symm))))
           have f803 : Fld Z T733.heap b20 kc0 "unrated" "Ljava/lang/String;" .null := ((((((((((g32_6.ext E36).keep K50 (ninS ne797 nin0)).ext E587).ext E595).other W603 (Or.inl ne801)).other W610 (Or.inl ne801)).keep K619 (ninS ne802 nin0)).keep K643 (ninS ne797 nin0)).keep K727 (ninS ne797 nin0)).keep K733 (ninS ne797 nin0))
           have f804 : Fld Z T733.heap b20 kc0 "exposure" "Ljava/math/BigDecimal;" (.ref G_ZERO) := ((((((((((g32_4.ext E36).keep K50 (ninS ne797 nin0)).ext E587).ext E595).other W603 (Or.inl ne801)).other W610 (Or.inl ne801)).keep K619 (ninS ne802 nin0)).keep K643 (ninS ne797 nin0)).keep K727 (ninS ne797 nin0)).keep K733 (ninS ne797 nin0))
           have f806 : Exa Z T733.heap b20 kc0 := ((((((((((g32_0.ext E36).keep K50).ext E587).ext E595).wr W603).wr W610).keep K619).keep K643).keep K727).keep K733)
           obtain ⟨cq805, kq805, q805a, q805b, q805c⟩ := isOf hZ e782 f806
           refine w_virtual X782 hx (y := yn_10) (z := yn_10) hown (mvT hZ (wd_65 hw)) (mvT hZ (wd_66 hw)) (notFace_of_selects (args := #[]) (mvT hZ (wd_68 hw))) (mvT hZ (wd_68 hw)) (mvT hZ (wd_67 hw)) (by decide) (backOf (W := 1) (rm_m10_9 l Z aZ hw [] b20 G_EXPOSURE G__SwitchMap_com_example_ringfence_ringfence_gate_Measure k_G__SwitchMap_com_example_ringfence_ringfence_gate_Measure G_ZERO T733.heap n0 (Nat.le_trans Z0 le737) f803 S__SwitchMap_com_example_ringfence_ringfence_gate_Measure f740 f771 f776 f752 f804) hZ (wd_69 hw) (wd_2 hw) (by decide) (by decide)) q805a q805c (by rw [hml]; rfl) [(.ref G_EXPOSURE)] (lenOf pd_5 rfl) rfl (Nat.le_of_eq rfl) (hb hby at_234) (fun _ _ => ⟨rfl, e782, (by decide : 5 + 0 ≤ _), (by decide : 20 + 0 ≤ _)⟩) (pc' := 237) rfl ?_
           rintro _ _ ⟨T805, L805, k805, n805⟩ X805 ⟨Lc805, hQ805, l805, y805, z805⟩
           dsimp only [Pt.U, Pt.locs, Pt.cells, Pt.slots] at X805 l805 y805 z805 hQ805 ⊢
           subst l805 y805 z805
           obtain ⟨rfl, N805q, e805⟩ := hQ805
           have N807 := Fr.app N781 N805q
           show Runs _ _ _ _ (T805.setTop (mkF m 237 #[.val (.int p0), .val (.int p1), .val (.int p2), .val (.int p3), .val (.ref b20), .val (.ref b36), .val (.int ((p0 &&& (255 : Int32)).toUInt32.toUInt16.toUInt32.toInt32)), .val (.int ((p1 &&& (255 : Int32)).toUInt32.toUInt16.toUInt32.toInt32)), .val (.int ((p2 &&& (255 : Int32)).toUInt32.toUInt16.toUInt32.toInt32)), .val (.int (p3 &&& (3 : Int32))), .val (.ref b587), .val .null] [(.ref G_ZERO), (.ref G_ZERO)]))
           refine w_acmp X805 hx (hb hby at_237) (same := true) rfl rfl (decide_eq_true rfl) (pc' := 240) (by decide) (by decide) ?_
           refine w_iconst X805 hx (hb hby at_240) (v := (1 : Int32)) rfl (pc' := 241) rfl ?_
           refine w_goto X805 hx (hb hby at_241) (pc' := 245) (by decide) (by decide) ?_
           exact w_doneH X805 hlk (v := some (.int (1 : Int32))) e805 hh hZ (own_EW hw) hS0 (Nat.le_trans (Nat.le_refl _) le737) C735 (fun h => by rw [hret] at h; cases h) (fun fs hr => retN X805 hx (t := .boolean) hret (by simp) (hb hby at_245) hr) (by decide) (by decide) (fun hsy => ⟨rfl, N807⟩)
       · refine w_ifN X619 hx (hb hby at_140) (feq hc631).1 (pc' := 143) rfl ?_
         refine w_aload X619 hx (hb hby at_143) rfl rfl (pc' := 145) rfl ?_
         refine w_goto X619 hx (hb hby at_145) (pc' := 149) (by decide) (by decide) ?_
         refine w_astore X619 hx (hb hby at_149) rfl (L' := #[.val (.int p0), .val (.int p1), .val (.int p2), .val (.int p3), .val (.ref b20), .val (.ref b36), .val (.int ((p0 &&& (255 : Int32)).toUInt32.toUInt16.toUInt32.toInt32)), .val (.int ((p1 &&& (255 : Int32)).toUInt32.toUInt16.toUInt32.toInt32)), .val (.int ((p2 &&& (255 : Int32)).toUInt32.toUInt16.toUInt32.toInt32)), .val (.int (p3 &&& (3 : Int32))), .val (.ref b587), .val (.ref b587)]) rfl (pc' := 151) rfl ?_
         refine w_aload X619 hx (hb hby at_151) rfl rfl (pc' := 153) rfl ?_
         refine w_aload X619 hx (hb hby at_153) rfl rfl (pc' := 155) rfl ?_
         have f808 : Exa Z T619.heap b36 kc0 := (((((g50_0.ext E587).ext E595).wr W603).wr W610).keep K619)
         have le809 : h36.size ≤ h587.size := (Nat.le_trans K50.1 E587.1)
         have ne810 : b36 ≠ b595 := (Nat.ne_of_lt (Nat.lt_of_lt_of_le A36.lt (Nat.le_trans le809 (Nat.le_of_eq g595.symm))))
         have ne811 : b36 ≠ b587 := (Nat.ne_of_lt (Nat.lt_of_lt_of_le A36.lt (Nat.le_trans K50.1 (Nat.le_of_eq g587.symm))))
         have f812 : Fld Z T619.heap b36 kc0 "unrated" "Ljava/lang/String;" .null := (((((g50_6.ext E587).ext E595).other W603 (Or.inl ne810)).other W610 (Or.inl ne810)).keep K619 (ninS ne811 nin0))
         have f813 : Fld Z T619.heap b36 kc0 "open" "Ljava/math/BigDecimal;" (.ref G_ZERO) := (((((g50_1.ext E587).ext E595).other W603 (Or.inl ne810)).other W610 (Or.inl ne810)).keep K619 (ninS ne811 nin0))
         have f814 : Fld Z T619.heap b36 kc0 "downside" "Ljava/math/BigDecimal;" (.ref G_ZERO) := (((((g50_2.ext E587).ext E595).other W603 (Or.inl ne810)).other W610 (Or.inl ne810)).keep K619 (ninS ne811 nin0))
         have f815 : Fld Z T619.heap b36 kc0 "upside" "Ljava/math/BigDecimal;" (.ref G_ZERO) := (((((g50_3.ext E587).ext E595).other W603 (Or.inl ne810)).other W610 (Or.inl ne810)).keep K619 (ninS ne811 nin0))
         have f816 : Fld Z T619.heap b36 kc0 "exposure" "Ljava/math/BigDecimal;" (.ref G_ZERO) := (((((g50_4.ext E587).ext E595).other W603 (Or.inl ne810)).other W610 (Or.inl ne810)).keep K619 (ninS ne811 nin0))
         have f817 : Fld Z T619.heap b36 kc0 "pool" "Lcom/example/ringfence/ringfence/gate/Pool;" .null := (((((g50_5.ext E587).ext E595).other W603 (Or.inl ne810)).other W610 (Or.inl ne810)).keep K619 (ninS ne811 nin0))
         have le818 : h0.size ≤ T619.heap.size := (Nat.le_trans le618 K619.1)
         obtain ⟨cq819, kq819, q819a, q819b, q819c⟩ := isOf hZ rfl f808
         refine w_virtual X619 hx (y := yn_7) (z := yn_7) hown (mvT hZ (wd_45 hw)) (mvT hZ (wd_46 hw)) (notFace_of_selects (args := #[]) (mvT hZ (wd_48 hw))) (mvT hZ (wd_48 hw)) (mvT hZ (wd_47 hw)) (by decide) (backOf (W := 0) (rm_m7_11 l Z aZ hw [] b36 b587 G_ZERO T619.heap n0 (Nat.le_trans Z0 le818) f808 f812 ge37 f813 f814 f815 f816 f817) hZ (wd_49 hw) (wd_2 hw) (by decide) (by decide)) q819a q819c (by rw [hml]; rfl) [(.ref b587)] (lenOf pd_1 rfl) rfl (Nat.le_of_eq rfl) (hb hby at_155) (fun _ _ => ⟨rfl, rfl, (by decide : 5 + 0 ≤ _), (by decide : 20 + 0 ≤ _)⟩) (pc' := 158) rfl ?_
         rintro _ _ ⟨T819, L819, k819, n819⟩ X819 ⟨Lc819, hQ819, l819, y819, z819⟩
         dsimp only [Pt.U, Pt.locs, Pt.cells, Pt.slots] at X819 l819 y819 z819 hQ819 ⊢
         subst l819 y819 z819
         obtain ⟨rfl, N819q, K819, g819_0, g819_1, g819_2, g819_3, g819_4, g819_5, g819_6⟩ := hQ819
         have N820 := Fr.app N625 N819q
         have C821 : CHr Z EL s.vm h0 s.vm T819.heap := C627.trans (CHr.keep K819 (sfS (Safe.exa hZ.alike f808 (by decide) (by decide)) sf0) C627.1)
         have K822 : Keep h0 T819.heap [] := K628.trans K819 (allS (Or.inr sz39) (all0 (P := fun x => x ∈ [] ∨ h0.size ≤ x)))
         show Runs _ _ _ _ (T819.setTop (mkF m 158 #[.val (.int p0), .val (.int p1), .val (.int p2), .val (.int p3), .val (.ref b20), .val (.ref b36), .val (.int ((p0 &&& (255 : Int32)).toUInt32.toUInt16.toUInt32.toInt32)), .val (.int ((p1 &&& (255 : Int32)).toUInt32.toUInt16.toUInt32.toInt32)), .val (.int ((p2 &&& (255 : Int32)).toUInt32.toUInt16.toUInt32.toInt32)), .val (.int (p3 &&& (3 : Int32))), .val (.ref b587), .val (.ref b587)] []))
         refine w_iloadN X819 hx (hb hby at_158) rfl (pc' := 159) rfl ?_
         refine w_bipush X819 hx (hb hby at_159) (v := (8 : Int32)) rfl (pc' := 161) rfl ?_
         refine w_iand X819 hx (hb hby at_161) (pc' := 162) rfl ?_
         by_cases hc823 : (p3 &&& (8 : Int32)) = (0 : Int32)
         · refine w_ifY X819 hx (hb hby at_162) (teq hc823).1 (pc' := 170) (by decide) (by decide) ?_
           refine w_aload X819 hx (hb hby at_170) rfl rfl (pc' := 172) rfl ?_
           have f824 : Old Z n0 T819.heap := ((f624.keep K619 (allS ge588 all0)).keep K819 (allS ge37 all0))
           have le825 : h0.size ≤ T819.heap.size := (Nat.le_trans le818 K819.1)
           obtain ⟨cq826, kq826, q826a, q826b, q826c⟩ := isOf hZ rfl g819_0
           refine w_virtual X819 hx (y := yn_8) (z := yn_8) hown (mvT hZ (wd_52 hw)) (mvT hZ (wd_53 hw)) (notFace_of_selects (args := #[]) (mvT hZ (wd_55 hw))) (mvT hZ (wd_55 hw)) (mvT hZ (wd_54 hw)) (by decide) (backOf (W := 0) (rm_m8_12 l Z aZ hw [] b36 b587 G_ZERO T819.heap n0 (Nat.le_trans Z0 le825) g819_0 g819_1 ge37 S_ZERO f824 g819_2 g819_3 g819_4 g819_5 g819_6) hZ (wd_56 hw) (wd_2 hw) (by decide) (by decide)) q826a q826c (by rw [hml]; rfl) [] (lenOf pd_2 rfl) rfl (Nat.le_of_eq rfl) (hb hby at_172) (fun _ _ => ⟨rfl, rfl, (by decide : 5 + 0 ≤ _), (by decide : 20 + 0 ≤ _)⟩) (pc' := 175) rfl ?_
           rintro _ _ ⟨T826, L826, k826, n826⟩ X826 ⟨Lc826, hQ826, l826, y826, z826⟩
           dsimp only [Pt.U, Pt.locs, Pt.cells, Pt.slots] at X826 l826 y826 z826 hQ826 ⊢
           subst l826 y826 z826
           obtain ⟨rfl, N826q, K826, g826_0, g826_1, g826_2, g826_3, g826_4, g826_5, g826_6⟩ := hQ826
           have N827 := Fr.app N820 N826q
           have C828 : CHr Z EL s.vm h0 s.vm T826.heap := C821.trans (CHr.keep K826 (sfS (Safe.exa hZ.alike g819_0 (by decide) (by decide)) sf0) C821.1)
           have K829 : Keep h0 T826.heap [] := K822.trans K826 (allS (Or.inr sz39) (all0 (P := fun x => x ∈ [] ∨ h0.size ≤ x)))
           show Runs _ _ _ _ (T826.setTop (mkF m 175 #[.val (.int p0), .val (.int p1), .val (.int p2), .val (.int p3), .val (.ref b20), .val (.ref b36), .val (.int ((p0 &&& (255 : Int32)).toUInt32.toUInt16.toUInt32.toInt32)), .val (.int ((p1 &&& (255 : Int32)).toUInt32.toUInt16.toUInt32.toInt32)), .val (.int ((p2 &&& (255 : Int32)).toUInt32.toUInt16.toUInt32.toInt32)), .val (.int (p3 &&& (3 : Int32))), .val (.ref b587), .val (.ref b587)] []))
           refine w_aload X826 hx (hb hby at_175) rfl rfl (pc' := 177) rfl ?_
           have le830 : h0.size ≤ T826.heap.size := (Nat.le_trans le825 K826.1)
           obtain ⟨cq831, kq831, q831a, q831b, q831c⟩ := isOf hZ rfl g826_0
           refine w_virtual X826 hx (y := yn_9) (z := yn_9) hown (mvT hZ (wd_57 hw)) (mvT hZ (wd_58 hw)) (notFace_of_selects (args := #[]) (mvT hZ (wd_60 hw))) (mvT hZ (wd_60 hw)) (mvT hZ (wd_59 hw)) (by decide) (backOf (W := 0) (rm_m9_4 l Z aZ hw [] b36 T826.heap n0 (Nat.le_trans Z0 le830) g826_1) hZ (wd_61 hw) (wd_2 hw) (by decide) (by decide)) q831a q831c (by rw [hml]; rfl) [] (lenOf pd_3 rfl) rfl (Nat.le_of_eq rfl) (hb hby at_177) (fun _ _ => ⟨rfl, rfl, (by decide : 5 + 0 ≤ _), (by decide : 20 + 0 ≤ _)⟩) (pc' := 180) rfl ?_
           rintro _ _ ⟨T831, L831, k831, n831⟩ X831 ⟨Lc831, hQ831, l831, y831, z831⟩
           dsimp only [Pt.U, Pt.locs, Pt.cells, Pt.slots] at X831 l831 y831 z831 hQ831 ⊢
           subst l831 y831 z831
           obtain ⟨rfl, N831q, e831⟩ := hQ831
           have N832 := Fr.app N827 N831q
           show Runs _ _ _ _ (T831.setTop (mkF m 180 #[.val (.int p0), .val (.int p1), .val (.int p2), .val (.int p3), .val (.ref b20), .val (.ref b36), .val (.int ((p0 &&& (255 : Int32)).toUInt32.toUInt16.toUInt32.toInt32)), .val (.int ((p1 &&& (255 : Int32)).toUInt32.toUInt16.toUInt32.toInt32)), .val (.int ((p2 &&& (255 : Int32)).toUInt32.toUInt16.toUInt32.toInt32)), .val (.int (p3 &&& (3 : Int32))), .val (.ref b587), .val (.ref b587)] [.null]))
           refine w_ifnonnullN X831 hx (hb hby at_180) (pc' := 183) rfl ?_
           refine w_aload X831 hx (hb hby at_183) rfl rfl (pc' := 185) rfl ?_
           have f833 : Old Z n0 T826.heap := (f824.keep K826 (allS ge37 all0))
           refine w_getS X831 hx "" hZ hown (Or.inl (wd_62 hw)) Via.refl e831 (S_DOWNSIDE.ext f833.2) (hb hby at_185) (pc' := 188) rfl ?_
           intro T834 X834 e834
           have f835 : Exa Z T826.heap G_DOWNSIDE kc4 := (((((((((((E_G_DOWNSIDE.ext E20).keep K32).ext E36).keep K50).ext E587).ext E595).wr W603).wr W610).keep K619).keep K819).keep K826)
           have ne836 : G_DOWNSIDE ≠ b20 := (Nat.ne_of_lt (Nat.lt_of_lt_of_le E_G_DOWNSIDE.lt (Nat.le_trans (Nat.le_refl _) (Nat.le_of_eq g20.symm))))
           have ne837 : G_DOWNSIDE ≠ b36 := (Nat.ne_of_lt (Nat.lt_of_lt_of_le E_G_DOWNSIDE.lt (Nat.le_trans le38 (Nat.le_of_eq g36.symm))))
           have ne838 : G_DOWNSIDE ≠ b595 := (Nat.ne_of_lt (Nat.lt_of_lt_of_le E_G_DOWNSIDE.lt (Nat.le_trans le597 (Nat.le_of_eq g595.symm))))
           have ne839 : G_DOWNSIDE ≠ b587 := (Nat.ne_of_lt (Nat.lt_of_lt_of_le E_G_DOWNSIDE.lt (Nat.le_trans le589 (Nat.le_of_eq g587.symm))))
           have f840 : Fld Z T826.heap G_DOWNSIDE kc3 "ordinal" "I" (.int (1 : Int32)) := (((((((((((F_ordinal_G_DOWNSIDE.ext E20).keep K32 (ninS ne836 nin0)).ext E36).keep K50 (ninS ne837 nin0)).ext E587).ext E595).other W603 (Or.inl ne838)).other W610 (Or.inl ne838)).keep K619 (ninS ne839 nin0)).keep K819 (ninS ne837 nin0)).keep K826 (ninS ne837 nin0))
           have ne841 : G__SwitchMap_com_example_ringfence_ringfence_gate_Measure ≠ b20 := (Nat.ne_of_lt (Nat.lt_of_lt_of_le V_G__SwitchMap_com_example_ringfence_ringfence_gate_Measure.lt (Nat.le_trans (Nat.le_refl _) (Nat.le_of_eq g20.symm))))
           have ne842 : G__SwitchMap_com_example_ringfence_ringfence_gate_Measure ≠ b36 := (Nat.ne_of_lt (Nat.lt_of_lt_of_le V_G__SwitchMap_com_example_ringfence_ringfence_gate_Measure.lt (Nat.le_trans le38 (Nat.le_of_eq g36.symm))))
           have ne843 : G__SwitchMap_com_example_ringfence_ringfence_gate_Measure ≠ b595 := (Nat.ne_of_lt (Nat.lt_of_lt_of_le V_G__SwitchMap_com_example_ringfence_ringfence_gate_Measure.lt (Nat.le_trans le597 (Nat.le_of_eq g595.symm))))
           have ne844 : G__SwitchMap_com_example_ringfence_ringfence_gate_Measure ≠ b587 := (Nat.ne_of_lt (Nat.lt_of_lt_of_le V_G__SwitchMap_com_example_ringfence_ringfence_gate_Measure.lt (Nat.le_trans le589 (Nat.le_of_eq g587.symm))))
           have f845 : Arv Z T826.heap G__SwitchMap_com_example_ringfence_ringfence_gate_Measure k_G__SwitchMap_com_example_ringfence_ringfence_gate_Measure .int (5 : Int32) [(.int (1 : Int32)), (.int (2 : Int32)), (.int (3 : Int32)), (.int (4 : Int32)), (.int (5 : Int32))] (.int (0 : Int32)) := (((((((((((V_G__SwitchMap_com_example_ringfence_ringfence_gate_Measure.ext E20).keep K32 (ninS ne841 nin0)).ext E36).keep K50 (ninS ne842 nin0)).ext E587).ext E595).other W603 ne843).other W610 ne843).keep K619 (ninS ne844 nin0)).keep K819 (ninS ne842 nin0)).keep K826 (ninS ne842 nin0))
           obtain ⟨cq846, kq846, q846a, q846b, q846c⟩ := isOf hZ e834 g826_0
           refine w_virtual X834 hx (y := yn_10) (z := yn_10) hown (mvT hZ (wd_65 hw)) (mvT hZ (wd_66 hw)) (notFace_of_selects (args := #[]) (mvT hZ (wd_68 hw))) (mvT hZ (wd_68 hw)) (mvT hZ (wd_67 hw)) (by decide) (backOf (W := 0) (rm_m10_5 l Z aZ hw [] b36 G_DOWNSIDE G__SwitchMap_com_example_ringfence_ringfence_gate_Measure k_G__SwitchMap_com_example_ringfence_ringfence_gate_Measure G_ZERO T826.heap n0 (Nat.le_trans Z0 le830) g826_1 S__SwitchMap_com_example_ringfence_ringfence_gate_Measure f833 f835 f840 f845 g826_3) hZ (wd_69 hw) (wd_2 hw) (by decide) (by decide)) q846a q846c (by rw [hml]; rfl) [(.ref G_DOWNSIDE)] (lenOf pd_5 rfl) rfl (Nat.le_of_eq rfl) (hb hby at_188) (fun _ _ => ⟨rfl, e834, (by decide : 5 + 0 ≤ _), (by decide : 20 + 0 ≤ _)⟩) (pc' := 191) rfl ?_
           rintro _ _ ⟨T846, L846, k846, n846⟩ X846 ⟨Lc846, hQ846, l846, y846, z846⟩
           dsimp only [Pt.U, Pt.locs, Pt.cells, Pt.slots] at X846 l846 y846 z846 hQ846 ⊢
           subst l846 y846 z846
           obtain ⟨rfl, N846q, e846⟩ := hQ846
           have N847 := Fr.app N832 N846q
           show Runs _ _ _ _ (T846.setTop (mkF m 191 #[.val (.int p0), .val (.int p1), .val (.int p2), .val (.int p3), .val (.ref b20), .val (.ref b36), .val (.int ((p0 &&& (255 : Int32)).toUInt32.toUInt16.toUInt32.toInt32)), .val (.int ((p1 &&& (255 : Int32)).toUInt32.toUInt16.toUInt32.toInt32)), .val (.int ((p2 &&& (255 : Int32)).toUInt32.toUInt16.toUInt32.toInt32)), .val (.int (p3 &&& (3 : Int32))), .val (.ref b587), .val (.ref b587)] [(.ref G_ZERO)]))
           refine w_aload X846 hx (hb hby at_191) rfl rfl (pc' := 193) rfl ?_
           refine w_getS X846 hx "" hZ hown (Or.inl (wd_82 hw)) Via.refl e846 (S_UPSIDE.ext f833.2) (hb hby at_193) (pc' := 196) rfl ?_
           intro T848 X848 e848
           have f850 : Exa Z T826.heap G_UPSIDE kc4 := (((((((((((E_G_UPSIDE.ext E20).keep K32).ext E36).keep K50).ext E587).ext E595).wr W603).wr W610).keep K619).keep K819).keep K826)
           have ne851 : G_UPSIDE ≠ b20 := (Nat.ne_of_lt (Nat.lt_of_lt_of_le E_G_UPSIDE.lt (Nat.le_trans (Nat.le_refl _) (Nat.le_of_eq g20.symm))))
           have ne852 : G_UPSIDE ≠ b36 := (Nat.ne_of_lt (Nat.lt_of_lt_of_le E_G_UPSIDE.lt (Nat.le_trans le38 (Nat.le_of_eq g36.symm))))
           have ne853 : G_UPSIDE ≠ b595 := (Nat.ne_of_lt (Nat.lt_of_lt_of_le E_G_UPSIDE.lt (Nat.le_trans le597 (Nat.le_of_eq g595.symm))))
           have ne854 : G_UPSIDE ≠ b587 := (Nat.ne_of_lt (Nat.lt_of_lt_of_le E_G_UPSIDE.lt (Nat.le_trans le589 (Nat.le_of_eq g587.symm))))
           have f855 : Fld Z T826.heap G_UPSIDE kc3 "ordinal" "I" (.int (2 : Int32)) := (((((((((((F_ordinal_G_UPSIDE.ext E20).keep K32 (ninS ne851 nin0)).ext E36).keep K50 (ninS ne852 nin0)).ext E587).ext E595).other W603 (Or.inl ne853)).other W610 (Or.inl ne853)).keep K619 (ninS ne854 nin0)).keep K819 (ninS ne852 nin0)).keep K826 (ninS ne852 nin0))
           obtain ⟨cq856, kq856, q856a, q856b, q856c⟩ := isOf hZ e848 g826_0
           refine w_virtual X848 hx (y := yn_10) (z := yn_10) hown (mvT hZ (wd_65 hw)) (mvT hZ (wd_66 hw)) (notFace_of_selects (args := #[]) (mvT hZ (wd_68 hw))) (mvT hZ (wd_68 hw)) (mvT hZ (wd_67 hw)) (by decide) (backOf (W := 1) (rm_m10_7 l Z aZ hw [] b36 G_UPSIDE G__SwitchMap_com_example_ringfence_ringfence_gate_Measure k_G__SwitchMap_com_example_ringfence_ringfence_gate_Measure G_ZERO T826.heap n0 (Nat.le_trans Z0 le830) g826_1 S__SwitchMap_com_example_ringfence_ringfence_gate_Measure f833 f850 f855 f845 g826_4) hZ (wd_69 hw) (wd_2 hw) (by decide) (by decide)) q856a q856c (by rw [hml]; rfl) [(.ref G_UPSIDE)] (lenOf pd_5 rfl) rfl (Nat.le_of_eq rfl) (hb hby at_196) (fun _ _ => ⟨rfl, e848, (by decide : 5 + 0 ≤ _), (by decide : 20 + 0 ≤ _)⟩) (pc' := 199) rfl ?_
           rintro _ _ ⟨T856, L856, k856, n856⟩ X856 ⟨Lc856, hQ856, l856, y856, z856⟩
           dsimp only [Pt.U, Pt.locs, Pt.cells, Pt.slots] at X856 l856 y856 z856 hQ856 ⊢
           subst l856 y856 z856
           obtain ⟨rfl, N856q, e856⟩ := hQ856
           have N857 := Fr.app N847 N856q
           show Runs _ _ _ _ (T856.setTop (mkF m 199 #[.val (.int p0), .val (.int p1), .val (.int p2), .val (.int p3), .val (.ref b20), .val (.ref b36), .val (.int ((p0 &&& (255 : Int32)).toUInt32.toUInt16.toUInt32.toInt32)), .val (.int ((p1 &&& (255 : Int32)).toUInt32.toUInt16.toUInt32.toInt32)), .val (.int ((p2 &&& (255 : Int32)).toUInt32.toUInt16.toUInt32.toInt32)), .val (.int (p3 &&& (3 : Int32))), .val (.ref b587), .val (.ref b587)] [(.ref G_ZERO), (.ref G_ZERO)]))
           refine w_acmp X856 hx (hb hby at_199) (same := true) rfl rfl (decide_eq_true rfl) (pc' := 202) (by decide) (by decide) ?_
           refine w_aload X856 hx (hb hby at_202) rfl rfl (pc' := 204) rfl ?_
           refine w_getS X856 hx "" hZ hown (Or.inl (wd_82 hw)) Via.refl e856 (S_UPSIDE.ext f833.2) (hb hby at_204) (pc' := 207) rfl ?_
           intro T858 X858 e858
           obtain ⟨cq859, kq859, q859a, q859b, q859c⟩ := isOf hZ e858 g826_0
           refine w_virtual X858 hx (y := yn_10) (z := yn_10) hown (mvT hZ (wd_65 hw)) (mvT hZ (wd_66 hw)) (notFace_of_selects (args := #[]) (mvT hZ (wd_68 hw))) (mvT hZ (wd_68 hw)) (mvT hZ (wd_67 hw)) (by decide) (backOf (W := 0) (rm_m10_7 l Z aZ hw [] b36 G_UPSIDE G__SwitchMap_com_example_ringfence_ringfence_gate_Measure k_G__SwitchMap_com_example_ringfence_ringfence_gate_Measure G_ZERO T826.heap n0 (Nat.le_trans Z0 le830) g826_1 S__SwitchMap_com_example_ringfence_ringfence_gate_Measure f833 f850 f855 f845 g826_4) hZ (wd_69 hw) (wd_2 hw) (by decide) (by decide)) q859a q859c (by rw [hml]; rfl) [(.ref G_UPSIDE)] (lenOf pd_5 rfl) rfl (Nat.le_of_eq rfl) (hb hby at_207) (fun _ _ => ⟨rfl, e858, (by decide : 5 + 0 ≤ _), (by decide : 20 + 0 ≤ _)⟩) (pc' := 210) rfl ?_
           rintro _ _ ⟨T859, L859, k859, n859⟩ X859 ⟨Lc859, hQ859, l859, y859, z859⟩
           dsimp only [Pt.U, Pt.locs, Pt.cells, Pt.slots] at X859 l859 y859 z859 hQ859 ⊢
           subst l859 y859 z859
           obtain ⟨rfl, N859q, e859⟩ := hQ859
           have N860 := Fr.app N857 N859q
           show Runs _ _ _ _ (T859.setTop (mkF m 210 #[.val (.int p0), .val (.int p1), .val (.int p2), .val (.int p3), .val (.ref b20), .val (.ref b36), .val (.int ((p0 &&& (255 : Int32)).toUInt32.toUInt16.toUInt32.toInt32)), .val (.int ((p1 &&& (255 : Int32)).toUInt32.toUInt16.toUInt32.toInt32)), .val (.int ((p2 &&& (255 : Int32)).toUInt32.toUInt16.toUInt32.toInt32)), .val (.int (p3 &&& (3 : Int32))), .val (.ref b587), .val (.ref b587)] [(.ref G_ZERO)]))
           refine w_aload X859 hx (hb hby at_210) rfl rfl (pc' := 212) rfl ?_
           refine w_getS X859 hx "" hZ hown (Or.inl (wd_84 hw)) Via.refl e859 (S_EXPOSURE.ext f833.2) (hb hby at_212) (pc' := 215) rfl ?_
           intro T861 X861 e861
           have f864 : Exa Z T826.heap G_EXPOSURE kc4 := (((((((((((E_G_EXPOSURE.ext E20).keep K32).ext E36).keep K50).ext E587).ext E595).wr W603).wr W610).keep K619).keep K819).keep K826)
           have ne865 : G_EXPOSURE ≠ b20 := (Nat.ne_of_lt (Nat.lt_of_lt_of_le E_G_EXPOSURE.lt (Nat.le_trans (Nat.le_refl _) (Nat.le_of_eq g20.symm))))
           have ne866 : G_EXPOSURE ≠ b36 := (Nat.ne_of_lt (Nat.lt_of_lt_of_le E_G_EXPOSURE.lt (Nat.le_trans le38 (Nat.le_of_eq g36.symm))))
           have ne867 : G_EXPOSURE ≠ b595 := (Nat.ne_of_lt (Nat.lt_of_lt_of_le E_G_EXPOSURE.lt (Nat.le_trans le597 (Nat.le_of_eq g595.symm))))
           have ne868 : G_EXPOSURE ≠ b587 := (Nat.ne_of_lt (Nat.lt_of_lt_of_le E_G_EXPOSURE.lt (Nat.le_trans le589 (Nat.le_of_eq g587.symm))))
           have f869 : Fld Z T826.heap G_EXPOSURE kc3 "ordinal" "I" (.int (3 : Int32)) := (((((((((((F_ordinal_G_EXPOSURE.ext E20).keep K32 (ninS ne865 nin0)).ext E36).keep K50 (ninS ne866 nin0)).ext E587).ext E595).other W603 (Or.inl ne867)).other W610 (Or.inl ne867)).keep K619 (ninS ne868 nin0)).keep K819 (ninS ne866 nin0)).keep K826 (ninS ne866 nin0))
           obtain ⟨cq870, kq870, q870a, q870b, q870c⟩ := isOf hZ e861 g826_0
           refine w_virtual X861 hx (y := yn_10) (z := yn_10) hown (mvT hZ (wd_65 hw)) (mvT hZ (wd_66 hw)) (notFace_of_selects (args := #[]) (mvT hZ (wd_68 hw))) (mvT hZ (wd_68 hw)) (mvT hZ (wd_67 hw)) (by decide) (backOf (W := 1) (rm_m10_9 l Z aZ hw [] b36 G_EXPOSURE G__SwitchMap_com_example_ringfence_ringfence_gate_Measure k_G__SwitchMap_com_example_ringfence_ringfence_gate_Measure G_ZERO T826.heap n0 (Nat.le_trans Z0 le830) g826_1 S__SwitchMap_com_example_ringfence_ringfence_gate_Measure f833 f864 f869 f845 g826_5) hZ (wd_69 hw) (wd_2 hw) (by decide) (by decide)) q870a q870c (by rw [hml]; rfl) [(.ref G_EXPOSURE)] (lenOf pd_5 rfl) rfl (Nat.le_of_eq rfl) (hb hby at_215) (fun _ _ => ⟨rfl, e861, (by decide : 5 + 0 ≤ _), (by decide : 20 + 0 ≤ _)⟩) (pc' := 218) rfl ?_
           rintro _ _ ⟨T870, L870, k870, n870⟩ X870 ⟨Lc870, hQ870, l870, y870, z870⟩
           dsimp only [Pt.U, Pt.locs, Pt.cells, Pt.slots] at X870 l870 y870 z870 hQ870 ⊢
           subst l870 y870 z870
           obtain ⟨rfl, N870q, e870⟩ := hQ870
           have N871 := Fr.app N860 N870q
           show Runs _ _ _ _ (T870.setTop (mkF m 218 #[.val (.int p0), .val (.int p1), .val (.int p2), .val (.int p3), .val (.ref b20), .val (.ref b36), .val (.int ((p0 &&& (255 : Int32)).toUInt32.toUInt16.toUInt32.toInt32)), .val (.int ((p1 &&& (255 : Int32)).toUInt32.toUInt16.toUInt32.toInt32)), .val (.int ((p2 &&& (255 : Int32)).toUInt32.toUInt16.toUInt32.toInt32)), .val (.int (p3 &&& (3 : Int32))), .val (.ref b587), .val (.ref b587)] [(.ref G_ZERO), (.ref G_ZERO)]))
           refine w_acmp X870 hx (hb hby at_218) (same := true) rfl rfl (decide_eq_true rfl) (pc' := 221) (by decide) (by decide) ?_
           refine w_aload X870 hx (hb hby at_221) rfl rfl (pc' := 223) rfl ?_
           refine w_getS X870 hx "" hZ hown (Or.inl (wd_84 hw)) Via.refl e870 (S_EXPOSURE.ext f833.2) (hb hby at_223) (pc' := 226) rfl ?_
           intro T872 X872 e872
           obtain ⟨cq873, kq873, q873a, q873b, q873c⟩ := isOf hZ e872 g826_0
           refine w_virtual X872 hx (y := yn_10) (z := yn_10) hown (mvT hZ (wd_65 hw)) (mvT hZ (wd_66 hw)) (notFace_of_selects (args := #[]) (mvT hZ (wd_68 hw))) (mvT hZ (wd_68 hw)) (mvT hZ (wd_67 hw)) (by decide) (backOf (W := 0) (rm_m10_9 l Z aZ hw [] b36 G_EXPOSURE G__SwitchMap_com_example_ringfence_ringfence_gate_Measure k_G__SwitchMap_com_example_ringfence_ringfence_gate_Measure G_ZERO T826.heap n0 (Nat.le_trans Z0 le830) g826_1 S__SwitchMap_com_example_ringfence_ringfence_gate_Measure f833 f864 f869 f845 g826_5) hZ (wd_69 hw) (wd_2 hw) (by decide) (by decide)) q873a q873c (by rw [hml]; rfl) [(.ref G_EXPOSURE)] (lenOf pd_5 rfl) rfl (Nat.le_of_eq rfl) (hb hby at_226) (fun _ _ => ⟨rfl, e872, (by decide : 5 + 0 ≤ _), (by decide : 20 + 0 ≤ _)⟩) (pc' := 229) rfl ?_
           rintro _ _ ⟨T873, L873, k873, n873⟩ X873 ⟨Lc873, hQ873, l873, y873, z873⟩
           dsimp only [Pt.U, Pt.locs, Pt.cells, Pt.slots] at X873 l873 y873 z873 hQ873 ⊢
           subst l873 y873 z873
           obtain ⟨rfl, N873q, e873⟩ := hQ873
           have N874 := Fr.app N871 N873q
           show Runs _ _ _ _ (T873.setTop (mkF m 229 #[.val (.int p0), .val (.int p1), .val (.int p2), .val (.int p3), .val (.ref b20), .val (.ref b36), .val (.int ((p0 &&& (255 : Int32)).toUInt32.toUInt16.toUInt32.toInt32)), .val (.int ((p1 &&& (255 : Int32)).toUInt32.toUInt16.toUInt32.toInt32)), .val (.int ((p2 &&& (255 : Int32)).toUInt32.toUInt16.toUInt32.toInt32)), .val (.int (p3 &&& (3 : Int32))), .val (.ref b587), .val (.ref b587)] [(.ref G_ZERO)]))
           refine w_aload X873 hx (hb hby at_229) rfl rfl (pc' := 231) rfl ?_
           refine w_getS X873 hx "" hZ hown (Or.inl (wd_84 hw)) Via.refl e873 (S_EXPOSURE.ext f833.2) (hb hby at_231) (pc' := 234) rfl ?_
           intro T875 X875 e875
           have ne890 : b20 ≠ b36 := (Nat.ne_of_lt (Nat.lt_of_lt_of_le A20.lt (Nat.le_trans K32.1 (Nat.le_of_eq g36.symm))))
           have le891 : h20.size ≤ h36.size := (Nat.le_trans K32.1 E36.1)
           have le892 : h20.size ≤ T50.heap.size := (Nat.le_trans le891 K50.1)
           have le893 : h20.size ≤ h587.size := (Nat.le_trans le892 E587.1)
           have ne894 : b20 ≠ b595 := (Nat.ne_of_lt (Nat.lt_of_lt_of_le A20.lt (Nat.le_trans le893 (Nat.le_of_eq g595.symm))))
           have ne895 : b20 ≠ b587 := (Nat.ne_of_lt (Nat.lt_of_lt_of_le A20.lt (Nat.le_trans le892 (Nat.le_of_eq g587.symm))))
           have f896 : Fld Z T826.heap b20 kc0 "unrated" "Ljava/lang/String;" .null := (((((((((g32_6.ext E36).keep K50 (ninS ne890 nin0)).ext E587).ext E595).other W603 (Or.inl ne894)).other W610 (Or.inl ne894)).keep K619 (ninS ne895 nin0)).keep K819 (ninS ne890 nin0)).keep K826 (ninS ne890 nin0))
           have f897 : Fld Z T826.heap b20 kc0 "exposure" "Ljava/math/BigDecimal;" (.ref G_ZERO) := (((((((((g32_4.ext E36).keep K50 (ninS ne890 nin0)).ext E587).ext E595).other W603 (Or.inl ne894)).other W610 (Or.inl ne894)).keep K619 (ninS ne895 nin0)).keep K819 (ninS ne890 nin0)).keep K826 (ninS ne890 nin0))
           have f899 : Exa Z T826.heap b20 kc0 := (((((((((g32_0.ext E36).keep K50).ext E587).ext E595).wr W603).wr W610).keep K619).keep K819).keep K826)
           obtain ⟨cq898, kq898, q898a, q898b, q898c⟩ := isOf hZ e875 f899
           refine w_virtual X875 hx (y := yn_10) (z := yn_10) hown (mvT hZ (wd_65 hw)) (mvT hZ (wd_66 hw)) (notFace_of_selects (args := #[]) (mvT hZ (wd_68 hw))) (mvT hZ (wd_68 hw)) (mvT hZ (wd_67 hw)) (by decide) (backOf (W := 1) (rm_m10_9 l Z aZ hw [] b20 G_EXPOSURE G__SwitchMap_com_example_ringfence_ringfence_gate_Measure k_G__SwitchMap_com_example_ringfence_ringfence_gate_Measure G_ZERO T826.heap n0 (Nat.le_trans Z0 le830) f896 S__SwitchMap_com_example_ringfence_ringfence_gate_Measure f833 f864 f869 f845 f897) hZ (wd_69 hw) (wd_2 hw) (by decide) (by decide)) q898a q898c (by rw [hml]; rfl) [(.ref G_EXPOSURE)] (lenOf pd_5 rfl) rfl (Nat.le_of_eq rfl) (hb hby at_234) (fun _ _ => ⟨rfl, e875, (by decide : 5 + 0 ≤ _), (by decide : 20 + 0 ≤ _)⟩) (pc' := 237) rfl ?_
           rintro _ _ ⟨T898, L898, k898, n898⟩ X898 ⟨Lc898, hQ898, l898, y898, z898⟩
           dsimp only [Pt.U, Pt.locs, Pt.cells, Pt.slots] at X898 l898 y898 z898 hQ898 ⊢
           subst l898 y898 z898
           obtain ⟨rfl, N898q, e898⟩ := hQ898
           have N900 := Fr.app N874 N898q
           show Runs _ _ _ _ (T898.setTop (mkF m 237 #[.val (.int p0), .val (.int p1), .val (.int p2), .val (.int p3), .val (.ref b20), .val (.ref b36), .val (.int ((p0 &&& (255 : Int32)).toUInt32.toUInt16.toUInt32.toInt32)), .val (.int ((p1 &&& (255 : Int32)).toUInt32.toUInt16.toUInt32.toInt32)), .val (.int ((p2 &&& (255 : Int32)).toUInt32.toUInt16.toUInt32.toInt32)), .val (.int (p3 &&& (3 : Int32))), .val (.ref b587), .val (.ref b587)] [(.ref G_ZERO), (.ref G_ZERO)]))
           refine w_acmp X898 hx (hb hby at_237) (same := true) rfl rfl (decide_eq_true rfl) (pc' := 240) (by decide) (by decide) ?_
           refine w_iconst X898 hx (hb hby at_240) (v := (1 : Int32)) rfl (pc' := 241) rfl ?_
           refine w_goto X898 hx (hb hby at_241) (pc' := 245) (by decide) (by decide) ?_
           exact w_doneH X898 hlk (v := some (.int (1 : Int32))) e898 hh hZ (own_EW hw) hS0 (Nat.le_trans (Nat.le_refl _) le830) C828 (fun h => by rw [hret] at h; cases h) (fun fs hr => retN X898 hx (t := .boolean) hret (by simp) (hb hby at_245) hr) (by decide) (by decide) (fun hsy => ⟨rfl, N900⟩)
         · refine w_ifN X819 hx (hb hby at_162) (feq hc823).1 (pc' := 165) rfl ?_
           refine w_aload X819 hx (hb hby at_165) rfl rfl (pc' := 167) rfl ?_
           have f901 : Old Z n0 T819.heap := ((f624.keep K619 (allS ge588 all0)).keep K819 (allS ge37 all0))
           have le902 : h0.size ≤ T819.heap.size := (Nat.le_trans le818 K819.1)
           obtain ⟨cq903, kq903, q903a, q903b, q903c⟩ := isOf hZ rfl g819_0
           refine w_virtual X819 hx (y := yn_8) (z := yn_8) hown (mvT hZ (wd_52 hw)) (mvT hZ (wd_53 hw)) (notFace_of_selects (args := #[]) (mvT hZ (wd_55 hw))) (mvT hZ (wd_55 hw)) (mvT hZ (wd_54 hw)) (by decide) (backOf (W := 0) (rm_m8_12 l Z aZ hw [] b36 b587 G_ZERO T819.heap n0 (Nat.le_trans Z0 le902) g819_0 g819_1 ge37 S_ZERO f901 g819_2 g819_3 g819_4 g819_5 g819_6) hZ (wd_56 hw) (wd_2 hw) (by decide) (by decide)) q903a q903c (by rw [hml]; rfl) [] (lenOf pd_2 rfl) rfl (Nat.le_of_eq rfl) (hb hby at_167) (fun _ _ => ⟨rfl, rfl, (by decide : 5 + 0 ≤ _), (by decide : 20 + 0 ≤ _)⟩) (pc' := 170) rfl ?_
           rintro _ _ ⟨T903, L903, k903, n903⟩ X903 ⟨Lc903, hQ903, l903, y903, z903⟩
           dsimp only [Pt.U, Pt.locs, Pt.cells, Pt.slots] at X903 l903 y903 z903 hQ903 ⊢
           subst l903 y903 z903
           obtain ⟨rfl, N903q, K903, g903_0, g903_1, g903_2, g903_3, g903_4, g903_5, g903_6⟩ := hQ903
           have N904 := Fr.app N820 N903q
           have C905 : CHr Z EL s.vm h0 s.vm T903.heap := C821.trans (CHr.keep K903 (sfS (Safe.exa hZ.alike g819_0 (by decide) (by decide)) sf0) C821.1)
           have K906 : Keep h0 T903.heap [] := K822.trans K903 (allS (Or.inr sz39) (all0 (P := fun x => x ∈ [] ∨ h0.size ≤ x)))
           show Runs _ _ _ _ (T903.setTop (mkF m 170 #[.val (.int p0), .val (.int p1), .val (.int p2), .val (.int p3), .val (.ref b20), .val (.ref b36), .val (.int ((p0 &&& (255 : Int32)).toUInt32.toUInt16.toUInt32.toInt32)), .val (.int ((p1 &&& (255 : Int32)).toUInt32.toUInt16.toUInt32.toInt32)), .val (.int ((p2 &&& (255 : Int32)).toUInt32.toUInt16.toUInt32.toInt32)), .val (.int (p3 &&& (3 : Int32))), .val (.ref b587), .val (.ref b587)] []))
           refine w_aload X903 hx (hb hby at_170) rfl rfl (pc' := 172) rfl ?_
           have f907 : Old Z n0 T903.heap := (f901.keep K903 (allS ge37 all0))
           have le908 : h0.size ≤ T903.heap.size := (Nat.le_trans le902 K903.1)
           obtain ⟨cq909, kq909, q909a, q909b, q909c⟩ := isOf hZ rfl g903_0
           refine w_virtual X903 hx (y := yn_8) (z := yn_8) hown (mvT hZ (wd_52 hw)) (mvT hZ (wd_53 hw)) (notFace_of_selects (args := #[]) (mvT hZ (wd_55 hw))) (mvT hZ (wd_55 hw)) (mvT hZ (wd_54 hw)) (by decide) (backOf (W := 0) (rm_m8_3 l Z aZ hw [] b36 G_ZERO T903.heap n0 (Nat.le_trans Z0 le908) g903_0 g903_1 ge37 S_ZERO f907 g903_2 g903_3 g903_4 g903_5 g903_6) hZ (wd_56 hw) (wd_2 hw) (by decide) (by decide)) q909a q909c (by rw [hml]; rfl) [] (lenOf pd_2 rfl) rfl (Nat.le_of_eq rfl) (hb hby at_172) (fun _ _ => ⟨rfl, rfl, (by decide : 5 + 0 ≤ _), (by decide : 20 + 0 ≤ _)⟩) (pc' := 175) rfl ?_
           rintro _ _ ⟨T909, L909, k909, n909⟩ X909 ⟨Lc909, hQ909, l909, y909, z909⟩
           dsimp only [Pt.U, Pt.locs, Pt.cells, Pt.slots] at X909 l909 y909 z909 hQ909 ⊢
           subst l909 y909 z909
           obtain ⟨rfl, N909q, K909, g909_0, g909_1, g909_2, g909_3, g909_4, g909_5, g909_6⟩ := hQ909
           have N910 := Fr.app N904 N909q
           have C911 : CHr Z EL s.vm h0 s.vm T909.heap := C905.trans (CHr.keep K909 (sfS (Safe.exa hZ.alike g903_0 (by decide) (by decide)) sf0) C905.1)
           have K912 : Keep h0 T909.heap [] := K906.trans K909 (allS (Or.inr sz39) (all0 (P := fun x => x ∈ [] ∨ h0.size ≤ x)))
           show Runs _ _ _ _ (T909.setTop (mkF m 175 #[.val (.int p0), .val (.int p1), .val (.int p2), .val (.int p3), .val (.ref b20), .val (.ref b36), .val (.int ((p0 &&& (255 : Int32)).toUInt32.toUInt16.toUInt32.toInt32)), .val (.int ((p1 &&& (255 : Int32)).toUInt32.toUInt16.toUInt32.toInt32)), .val (.int ((p2 &&& (255 : Int32)).toUInt32.toUInt16.toUInt32.toInt32)), .val (.int (p3 &&& (3 : Int32))), .val (.ref b587), .val (.ref b587)] []))
           refine w_aload X909 hx (hb hby at_175) rfl rfl (pc' := 177) rfl ?_
           have le913 : h0.size ≤ T909.heap.size := (Nat.le_trans le908 K909.1)
           obtain ⟨cq914, kq914, q914a, q914b, q914c⟩ := isOf hZ rfl g909_0
           refine w_virtual X909 hx (y := yn_9) (z := yn_9) hown (mvT hZ (wd_57 hw)) (mvT hZ (wd_58 hw)) (notFace_of_selects (args := #[]) (mvT hZ (wd_60 hw))) (mvT hZ (wd_60 hw)) (mvT hZ (wd_59 hw)) (by decide) (backOf (W := 0) (rm_m9_4 l Z aZ hw [] b36 T909.heap n0 (Nat.le_trans Z0 le913) g909_1) hZ (wd_61 hw) (wd_2 hw) (by decide) (by decide)) q914a q914c (by rw [hml]; rfl) [] (lenOf pd_3 rfl) rfl (Nat.le_of_eq rfl) (hb hby at_177) (fun _ _ => ⟨rfl, rfl, (by decide : 5 + 0 ≤ _), (by decide : 20 + 0 ≤ _)⟩) (pc' := 180) rfl ?_
           rintro _ _ ⟨T914, L914, k914, n914⟩ X914 ⟨Lc914, hQ914, l914, y914, z914⟩
           dsimp only [Pt.U, Pt.locs, Pt.cells, Pt.slots] at X914 l914 y914 z914 hQ914 ⊢
           subst l914 y914 z914
           obtain ⟨rfl, N914q, e914⟩ := hQ914
           have N915 := Fr.app N910 N914q
           show Runs _ _ _ _ (T914.setTop (mkF m 180 #[.val (.int p0), .val (.int p1), .val (.int p2), .val (.int p3), .val (.ref b20), .val (.ref b36), .val (.int ((p0 &&& (255 : Int32)).toUInt32.toUInt16.toUInt32.toInt32)), .val (.int ((p1 &&& (255 : Int32)).toUInt32.toUInt16.toUInt32.toInt32)), .val (.int ((p2 &&& (255 : Int32)).toUInt32.toUInt16.toUInt32.toInt32)), .val (.int (p3 &&& (3 : Int32))), .val (.ref b587), .val (.ref b587)] [.null]))
           refine w_ifnonnullN X914 hx (hb hby at_180) (pc' := 183) rfl ?_
           refine w_aload X914 hx (hb hby at_183) rfl rfl (pc' := 185) rfl ?_
           have f916 : Old Z n0 T909.heap := (f907.keep K909 (allS ge37 all0))
           refine w_getS X914 hx "" hZ hown (Or.inl (wd_62 hw)) Via.refl e914 (S_DOWNSIDE.ext f916.2) (hb hby at_185) (pc' := 188) rfl ?_
           intro T917 X917 e917
           have f918 : Exa Z T909.heap G_DOWNSIDE kc4 := ((((((((((((E_G_DOWNSIDE.ext E20).keep K32).ext E36).keep K50).ext E587).ext E595).wr W603).wr W610).keep K619).keep K819).keep K903).keep K909)
           have ne919 : G_DOWNSIDE ≠ b20 := (Nat.ne_of_lt (Nat.lt_of_lt_of_le E_G_DOWNSIDE.lt (Nat.le_trans (Nat.le_refl _) (Nat.le_of_eq g20.symm))))
           have ne920 : G_DOWNSIDE ≠ b36 := (Nat.ne_of_lt (Nat.lt_of_lt_of_le E_G_DOWNSIDE.lt (Nat.le_trans le38 (Nat.le_of_eq g36.symm))))
           have ne921 : G_DOWNSIDE ≠ b595 := (Nat.ne_of_lt (Nat.lt_of_lt_of_le E_G_DOWNSIDE.lt (Nat.le_trans le597 (Nat.le_of_eq g595.symm))))
           have ne922 : G_DOWNSIDE ≠ b587 := (Nat.ne_of_lt (Nat.lt_of_lt_of_le E_G_DOWNSIDE.lt (Nat.le_trans le589 (Nat.le_of_eq g587.symm))))
           have f923 : Fld Z T909.heap G_DOWNSIDE kc3 "ordinal" "I" (.int (1 : Int32)) := ((((((((((((F_ordinal_G_DOWNSIDE.ext E20).keep K32 (ninS ne919 nin0)).ext E36).keep K50 (ninS ne920 nin0)).ext E587).ext E595).other W603 (Or.inl ne921)).other W610 (Or.inl ne921)).keep K619 (ninS ne922 nin0)).keep K819 (ninS ne920 nin0)).keep K903 (ninS ne920 nin0)).keep K909 (ninS ne920 nin0))
           have ne924 : G__SwitchMap_com_example_ringfence_ringfence_gate_Measure ≠ b20 := (Nat.ne_of_lt (Nat.lt_of_lt_of_le V_G__SwitchMap_com_example_ringfence_ringfence_gate_Measure.lt (Nat.le_trans (Nat.le_refl _) (Nat.le_of_eq g20.symm))))
           have ne925 : G__SwitchMap_com_example_ringfence_ringfence_gate_Measure ≠ b36 := (Nat.ne_of_lt (Nat.lt_of_lt_of_le V_G__SwitchMap_com_example_ringfence_ringfence_gate_Measure.lt (Nat.le_trans le38 (Nat.le_of_eq g36.symm))))
           have ne926 : G__SwitchMap_com_example_ringfence_ringfence_gate_Measure ≠ b595 := (Nat.ne_of_lt (Nat.lt_of_lt_of_le V_G__SwitchMap_com_example_ringfence_ringfence_gate_Measure.lt (Nat.le_trans le597 (Nat.le_of_eq g595.symm))))
           have ne927 : G__SwitchMap_com_example_ringfence_ringfence_gate_Measure ≠ b587 := (Nat.ne_of_lt (Nat.lt_of_lt_of_le V_G__SwitchMap_com_example_ringfence_ringfence_gate_Measure.lt (Nat.le_trans le589 (Nat.le_of_eq g587.symm))))
           have f928 : Arv Z T909.heap G__SwitchMap_com_example_ringfence_ringfence_gate_Measure k_G__SwitchMap_com_example_ringfence_ringfence_gate_Measure .int (5 : Int32) [(.int (1 : Int32)), (.int (2 : Int32)), (.int (3 : Int32)), (.int (4 : Int32)), (.int (5 : Int32))] (.int (0 : Int32)) := ((((((((((((V_G__SwitchMap_com_example_ringfence_ringfence_gate_Measure.ext E20).keep K32 (ninS ne924 nin0)).ext E36).keep K50 (ninS ne925 nin0)).ext E587).ext E595).other W603 ne926).other W610 ne926).keep K619 (ninS ne927 nin0)).keep K819 (ninS ne925 nin0)).keep K903 (ninS ne925 nin0)).keep K909 (ninS ne925 nin0))
           obtain ⟨cq929, kq929, q929a, q929b, q929c⟩ := isOf hZ e917 g909_0
           refine w_virtual X917 hx (y := yn_10) (z := yn_10) hown (mvT hZ (wd_65 hw)) (mvT hZ (wd_66 hw)) (notFace_of_selects (args := #[]) (mvT hZ (wd_68 hw))) (mvT hZ (wd_68 hw)) (mvT hZ (wd_67 hw)) (by decide) (backOf (W := 0) (rm_m10_5 l Z aZ hw [] b36 G_DOWNSIDE G__SwitchMap_com_example_ringfence_ringfence_gate_Measure k_G__SwitchMap_com_example_ringfence_ringfence_gate_Measure G_ZERO T909.heap n0 (Nat.le_trans Z0 le913) g909_1 S__SwitchMap_com_example_ringfence_ringfence_gate_Measure f916 f918 f923 f928 g909_3) hZ (wd_69 hw) (wd_2 hw) (by decide) (by decide)) q929a q929c (by rw [hml]; rfl) [(.ref G_DOWNSIDE)] (lenOf pd_5 rfl) rfl (Nat.le_of_eq rfl) (hb hby at_188) (fun _ _ => ⟨rfl, e917, (by decide : 5 + 0 ≤ _), (by decide : 20 + 0 ≤ _)⟩) (pc' := 191) rfl ?_
           rintro _ _ ⟨T929, L929, k929, n929⟩ X929 ⟨Lc929, hQ929, l929, y929, z929⟩
           dsimp only [Pt.U, Pt.locs, Pt.cells, Pt.slots] at X929 l929 y929 z929 hQ929 ⊢
           subst l929 y929 z929
           obtain ⟨rfl, N929q, e929⟩ := hQ929
           have N930 := Fr.app N915 N929q
           show Runs _ _ _ _ (T929.setTop (mkF m 191 #[.val (.int p0), .val (.int p1), .val (.int p2), .val (.int p3), .val (.ref b20), .val (.ref b36), .val (.int ((p0 &&& (255 : Int32)).toUInt32.toUInt16.toUInt32.toInt32)), .val (.int ((p1 &&& (255 : Int32)).toUInt32.toUInt16.toUInt32.toInt32)), .val (.int ((p2 &&& (255 : Int32)).toUInt32.toUInt16.toUInt32.toInt32)), .val (.int (p3 &&& (3 : Int32))), .val (.ref b587), .val (.ref b587)] [(.ref G_ZERO)]))
           refine w_aload X929 hx (hb hby at_191) rfl rfl (pc' := 193) rfl ?_
           refine w_getS X929 hx "" hZ hown (Or.inl (wd_82 hw)) Via.refl e929 (S_UPSIDE.ext f916.2) (hb hby at_193) (pc' := 196) rfl ?_
           intro T931 X931 e931
           have f933 : Exa Z T909.heap G_UPSIDE kc4 := ((((((((((((E_G_UPSIDE.ext E20).keep K32).ext E36).keep K50).ext E587).ext E595).wr W603).wr W610).keep K619).keep K819).keep K903).keep K909)
           have ne934 : G_UPSIDE ≠ b20 := (Nat.ne_of_lt (Nat.lt_of_lt_of_le E_G_UPSIDE.lt (Nat.le_trans (Nat.le_refl _) (Nat.le_of_eq g20.symm))))
           have ne935 : G_UPSIDE ≠ b36 := (Nat.ne_of_lt (Nat.lt_of_lt_of_le E_G_UPSIDE.lt (Nat.le_trans le38 (Nat.le_of_eq g36.symm))))
           have ne936 : G_UPSIDE ≠ b595 := (Nat.ne_of_lt (Nat.lt_of_lt_of_le E_G_UPSIDE.lt (Nat.le_trans le597 (Nat.le_of_eq g595.symm))))
           have ne937 : G_UPSIDE ≠ b587 := (Nat.ne_of_lt (Nat.lt_of_lt_of_le E_G_UPSIDE.lt (Nat.le_trans le589 (Nat.le_of_eq g587.symm))))
           have f938 : Fld Z T909.heap G_UPSIDE kc3 "ordinal" "I" (.int (2 : Int32)) := ((((((((((((F_ordinal_G_UPSIDE.ext E20).keep K32 (ninS ne934 nin0)).ext E36).keep K50 (ninS ne935 nin0)).ext E587).ext E595).other W603 (Or.inl ne936)).other W610 (Or.inl ne936)).keep K619 (ninS ne937 nin0)).keep K819 (ninS ne935 nin0)).keep K903 (ninS ne935 nin0)).keep K909 (ninS ne935 nin0))
           obtain ⟨cq939, kq939, q939a, q939b, q939c⟩ := isOf hZ e931 g909_0
           refine w_virtual X931 hx (y := yn_10) (z := yn_10) hown (mvT hZ (wd_65 hw)) (mvT hZ (wd_66 hw)) (notFace_of_selects (args := #[]) (mvT hZ (wd_68 hw))) (mvT hZ (wd_68 hw)) (mvT hZ (wd_67 hw)) (by decide) (backOf (W := 1) (rm_m10_7 l Z aZ hw [] b36 G_UPSIDE G__SwitchMap_com_example_ringfence_ringfence_gate_Measure k_G__SwitchMap_com_example_ringfence_ringfence_gate_Measure G_ZERO T909.heap n0 (Nat.le_trans Z0 le913) g909_1 S__SwitchMap_com_example_ringfence_ringfence_gate_Measure f916 f933 f938 f928 g909_4) hZ (wd_69 hw) (wd_2 hw) (by decide) (by decide)) q939a q939c (by rw [hml]; rfl) [(.ref G_UPSIDE)] (lenOf pd_5 rfl) rfl (Nat.le_of_eq rfl) (hb hby at_196) (fun _ _ => ⟨rfl, e931, (by decide : 5 + 0 ≤ _), (by decide : 20 + 0 ≤ _)⟩) (pc' := 199) rfl ?_
           rintro _ _ ⟨T939, L939, k939, n939⟩ X939 ⟨Lc939, hQ939, l939, y939, z939⟩
           dsimp only [Pt.U, Pt.locs, Pt.cells, Pt.slots] at X939 l939 y939 z939 hQ939 ⊢
           subst l939 y939 z939
           obtain ⟨rfl, N939q, e939⟩ := hQ939
           have N940 := Fr.app N930 N939q
           show Runs _ _ _ _ (T939.setTop (mkF m 199 #[.val (.int p0), .val (.int p1), .val (.int p2), .val (.int p3), .val (.ref b20), .val (.ref b36), .val (.int ((p0 &&& (255 : Int32)).toUInt32.toUInt16.toUInt32.toInt32)), .val (.int ((p1 &&& (255 : Int32)).toUInt32.toUInt16.toUInt32.toInt32)), .val (.int ((p2 &&& (255 : Int32)).toUInt32.toUInt16.toUInt32.toInt32)), .val (.int (p3 &&& (3 : Int32))), .val (.ref b587), .val (.ref b587)] [(.ref G_ZERO), (.ref G_ZERO)]))
           refine w_acmp X939 hx (hb hby at_199) (same := true) rfl rfl (decide_eq_true rfl) (pc' := 202) (by decide) (by decide) ?_
           refine w_aload X939 hx (hb hby at_202) rfl rfl (pc' := 204) rfl ?_
           refine w_getS X939 hx "" hZ hown (Or.inl (wd_82 hw)) Via.refl e939 (S_UPSIDE.ext f916.2) (hb hby at_204) (pc' := 207) rfl ?_
           intro T941 X941 e941
           obtain ⟨cq942, kq942, q942a, q942b, q942c⟩ := isOf hZ e941 g909_0
           refine w_virtual X941 hx (y := yn_10) (z := yn_10) hown (mvT hZ (wd_65 hw)) (mvT hZ (wd_66 hw)) (notFace_of_selects (args := #[]) (mvT hZ (wd_68 hw))) (mvT hZ (wd_68 hw)) (mvT hZ (wd_67 hw)) (by decide) (backOf (W := 0) (rm_m10_7 l Z aZ hw [] b36 G_UPSIDE G__SwitchMap_com_example_ringfence_ringfence_gate_Measure k_G__SwitchMap_com_example_ringfence_ringfence_gate_Measure G_ZERO T909.heap n0 (Nat.le_trans Z0 le913) g909_1 S__SwitchMap_com_example_ringfence_ringfence_gate_Measure f916 f933 f938 f928 g909_4) hZ (wd_69 hw) (wd_2 hw) (by decide) (by decide)) q942a q942c (by rw [hml]; rfl) [(.ref G_UPSIDE)] (lenOf pd_5 rfl) rfl (Nat.le_of_eq rfl) (hb hby at_207) (fun _ _ => ⟨rfl, e941, (by decide : 5 + 0 ≤ _), (by decide : 20 + 0 ≤ _)⟩) (pc' := 210) rfl ?_
           rintro _ _ ⟨T942, L942, k942, n942⟩ X942 ⟨Lc942, hQ942, l942, y942, z942⟩
           dsimp only [Pt.U, Pt.locs, Pt.cells, Pt.slots] at X942 l942 y942 z942 hQ942 ⊢
           subst l942 y942 z942
           obtain ⟨rfl, N942q, e942⟩ := hQ942
           have N943 := Fr.app N940 N942q
           show Runs _ _ _ _ (T942.setTop (mkF m 210 #[.val (.int p0), .val (.int p1), .val (.int p2), .val (.int p3), .val (.ref b20), .val (.ref b36), .val (.int ((p0 &&& (255 : Int32)).toUInt32.toUInt16.toUInt32.toInt32)), .val (.int ((p1 &&& (255 : Int32)).toUInt32.toUInt16.toUInt32.toInt32)), .val (.int ((p2 &&& (255 : Int32)).toUInt32.toUInt16.toUInt32.toInt32)), .val (.int (p3 &&& (3 : Int32))), .val (.ref b587), .val (.ref b587)] [(.ref G_ZERO)]))
           refine w_aload X942 hx (hb hby at_210) rfl rfl (pc' := 212) rfl ?_
           refine w_getS X942 hx "" hZ hown (Or.inl (wd_84 hw)) Via.refl e942 (S_EXPOSURE.ext f916.2) (hb hby at_212) (pc' := 215) rfl ?_
           intro T944 X944 e944
           have f947 : Exa Z T909.heap G_EXPOSURE kc4 := ((((((((((((E_G_EXPOSURE.ext E20).keep K32).ext E36).keep K50).ext E587).ext E595).wr W603).wr W610).keep K619).keep K819).keep K903).keep K909)
           have ne948 : G_EXPOSURE ≠ b20 := (Nat.ne_of_lt (Nat.lt_of_lt_of_le E_G_EXPOSURE.lt (Nat.le_trans (Nat.le_refl _) (Nat.le_of_eq g20.symm))))
           have ne949 : G_EXPOSURE ≠ b36 := (Nat.ne_of_lt (Nat.lt_of_lt_of_le E_G_EXPOSURE.lt (Nat.le_trans le38 (Nat.le_of_eq g36.symm))))
           have ne950 : G_EXPOSURE ≠ b595 := (Nat.ne_of_lt (Nat.lt_of_lt_of_le E_G_EXPOSURE.lt (Nat.le_trans le597 (Nat.le_of_eq g595.symm))))
           have ne951 : G_EXPOSURE ≠ b587 := (Nat.ne_of_lt (Nat.lt_of_lt_of_le E_G_EXPOSURE.lt (Nat.le_trans le589 (Nat.le_of_eq g587.symm))))
           have f952 : Fld Z T909.heap G_EXPOSURE kc3 "ordinal" "I" (.int (3 : Int32)) := ((((((((((((F_ordinal_G_EXPOSURE.ext E20).keep K32 (ninS ne948 nin0)).ext E36).keep K50 (ninS ne949 nin0)).ext E587).ext E595).other W603 (Or.inl ne950)).other W610 (Or.inl ne950)).keep K619 (ninS ne951 nin0)).keep K819 (ninS ne949 nin0)).keep K903 (ninS ne949 nin0)).keep K909 (ninS ne949 nin0))
           obtain ⟨cq953, kq953, q953a, q953b, q953c⟩ := isOf hZ e944 g909_0
           refine w_virtual X944 hx (y := yn_10) (z := yn_10) hown (mvT hZ (wd_65 hw)) (mvT hZ (wd_66 hw)) (notFace_of_selects (args := #[]) (mvT hZ (wd_68 hw))) (mvT hZ (wd_68 hw)) (mvT hZ (wd_67 hw)) (by decide) (backOf (W := 1) (rm_m10_9 l Z aZ hw [] b36 G_EXPOSURE G__SwitchMap_com_example_ringfence_ringfence_gate_Measure k_G__SwitchMap_com_example_ringfence_ringfence_gate_Measure G_ZERO T909.heap n0 (Nat.le_trans Z0 le913) g909_1 S__SwitchMap_com_example_ringfence_ringfence_gate_Measure f916 f947 f952 f928 g909_5) hZ (wd_69 hw) (wd_2 hw) (by decide) (by decide)) q953a q953c (by rw [hml]; rfl) [(.ref G_EXPOSURE)] (lenOf pd_5 rfl) rfl (Nat.le_of_eq rfl) (hb hby at_215) (fun _ _ => ⟨rfl, e944, (by decide : 5 + 0 ≤ _), (by decide : 20 + 0 ≤ _)⟩) (pc' := 218) rfl ?_
           rintro _ _ ⟨T953, L953, k953, n953⟩ X953 ⟨Lc953, hQ953, l953, y953, z953⟩
           dsimp only [Pt.U, Pt.locs, Pt.cells, Pt.slots] at X953 l953 y953 z953 hQ953 ⊢
           subst l953 y953 z953
           obtain ⟨rfl, N953q, e953⟩ := hQ953
           have N954 := Fr.app N943 N953q
           show Runs _ _ _ _ (T953.setTop (mkF m 218 #[.val (.int p0), .val (.int p1), .val (.int p2), .val (.int p3), .val (.ref b20), .val (.ref b36), .val (.int ((p0 &&& (255 : Int32)).toUInt32.toUInt16.toUInt32.toInt32)), .val (.int ((p1 &&& (255 : Int32)).toUInt32.toUInt16.toUInt32.toInt32)), .val (.int ((p2 &&& (255 : Int32)).toUInt32.toUInt16.toUInt32.toInt32)), .val (.int (p3 &&& (3 : Int32))), .val (.ref b587), .val (.ref b587)] [(.ref G_ZERO), (.ref G_ZERO)]))
           refine w_acmp X953 hx (hb hby at_218) (same := true) rfl rfl (decide_eq_true rfl) (pc' := 221) (by decide) (by decide) ?_
           refine w_aload X953 hx (hb hby at_221) rfl rfl (pc' := 223) rfl ?_
           refine w_getS X953 hx "" hZ hown (Or.inl (wd_84 hw)) Via.refl e953 (S_EXPOSURE.ext f916.2) (hb hby at_223) (pc' := 226) rfl ?_
           intro T955 X955 e955
           obtain ⟨cq956, kq956, q956a, q956b, q956c⟩ := isOf hZ e955 g909_0
           refine w_virtual X955 hx (y := yn_10) (z := yn_10) hown (mvT hZ (wd_65 hw)) (mvT hZ (wd_66 hw)) (notFace_of_selects (args := #[]) (mvT hZ (wd_68 hw))) (mvT hZ (wd_68 hw)) (mvT hZ (wd_67 hw)) (by decide) (backOf (W := 0) (rm_m10_9 l Z aZ hw [] b36 G_EXPOSURE G__SwitchMap_com_example_ringfence_ringfence_gate_Measure k_G__SwitchMap_com_example_ringfence_ringfence_gate_Measure G_ZERO T909.heap n0 (Nat.le_trans Z0 le913) g909_1 S__SwitchMap_com_example_ringfence_ringfence_gate_Measure f916 f947 f952 f928 g909_5) hZ (wd_69 hw) (wd_2 hw) (by decide) (by decide)) q956a q956c (by rw [hml]; rfl) [(.ref G_EXPOSURE)] (lenOf pd_5 rfl) rfl (Nat.le_of_eq rfl) (hb hby at_226) (fun _ _ => ⟨rfl, e955, (by decide : 5 + 0 ≤ _), (by decide : 20 + 0 ≤ _)⟩) (pc' := 229) rfl ?_
           rintro _ _ ⟨T956, L956, k956, n956⟩ X956 ⟨Lc956, hQ956, l956, y956, z956⟩
           dsimp only [Pt.U, Pt.locs, Pt.cells, Pt.slots] at X956 l956 y956 z956 hQ956 ⊢
           subst l956 y956 z956
           obtain ⟨rfl, N956q, e956⟩ := hQ956
           have N957 := Fr.app N954 N956q
           show Runs _ _ _ _ (T956.setTop (mkF m 229 #[.val (.int p0), .val (.int p1), .val (.int p2), .val (.int p3), .val (.ref b20), .val (.ref b36), .val (.int ((p0 &&& (255 : Int32)).toUInt32.toUInt16.toUInt32.toInt32)), .val (.int ((p1 &&& (255 : Int32)).toUInt32.toUInt16.toUInt32.toInt32)), .val (.int ((p2 &&& (255 : Int32)).toUInt32.toUInt16.toUInt32.toInt32)), .val (.int (p3 &&& (3 : Int32))), .val (.ref b587), .val (.ref b587)] [(.ref G_ZERO)]))
           refine w_aload X956 hx (hb hby at_229) rfl rfl (pc' := 231) rfl ?_
           refine w_getS X956 hx "" hZ hown (Or.inl (wd_84 hw)) Via.refl e956 (S_EXPOSURE.ext f916.2) (hb hby at_231) (pc' := 234) rfl ?_
           intro T958 X958 e958
           have ne973 : b20 ≠ b36 := (Nat.ne_of_lt (Nat.lt_of_lt_of_le A20.lt (Nat.le_trans K32.1 (Nat.le_of_eq g36.symm))))
           have le974 : h20.size ≤ h36.size := (Nat.le_trans K32.1 E36.1)
           have le975 : h20.size ≤ T50.heap.size := (Nat.le_trans le974 K50.1)
           have le976 : h20.size ≤ h587.size := (Nat.le_trans le975 E587.1)
           have ne977 : b20 ≠ b595 := (Nat.ne_of_lt (Nat.lt_of_lt_of_le A20.lt (Nat.le_trans le976 (Nat.le_of_eq g595.symm))))
           have ne978 : b20 ≠ b587 := (Nat.ne_of_lt (Nat.lt_of_lt_of_le A20.lt (Nat.le_trans le975 (Nat.le_of_eq g587.symm))))
           have f979 : Fld Z T909.heap b20 kc0 "unrated" "Ljava/lang/String;" .null := ((((((((((g32_6.ext E36).keep K50 (ninS ne973 nin0)).ext E587).ext E595).other W603 (Or.inl ne977)).other W610 (Or.inl ne977)).keep K619 (ninS ne978 nin0)).keep K819 (ninS ne973 nin0)).keep K903 (ninS ne973 nin0)).keep K909 (ninS ne973 nin0))
           have f980 : Fld Z T909.heap b20 kc0 "exposure" "Ljava/math/BigDecimal;" (.ref G_ZERO) := ((((((((((g32_4.ext E36).keep K50 (ninS ne973 nin0)).ext E587).ext E595).other W603 (Or.inl ne977)).other W610 (Or.inl ne977)).keep K619 (ninS ne978 nin0)).keep K819 (ninS ne973 nin0)).keep K903 (ninS ne973 nin0)).keep K909 (ninS ne973 nin0))
           have f982 : Exa Z T909.heap b20 kc0 := ((((((((((g32_0.ext E36).keep K50).ext E587).ext E595).wr W603).wr W610).keep K619).keep K819).keep K903).keep K909)
           obtain ⟨cq981, kq981, q981a, q981b, q981c⟩ := isOf hZ e958 f982
           refine w_virtual X958 hx (y := yn_10) (z := yn_10) hown (mvT hZ (wd_65 hw)) (mvT hZ (wd_66 hw)) (notFace_of_selects (args := #[]) (mvT hZ (wd_68 hw))) (mvT hZ (wd_68 hw)) (mvT hZ (wd_67 hw)) (by decide) (backOf (W := 1) (rm_m10_9 l Z aZ hw [] b20 G_EXPOSURE G__SwitchMap_com_example_ringfence_ringfence_gate_Measure k_G__SwitchMap_com_example_ringfence_ringfence_gate_Measure G_ZERO T909.heap n0 (Nat.le_trans Z0 le913) f979 S__SwitchMap_com_example_ringfence_ringfence_gate_Measure f916 f947 f952 f928 f980) hZ (wd_69 hw) (wd_2 hw) (by decide) (by decide)) q981a q981c (by rw [hml]; rfl) [(.ref G_EXPOSURE)] (lenOf pd_5 rfl) rfl (Nat.le_of_eq rfl) (hb hby at_234) (fun _ _ => ⟨rfl, e958, (by decide : 5 + 0 ≤ _), (by decide : 20 + 0 ≤ _)⟩) (pc' := 237) rfl ?_
           rintro _ _ ⟨T981, L981, k981, n981⟩ X981 ⟨Lc981, hQ981, l981, y981, z981⟩
           dsimp only [Pt.U, Pt.locs, Pt.cells, Pt.slots] at X981 l981 y981 z981 hQ981 ⊢
           subst l981 y981 z981
           obtain ⟨rfl, N981q, e981⟩ := hQ981
           have N983 := Fr.app N957 N981q
           show Runs _ _ _ _ (T981.setTop (mkF m 237 #[.val (.int p0), .val (.int p1), .val (.int p2), .val (.int p3), .val (.ref b20), .val (.ref b36), .val (.int ((p0 &&& (255 : Int32)).toUInt32.toUInt16.toUInt32.toInt32)), .val (.int ((p1 &&& (255 : Int32)).toUInt32.toUInt16.toUInt32.toInt32)), .val (.int ((p2 &&& (255 : Int32)).toUInt32.toUInt16.toUInt32.toInt32)), .val (.int (p3 &&& (3 : Int32))), .val (.ref b587), .val (.ref b587)] [(.ref G_ZERO), (.ref G_ZERO)]))
           refine w_acmp X981 hx (hb hby at_237) (same := true) rfl rfl (decide_eq_true rfl) (pc' := 240) (by decide) (by decide) ?_
           refine w_iconst X981 hx (hb hby at_240) (v := (1 : Int32)) rfl (pc' := 241) rfl ?_
           refine w_goto X981 hx (hb hby at_241) (pc' := 245) (by decide) (by decide) ?_
           exact w_doneH X981 hlk (v := some (.int (1 : Int32))) e981 hh hZ (own_EW hw) hS0 (Nat.le_trans (Nat.le_refl _) le913) C911 (fun h => by rw [hret] at h; cases h) (fun fs hr => retN X981 hx (t := .boolean) hret (by simp) (hb hby at_245) hr) (by decide) (by decide) (fun hsy => ⟨rfl, N983⟩)
     · refine w_icY X50 hx (hb hby at_80) (feq hc586).2 (pc' := 108) (by decide) (by decide) ?_
       refine w_new X50 hx hZ hown (wd_86 hw) (wd_31 hw) (wd_23 hw) rfl (hb hby at_108) (by decide) (by decide) (pc' := 111) rfl ?_
       intro T984 h984 b984 X984 e984 E984 g984 A984 D984
       have le986 : h0.size ≤ T50.heap.size := (Nat.le_trans le49 K50.1)
       have ge985 : n0 ≤ b984 := Nat.le_trans (Nat.le_trans Z0 le986) (Nat.le_of_eq g984.symm)
       have sz987 : h0.size ≤ b984 := Nat.le_trans le986 (Nat.le_of_eq g984.symm)
       have C988 : CHr Z EL s.vm h0 s.vm h984 := C52.trans (CHr.ext E984 C52.1)
       have K989 : Keep h0 h984 [] := K53.ext E984
       have f990 : Fld Z h984 b984 kc2 "value" "[B" .null := D984 (Or.inr (wd_42 hw)) (ty := (.array .byte)) (by decide)
       have f991 : Fld Z h984 b984 kc2 "coder" "B" (.int (0 : Int32)) := D984 (Or.inr (wd_44 hw)) (ty := .byte) (by decide)
       refine w_dup X984 hx (hb hby at_111) rfl (pc' := 112) rfl ?_
       refine w_iconst X984 hx (hb hby at_112) (v := (3 : Int32)) rfl (pc' := 113) rfl ?_
       refine w_newP X984 hx .char .char 3 rfl hZ (wd_87 hw) e984 (hb hby at_113) (by decide) (by decide) (by decide) (by decide) (by decide) (pc' := 115) rfl ?_
       intro T992 h992 k992 b992 X992 e992 E992 g992 A992
       have le994 : h0.size ≤ h984.size := (Nat.le_trans le986 E984.1)
       have ge993 : n0 ≤ b992 := Nat.le_trans (Nat.le_trans Z0 le994) (Nat.le_of_eq g992.symm)
       have sz995 : h0.size ≤ b992 := Nat.le_trans le994 (Nat.le_of_eq g992.symm)
       have C996 : CHr Z EL s.vm h0 s.vm h992 := C988.trans (CHr.ext E992 C988.1)
       have K997 : Keep h0 h992 [] := K989.ext E992
       have V998 : Arv Z h992 b992 k992 .char (3 : Int32) [(.int (0 : Int32)), (.int (0 : Int32)), (.int (0 : Int32))] (.int (0 : Int32)) := (Arv.new A992 (by decide)).pad (pad_rep [] (.int (0 : Int32)) 3)
       refine w_dup X992 hx (hb hby at_115) rfl (pc' := 116) rfl ?_
       refine w_iconst X992 hx (hb hby at_116) (v := (0 : Int32)) rfl (pc' := 117) rfl ?_
       refine w_iload X992 hx (hb hby at_117) rfl (pc' := 119) rfl ?_
       obtain ⟨clu999, Aru999, qu999, Su999, Nu999, Hu999, Gu999⟩ := id V998
       have hinu999 := inb_of (j := (0 : Int32)) Su999 ⟨by decide, by decide⟩
       refine w_stC X992 hx hZ e992 Aru999 hinu999 (hb hby at_119) (pc' := 120) rfl ?_
       intro T1000 h1000 X1000 e1000 W1000
       have C1001 : CHr Z EL s.vm h0 s.vm h1000 := C996.trans (CHr.wr W1000 (Safe.arv hZ.alike V998 (by decide)) C996.1)
       have V1002 : Arv Z h1000 b992 k992 .char (3 : Int32) [(.int (nar .char ((p0 &&& (255 : Int32)).toUInt32.toUInt16.toUInt32.toInt32))), (.int (0 : Int32)), (.int (0 : Int32))] (.int (0 : Int32)) := Arv.set Aru999 qu999 Su999 Nu999 Hu999 Gu999 (fits_nar_char _) W1000 0 rfl (Nat.le_of_ble_eq_true rfl)
       have V1003 : Arv Z h1000 b992 k992 .char (3 : Int32) [(.int ((p0 &&& (255 : Int32)).toUInt32.toUInt16.toUInt32.toInt32)), (.int (0 : Int32)), (.int (0 : Int32))] (.int (0 : Int32)) := by rw [nar_c] at V1002; exact V1002
       have K1004 : Keep h0 h1000 [] := K997.wr W1000 (Or.inr sz995)
       have N1005 := Fr.snoc X1000 N51 ge993
       refine w_dup X1000 hx (hb hby at_120) rfl (pc' := 121) rfl ?_
       refine w_iconst X1000 hx (hb hby at_121) (v := (1 : Int32)) rfl (pc' := 122) rfl ?_
       refine w_iload X1000 hx (hb hby at_122) rfl (pc' := 124) rfl ?_
       obtain ⟨clu1006, Aru1006, qu1006, Su1006, Nu1006, Hu1006, Gu1006⟩ := id V1003
       have hinu1006 := inb_of (j := (1 : Int32)) Su1006 ⟨by decide, by decide⟩
       refine w_stC X1000 hx hZ e1000 Aru1006 hinu1006 (hb hby at_124) (pc' := 125) rfl ?_
       intro T1007 h1007 X1007 e1007 W1007
       have C1008 : CHr Z EL s.vm h0 s.vm h1007 := C1001.trans (CHr.wr W1007 (Safe.arv hZ.alike V1003 (by decide)) C1001.1)
       have V1009 : Arv Z h1007 b992 k992 .char (3 : Int32) [(.int ((p0 &&& (255 : Int32)).toUInt32.toUInt16.toUInt32.toInt32)), (.int (nar .char ((p1 &&& (255 : Int32)).toUInt32.toUInt16.toUInt32.toInt32))), (.int (0 : Int32))] (.int (0 : Int32)) := Arv.set Aru1006 qu1006 Su1006 Nu1006 Hu1006 Gu1006 (fits_nar_char _) W1007 1 rfl (Nat.le_of_ble_eq_true rfl)
       have V1010 : Arv Z h1007 b992 k992 .char (3 : Int32) [(.int ((p0 &&& (255 : Int32)).toUInt32.toUInt16.toUInt32.toInt32)), (.int ((p1 &&& (255 : Int32)).toUInt32.toUInt16.toUInt32.toInt32)), (.int (0 : Int32))] (.int (0 : Int32)) := by rw [nar_c] at V1009; exact V1009
       have K1011 : Keep h0 h1007 [] := K1004.wr W1007 (Or.inr sz995)
       have N1012 := Fr.snoc X1007 N1005 ge993
       refine w_dup X1007 hx (hb hby at_125) rfl (pc' := 126) rfl ?_
       refine w_iconst X1007 hx (hb hby at_126) (v := (2 : Int32)) rfl (pc' := 127) rfl ?_
       refine w_iload X1007 hx (hb hby at_127) rfl (pc' := 129) rfl ?_
       obtain ⟨clu1013, Aru1013, qu1013, Su1013, Nu1013, Hu1013, Gu1013⟩ := id V1010
       have hinu1013 := inb_of (j := (2 : Int32)) Su1013 ⟨by decide, by decide⟩
       refine w_stC X1007 hx hZ e1007 Aru1013 hinu1013 (hb hby at_129) (pc' := 130) rfl ?_
       intro T1014 h1014 X1014 e1014 W1014
       have C1015 : CHr Z EL s.vm h0 s.vm h1014 := C1008.trans (CHr.wr W1014 (Safe.arv hZ.alike V1010 (by decide)) C1008.1)
       have V1016 : Arv Z h1014 b992 k992 .char (3 : Int32) [(.int ((p0 &&& (255 : Int32)).toUInt32.toUInt16.toUInt32.toInt32)), (.int ((p1 &&& (255 : Int32)).toUInt32.toUInt16.toUInt32.toInt32)), (.int (nar .char ((p2 &&& (255 : Int32)).toUInt32.toUInt16.toUInt32.toInt32)))] (.int (0 : Int32)) := Arv.set Aru1013 qu1013 Su1013 Nu1013 Hu1013 Gu1013 (fits_nar_char _) W1014 2 rfl (Nat.le_of_ble_eq_true rfl)
       have V1017 : Arv Z h1014 b992 k992 .char (3 : Int32) [(.int ((p0 &&& (255 : Int32)).toUInt32.toUInt16.toUInt32.toInt32)), (.int ((p1 &&& (255 : Int32)).toUInt32.toUInt16.toUInt32.toInt32)), (.int ((p2 &&& (255 : Int32)).toUInt32.toUInt16.toUInt32.toInt32))] (.int (0 : Int32)) := by rw [nar_c] at V1016; exact V1016
       have K1018 : Keep h0 h1014 [] := K1011.wr W1014 (Or.inr sz995)
       have N1019 := Fr.snoc X1014 N1012 ge993
       have le1020 : h0.size ≤ h992.size := (Nat.le_trans le994 E992.1)
       have le1021 : h0.size ≤ h1000.size := (Nat.le_trans le1020 (Keep.of_wr W1000).1)
       have le1022 : h0.size ≤ h1007.size := (Nat.le_trans le1021 (Keep.of_wr W1007).1)
       have le1023 : h0.size ≤ h1014.size := (Nat.le_trans le1022 (Keep.of_wr W1014).1)
       have f1025 : Exa Z h1014 b984 kc2 := ((((A984.ext E992).wr W1000).wr W1007).wr W1014)
       have ne1026 : b984 ≠ b992 := (Nat.ne_of_lt (Nat.lt_of_lt_of_le A984.lt (Nat.le_trans (Nat.le_refl _) (Nat.le_of_eq g992.symm))))
       have f1027 : Fld Z h1014 b984 kc2 "value" "[B" .null := ((((f990.ext E992).other W1000 (Or.inl ne1026)).other W1007 (Or.inl ne1026)).other W1014 (Or.inl ne1026))
       have f1028 : Fld Z h1014 b984 kc2 "coder" "B" (.int (0 : Int32)) := ((((f991.ext E992).other W1000 (Or.inl ne1026)).other W1007 (Or.inl ne1026)).other W1014 (Or.inl ne1026))
       have f1029 : Old Z n0 h1014 := ((((((f48.keep K50 (allS ge37 all0)).ext E984).ext E992).wr W1000 ge993).wr W1007 ge993).wr W1014 ge993)
       refine w_special X1014 hx (y := yn_12) rfl hown (mvT hZ (wd_88 hw)) (mvT hZ (wd_89 hw)) (mvT hZ (wd_90 hw)) (by decide) (StrChars.Road.backV (W := 1) hZ (own_hws hw) (kI := 4) (wd_31 hw) (cs := ([((p0 &&& (255 : Int32)).toUInt32.toUInt16.toUInt32.toInt32), ((p1 &&& (255 : Int32)).toUInt32.toUInt16.toUInt32.toInt32), ((p2 &&& (255 : Int32)).toUInt32.toUInt16.toUInt32.toInt32)] : List Int32)) (bs := ([((p0 &&& (255 : Int32)).toUInt32.toUInt16.toUInt32.toInt32), ((p1 &&& (255 : Int32)).toUInt32.toUInt16.toUInt32.toInt32), ((p2 &&& (255 : Int32)).toUInt32.toUInt16.toUInt32.toInt32)] : List Int32).map (fun c => c.toInt8.toInt32)) (n := 3) ge985 (Nat.le_trans Z0 le1023) f1025 f1027 f1028 V1017 (S_COMPACT_STRINGS.ext f1029.2) hP_13 rfl rfl (by decide) (by decide) (List.forall_mem_cons.2 ⟨(own_and255 p0), (List.forall_mem_cons.2 ⟨(own_and255 p1), (List.forall_mem_cons.2 ⟨(own_and255 p2), (fun _ h => nomatch h)⟩)⟩)⟩) rfl (by decide) (by decide)) (by rw [hml]; rfl) [(.ref b992)] (lenOf pd_10 rfl) rfl (Nat.le_of_eq rfl) (hb hby at_130) (fun _ _ => ⟨rfl, e1014, (by decide : 4 + 1 ≤ _), (by decide : 19 + 3 ≤ _)⟩) (pc' := 133) rfl ?_
       rintro _ _ ⟨T1024, L1024, k1024, n1024⟩ X1024 ⟨Lc1024, hQ1024, l1024, y1024, z1024⟩
       dsimp only [Pt.U, Pt.locs, Pt.cells, Pt.slots] at X1024 l1024 y1024 z1024 hQ1024 ⊢
       subst l1024 y1024 z1024
       obtain ⟨rfl, N1024q, K1024, g1024_0, g1024_1, t_1024, kb_1024, g1024_2, g1024_3, g1024_4, g1024_5, g1024_6⟩ := hQ1024
       have N1030 := Fr.app N1019 N1024q
       have y1031 : Safe Z EL s.vm h1014 b984 := (Safe.wr W1014 (Safe.arv hZ.alike V1010 (by decide)) C1008.1 (Safe.wr W1007 (Safe.arv hZ.alike V1003 (by decide)) C1001.1 (Safe.wr W1000 (Safe.arv hZ.alike V998 (by decide)) C996.1 (Safe.ext E992 C988.1 (Safe.ext E984 C52.1 (Safe.new (Nat.le_of_eq g984.symm)))))))
       have C1032 : CHr Z EL s.vm h0 s.vm T1024.heap := C1015.trans (CHr.keep K1024 (sfS y1031 sf0) C1015.1)
       have K1033 : Keep h0 T1024.heap [] := K1018.trans K1024 (allS (Or.inr sz987) (all0 (P := fun x => x ∈ [] ∨ h0.size ≤ x)))
       have ge1034 : n0 ≤ t_1024 := Nat.le_trans (Nat.le_trans Z0 le1023) g1024_3
       have sz1035 : h0.size ≤ t_1024 := Nat.le_trans le1023 g1024_3
       show Runs _ _ _ _ (T1024.setTop (mkF m 133 #[.val (.int p0), .val (.int p1), .val (.int p2), .val (.int p3), .val (.ref b20), .val (.ref b36), .val (.int ((p0 &&& (255 : Int32)).toUInt32.toUInt16.toUInt32.toInt32)), .val (.int ((p1 &&& (255 : Int32)).toUInt32.toUInt16.toUInt32.toInt32)), .val (.int ((p2 &&& (255 : Int32)).toUInt32.toUInt16.toUInt32.toInt32)), .val (.int (p3 &&& (3 : Int32))), .unset, .unset] [(.ref b984)]))
       refine w_astore X1024 hx (hb hby at_133) rfl (L' := #[.val (.int p0), .val (.int p1), .val (.int p2), .val (.int p3), .val (.ref b20), .val (.ref b36), .val (.int ((p0 &&& (255 : Int32)).toUInt32.toUInt16.toUInt32.toInt32)), .val (.int ((p1 &&& (255 : Int32)).toUInt32.toUInt16.toUInt32.toInt32)), .val (.int ((p2 &&& (255 : Int32)).toUInt32.toUInt16.toUInt32.toInt32)), .val (.int (p3 &&& (3 : Int32))), .val (.ref b984), .unset]) rfl (pc' := 135) rfl ?_
       refine w_iloadN X1024 hx (hb hby at_135) rfl (pc' := 136) rfl ?_
       refine w_iconst X1024 hx (hb hby at_136) (v := (2 : Int32)) rfl (pc' := 137) rfl ?_
       refine w_ishr X1024 hx (hb hby at_137) (pc' := 138) rfl ?_
       refine w_iconst X1024 hx (hb hby at_138) (v := (1 : Int32)) rfl (pc' := 139) rfl ?_
       refine w_iand X1024 hx (hb hby at_139) (pc' := 140) rfl ?_
       by_cases hc1036 : ((p3 >>> ((2 : Int32) &&& 31)) &&& (1 : Int32)) = (0 : Int32)
       · refine w_ifY X1024 hx (hb hby at_140) (teq hc1036).1 (pc' := 148) (by decide) (by decide) ?_
         refine w_null X1024 hx (hb hby at_148) (pc' := 149) rfl ?_
         refine w_astore X1024 hx (hb hby at_149) rfl (L' := #[.val (.int p0), .val (.int p1), .val (.int p2), .val (.int p3), .val (.ref b20), .val (.ref b36), .val (.int ((p0 &&& (255 : Int32)).toUInt32.toUInt16.toUInt32.toInt32)), .val (.int ((p1 &&& (255 : Int32)).toUInt32.toUInt16.toUInt32.toInt32)), .val (.int ((p2 &&& (255 : Int32)).toUInt32.toUInt16.toUInt32.toInt32)), .val (.int (p3 &&& (3 : Int32))), .val (.ref b984), .val .null]) rfl (pc' := 151) rfl ?_
         refine w_aload X1024 hx (hb hby at_151) rfl rfl (pc' := 153) rfl ?_
         refine w_aload X1024 hx (hb hby at_153) rfl rfl (pc' := 155) rfl ?_
         have f1037 : Exa Z T1024.heap b36 kc0 := ((((((g50_0.ext E984).ext E992).wr W1000).wr W1007).wr W1014).keep K1024)
         have le1038 : h36.size ≤ h984.size := (Nat.le_trans K50.1 E984.1)
         have ne1039 : b36 ≠ b992 := (Nat.ne_of_lt (Nat.lt_of_lt_of_le A36.lt (Nat.le_trans le1038 (Nat.le_of_eq g992.symm))))
         have ne1040 : b36 ≠ b984 := (Nat.ne_of_lt (Nat.lt_of_lt_of_le A36.lt (Nat.le_trans K50.1 (Nat.le_of_eq g984.symm))))
         have f1041 : Fld Z T1024.heap b36 kc0 "unrated" "Ljava/lang/String;" .null := ((((((g50_6.ext E984).ext E992).other W1000 (Or.inl ne1039)).other W1007 (Or.inl ne1039)).other W1014 (Or.inl ne1039)).keep K1024 (ninS ne1040 nin0))
         have f1042 : Fld Z T1024.heap b36 kc0 "open" "Ljava/math/BigDecimal;" (.ref G_ZERO) := ((((((g50_1.ext E984).ext E992).other W1000 (Or.inl ne1039)).other W1007 (Or.inl ne1039)).other W1014 (Or.inl ne1039)).keep K1024 (ninS ne1040 nin0))
         have f1043 : Fld Z T1024.heap b36 kc0 "downside" "Ljava/math/BigDecimal;" (.ref G_ZERO) := ((((((g50_2.ext E984).ext E992).other W1000 (Or.inl ne1039)).other W1007 (Or.inl ne1039)).other W1014 (Or.inl ne1039)).keep K1024 (ninS ne1040 nin0))
         have f1044 : Fld Z T1024.heap b36 kc0 "upside" "Ljava/math/BigDecimal;" (.ref G_ZERO) := ((((((g50_3.ext E984).ext E992).other W1000 (Or.inl ne1039)).other W1007 (Or.inl ne1039)).other W1014 (Or.inl ne1039)).keep K1024 (ninS ne1040 nin0))
         have f1045 : Fld Z T1024.heap b36 kc0 "exposure" "Ljava/math/BigDecimal;" (.ref G_ZERO) := ((((((g50_4.ext E984).ext E992).other W1000 (Or.inl ne1039)).other W1007 (Or.inl ne1039)).other W1014 (Or.inl ne1039)).keep K1024 (ninS ne1040 nin0))
         have f1046 : Fld Z T1024.heap b36 kc0 "pool" "Lcom/example/ringfence/ringfence/gate/Pool;" .null := ((((((g50_5.ext E984).ext E992).other W1000 (Or.inl ne1039)).other W1007 (Or.inl ne1039)).other W1014 (Or.inl ne1039)).keep K1024 (ninS ne1040 nin0))
         have le1047 : h0.size ≤ T1024.heap.size := (Nat.le_trans le1023 K1024.1)
         obtain ⟨cq1048, kq1048, q1048a, q1048b, q1048c⟩ := isOf hZ rfl f1037
         refine w_virtual X1024 hx (y := yn_7) (z := yn_7) hown (mvT hZ (wd_45 hw)) (mvT hZ (wd_46 hw)) (notFace_of_selects (args := #[]) (mvT hZ (wd_48 hw))) (mvT hZ (wd_48 hw)) (mvT hZ (wd_47 hw)) (by decide) (backOf (W := 0) (rm_m7_2 l Z aZ hw [] b36 G_ZERO T1024.heap n0 (Nat.le_trans Z0 le1047) f1037 f1041 ge37 f1042 f1043 f1044 f1045 f1046) hZ (wd_49 hw) (wd_2 hw) (by decide) (by decide)) q1048a q1048c (by rw [hml]; rfl) [.null] (lenOf pd_1 rfl) rfl (Nat.le_of_eq rfl) (hb hby at_155) (fun _ _ => ⟨rfl, rfl, (by decide : 5 + 0 ≤ _), (by decide : 22 + 0 ≤ _)⟩) (pc' := 158) rfl ?_
         rintro _ _ ⟨T1048, L1048, k1048, n1048⟩ X1048 ⟨Lc1048, hQ1048, l1048, y1048, z1048⟩
         dsimp only [Pt.U, Pt.locs, Pt.cells, Pt.slots] at X1048 l1048 y1048 z1048 hQ1048 ⊢
         subst l1048 y1048 z1048
         obtain ⟨rfl, N1048q, K1048, g1048_0, g1048_1, g1048_2, g1048_3, g1048_4, g1048_5, g1048_6⟩ := hQ1048
         have N1049 := Fr.app N1030 N1048q
         have C1050 : CHr Z EL s.vm h0 s.vm T1048.heap := C1032.trans (CHr.keep K1048 (sfS (Safe.exa hZ.alike f1037 (by decide) (by decide)) sf0) C1032.1)
         have K1051 : Keep h0 T1048.heap [] := K1033.trans K1048 (allS (Or.inr sz39) (all0 (P := fun x => x ∈ [] ∨ h0.size ≤ x)))
         show Runs _ _ _ _ (T1048.setTop (mkF m 158 #[.val (.int p0), .val (.int p1), .val (.int p2), .val (.int p3), .val (.ref b20), .val (.ref b36), .val (.int ((p0 &&& (255 : Int32)).toUInt32.toUInt16.toUInt32.toInt32)), .val (.int ((p1 &&& (255 : Int32)).toUInt32.toUInt16.toUInt32.toInt32)), .val (.int ((p2 &&& (255 : Int32)).toUInt32.toUInt16.toUInt32.toInt32)), .val (.int (p3 &&& (3 : Int32))), .val (.ref b984), .val .null] []))
         refine w_iloadN X1048 hx (hb hby at_158) rfl (pc' := 159) rfl ?_
         refine w_bipush X1048 hx (hb hby at_159) (v := (8 : Int32)) rfl (pc' := 161) rfl ?_
         refine w_iand X1048 hx (hb hby at_161) (pc' := 162) rfl ?_
         by_cases hc1052 : (p3 &&& (8 : Int32)) = (0 : Int32)
         · refine w_ifY X1048 hx (hb hby at_162) (teq hc1052).1 (pc' := 170) (by decide) (by decide) ?_
           refine w_aload X1048 hx (hb hby at_170) rfl rfl (pc' := 172) rfl ?_
           have f1053 : Old Z n0 T1048.heap := ((f1029.keep K1024 (allS ge985 all0)).keep K1048 (allS ge37 all0))
           have le1054 : h0.size ≤ T1048.heap.size := (Nat.le_trans le1047 K1048.1)
           obtain ⟨cq1055, kq1055, q1055a, q1055b, q1055c⟩ := isOf hZ rfl g1048_0
           refine w_virtual X1048 hx (y := yn_8) (z := yn_8) hown (mvT hZ (wd_52 hw)) (mvT hZ (wd_53 hw)) (notFace_of_selects (args := #[]) (mvT hZ (wd_55 hw))) (mvT hZ (wd_55 hw)) (mvT hZ (wd_54 hw)) (by decide) (backOf (W := 0) (rm_m8_3 l Z aZ hw [] b36 G_ZERO T1048.heap n0 (Nat.le_trans Z0 le1054) g1048_0 g1048_1 ge37 S_ZERO f1053 g1048_2 g1048_3 g1048_4 g1048_5 g1048_6) hZ (wd_56 hw) (wd_2 hw) (by decide) (by decide)) q1055a q1055c (by rw [hml]; rfl) [] (lenOf pd_2 rfl) rfl (Nat.le_of_eq rfl) (hb hby at_172) (fun _ _ => ⟨rfl, rfl, (by decide : 5 + 0 ≤ _), (by decide : 22 + 0 ≤ _)⟩) (pc' := 175) rfl ?_
           rintro _ _ ⟨T1055, L1055, k1055, n1055⟩ X1055 ⟨Lc1055, hQ1055, l1055, y1055, z1055⟩
           dsimp only [Pt.U, Pt.locs, Pt.cells, Pt.slots] at X1055 l1055 y1055 z1055 hQ1055 ⊢
           subst l1055 y1055 z1055
           obtain ⟨rfl, N1055q, K1055, g1055_0, g1055_1, g1055_2, g1055_3, g1055_4, g1055_5, g1055_6⟩ := hQ1055
           have N1056 := Fr.app N1049 N1055q
           have C1057 : CHr Z EL s.vm h0 s.vm T1055.heap := C1050.trans (CHr.keep K1055 (sfS (Safe.exa hZ.alike g1048_0 (by decide) (by decide)) sf0) C1050.1)
           have K1058 : Keep h0 T1055.heap [] := K1051.trans K1055 (allS (Or.inr sz39) (all0 (P := fun x => x ∈ [] ∨ h0.size ≤ x)))
           show Runs _ _ _ _ (T1055.setTop (mkF m 175 #[.val (.int p0), .val (.int p1), .val (.int p2), .val (.int p3), .val (.ref b20), .val (.ref b36), .val (.int ((p0 &&& (255 : Int32)).toUInt32.toUInt16.toUInt32.toInt32)), .val (.int ((p1 &&& (255 : Int32)).toUInt32.toUInt16.toUInt32.toInt32)), .val (.int ((p2 &&& (255 : Int32)).toUInt32.toUInt16.toUInt32.toInt32)), .val (.int (p3 &&& (3 : Int32))), .val (.ref b984), .val .null] []))
           refine w_aload X1055 hx (hb hby at_175) rfl rfl (pc' := 177) rfl ?_
           have le1059 : h0.size ≤ T1055.heap.size := (Nat.le_trans le1054 K1055.1)
           obtain ⟨cq1060, kq1060, q1060a, q1060b, q1060c⟩ := isOf hZ rfl g1055_0
           refine w_virtual X1055 hx (y := yn_9) (z := yn_9) hown (mvT hZ (wd_57 hw)) (mvT hZ (wd_58 hw)) (notFace_of_selects (args := #[]) (mvT hZ (wd_60 hw))) (mvT hZ (wd_60 hw)) (mvT hZ (wd_59 hw)) (by decide) (backOf (W := 0) (rm_m9_4 l Z aZ hw [] b36 T1055.heap n0 (Nat.le_trans Z0 le1059) g1055_1) hZ (wd_61 hw) (wd_2 hw) (by decide) (by decide)) q1060a q1060c (by rw [hml]; rfl) [] (lenOf pd_3 rfl) rfl (Nat.le_of_eq rfl) (hb hby at_177) (fun _ _ => ⟨rfl, rfl, (by decide : 5 + 0 ≤ _), (by decide : 22 + 0 ≤ _)⟩) (pc' := 180) rfl ?_
           rintro _ _ ⟨T1060, L1060, k1060, n1060⟩ X1060 ⟨Lc1060, hQ1060, l1060, y1060, z1060⟩
           dsimp only [Pt.U, Pt.locs, Pt.cells, Pt.slots] at X1060 l1060 y1060 z1060 hQ1060 ⊢
           subst l1060 y1060 z1060
           obtain ⟨rfl, N1060q, e1060⟩ := hQ1060
           have N1061 := Fr.app N1056 N1060q
           show Runs _ _ _ _ (T1060.setTop (mkF m 180 #[.val (.int p0), .val (.int p1), .val (.int p2), .val (.int p3), .val (.ref b20), .val (.ref b36), .val (.int ((p0 &&& (255 : Int32)).toUInt32.toUInt16.toUInt32.toInt32)), .val (.int ((p1 &&& (255 : Int32)).toUInt32.toUInt16.toUInt32.toInt32)), .val (.int ((p2 &&& (255 : Int32)).toUInt32.toUInt16.toUInt32.toInt32)), .val (.int (p3 &&& (3 : Int32))), .val (.ref b984), .val .null] [.null]))
           refine w_ifnonnullN X1060 hx (hb hby at_180) (pc' := 183) rfl ?_
           refine w_aload X1060 hx (hb hby at_183) rfl rfl (pc' := 185) rfl ?_
           have f1062 : Old Z n0 T1055.heap := (f1053.keep K1055 (allS ge37 all0))
           refine w_getS X1060 hx "" hZ hown (Or.inl (wd_62 hw)) Via.refl e1060 (S_DOWNSIDE.ext f1062.2) (hb hby at_185) (pc' := 188) rfl ?_
           intro T1063 X1063 e1063
           have f1064 : Exa Z T1055.heap G_DOWNSIDE kc4 := ((((((((((((E_G_DOWNSIDE.ext E20).keep K32).ext E36).keep K50).ext E984).ext E992).wr W1000).wr W1007).wr W1014).keep K1024).keep K1048).keep K1055)
           have ne1065 : G_DOWNSIDE ≠ b20 := (Nat.ne_of_lt (Nat.lt_of_lt_of_le E_G_DOWNSIDE.lt (Nat.le_trans (Nat.le_refl _) (Nat.le_of_eq g20.symm))))
           have ne1066 : G_DOWNSIDE ≠ b36 := (Nat.ne_of_lt (Nat.lt_of_lt_of_le E_G_DOWNSIDE.lt (Nat.le_trans le38 (Nat.le_of_eq g36.symm))))
           have ne1067 : G_DOWNSIDE ≠ b992 := (Nat.ne_of_lt (Nat.lt_of_lt_of_le E_G_DOWNSIDE.lt (Nat.le_trans le994 (Nat.le_of_eq g992.symm))))
           have ne1068 : G_DOWNSIDE ≠ b984 := (Nat.ne_of_lt (Nat.lt_of_lt_of_le E_G_DOWNSIDE.lt (Nat.le_trans le986 (Nat.le_of_eq g984.symm))))
           have f1069 : Fld Z T1055.heap G_DOWNSIDE kc3 "ordinal" "I" (.int (1 : Int32)) := ((((((((((((F_ordinal_G_DOWNSIDE.ext E20).keep K32 (ninS ne1065 nin0)).ext E36).keep K50 (ninS ne1066 nin0)).ext E984).ext E992).other W1000 (Or.inl ne1067)).other W1007 (Or.inl ne1067)).other W1014 (Or.inl ne1067)).keep K1024 (ninS ne1068 nin0)).keep K1048 (ninS ne1066 nin0)).keep K1055 (ninS ne1066 nin0))
           have ne1070 : G__SwitchMap_com_example_ringfence_ringfence_gate_Measure ≠ b20 := (Nat.ne_of_lt (Nat.lt_of_lt_of_le V_G__SwitchMap_com_example_ringfence_ringfence_gate_Measure.lt (Nat.le_trans (Nat.le_refl _) (Nat.le_of_eq g20.symm))))
           have ne1071 : G__SwitchMap_com_example_ringfence_ringfence_gate_Measure ≠ b36 := (Nat.ne_of_lt (Nat.lt_of_lt_of_le V_G__SwitchMap_com_example_ringfence_ringfence_gate_Measure.lt (Nat.le_trans le38 (Nat.le_of_eq g36.symm))))
           have ne1072 : G__SwitchMap_com_example_ringfence_ringfence_gate_Measure ≠ b992 := (Nat.ne_of_lt (Nat.lt_of_lt_of_le V_G__SwitchMap_com_example_ringfence_ringfence_gate_Measure.lt (Nat.le_trans le994 (Nat.le_of_eq g992.symm))))
           have ne1073 : G__SwitchMap_com_example_ringfence_ringfence_gate_Measure ≠ b984 := (Nat.ne_of_lt (Nat.lt_of_lt_of_le V_G__SwitchMap_com_example_ringfence_ringfence_gate_Measure.lt (Nat.le_trans le986 (Nat.le_of_eq g984.symm))))
           have f1074 : Arv Z T1055.heap G__SwitchMap_com_example_ringfence_ringfence_gate_Measure k_G__SwitchMap_com_example_ringfence_ringfence_gate_Measure .int (5 : Int32) [(.int (1 : Int32)), (.int (2 : Int32)), (.int (3 : Int32)), (.int (4 : Int32)), (.int (5 : Int32))] (.int (0 : Int32)) := ((((((((((((V_G__SwitchMap_com_example_ringfence_ringfence_gate_Measure.ext E20).keep K32 (ninS ne1070 nin0)).ext E36).keep K50 (ninS ne1071 nin0)).ext E984).ext E992).other W1000 ne1072).other W1007 ne1072).other W1014 ne1072).keep K1024 (ninS ne1073 nin0)).keep K1048 (ninS ne1071 nin0)).keep K1055 (ninS ne1071 nin0))
           obtain ⟨cq1075, kq1075, q1075a, q1075b, q1075c⟩ := isOf hZ e1063 g1055_0
           refine w_virtual X1063 hx (y := yn_10) (z := yn_10) hown (mvT hZ (wd_65 hw)) (mvT hZ (wd_66 hw)) (notFace_of_selects (args := #[]) (mvT hZ (wd_68 hw))) (mvT hZ (wd_68 hw)) (mvT hZ (wd_67 hw)) (by decide) (backOf (W := 0) (rm_m10_5 l Z aZ hw [] b36 G_DOWNSIDE G__SwitchMap_com_example_ringfence_ringfence_gate_Measure k_G__SwitchMap_com_example_ringfence_ringfence_gate_Measure G_ZERO T1055.heap n0 (Nat.le_trans Z0 le1059) g1055_1 S__SwitchMap_com_example_ringfence_ringfence_gate_Measure f1062 f1064 f1069 f1074 g1055_3) hZ (wd_69 hw) (wd_2 hw) (by decide) (by decide)) q1075a q1075c (by rw [hml]; rfl) [(.ref G_DOWNSIDE)] (lenOf pd_5 rfl) rfl (Nat.le_of_eq rfl) (hb hby at_188) (fun _ _ => ⟨rfl, e1063, (by decide : 5 + 0 ≤ _), (by decide : 22 + 0 ≤ _)⟩) (pc' := 191) rfl ?_
           rintro _ _ ⟨T1075, L1075, k1075, n1075⟩ X1075 ⟨Lc1075, hQ1075, l1075, y1075, z1075⟩
           dsimp only [Pt.U, Pt.locs, Pt.cells, Pt.slots] at X1075 l1075 y1075 z1075 hQ1075 ⊢
           subst l1075 y1075 z1075
           obtain ⟨rfl, N1075q, e1075⟩ := hQ1075
           have N1076 := Fr.app N1061 N1075q
           show Runs _ _ _ _ (T1075.setTop (mkF m 191 #[.val (.int p0), .val (.int p1), .val (.int p2), .val (.int p3), .val (.ref b20), .val (.ref b36), .val (.int ((p0 &&& (255 : Int32)).toUInt32.toUInt16.toUInt32.toInt32)), .val (.int ((p1 &&& (255 : Int32)).toUInt32.toUInt16.toUInt32.toInt32)), .val (.int ((p2 &&& (255 : Int32)).toUInt32.toUInt16.toUInt32.toInt32)), .val (.int (p3 &&& (3 : Int32))), .val (.ref b984), .val .null] [(.ref G_ZERO)]))
           refine w_aload X1075 hx (hb hby at_191) rfl rfl (pc' := 193) rfl ?_
           refine w_getS X1075 hx "" hZ hown (Or.inl (wd_82 hw)) Via.refl e1075 (S_UPSIDE.ext f1062.2) (hb hby at_193) (pc' := 196) rfl ?_
           intro T1077 X1077 e1077
           have f1079 : Exa Z T1055.heap G_UPSIDE kc4 := ((((((((((((E_G_UPSIDE.ext E20).keep K32).ext E36).keep K50).ext E984).ext E992).wr W1000).wr W1007).wr W1014).keep K1024).keep K1048).keep K1055)
           have ne1080 : G_UPSIDE ≠ b20 := (Nat.ne_of_lt (Nat.lt_of_lt_of_le E_G_UPSIDE.lt (Nat.le_trans (Nat.le_refl _) (Nat.le_of_eq g20.symm))))
           have ne1081 : G_UPSIDE ≠ b36 := (Nat.ne_of_lt (Nat.lt_of_lt_of_le E_G_UPSIDE.lt (Nat.le_trans le38 (Nat.le_of_eq g36.symm))))
           have ne1082 : G_UPSIDE ≠ b992 := (Nat.ne_of_lt (Nat.lt_of_lt_of_le E_G_UPSIDE.lt (Nat.le_trans le994 (Nat.le_of_eq g992.symm))))
           have ne1083 : G_UPSIDE ≠ b984 := (Nat.ne_of_lt (Nat.lt_of_lt_of_le E_G_UPSIDE.lt (Nat.le_trans le986 (Nat.le_of_eq g984.symm))))
           have f1084 : Fld Z T1055.heap G_UPSIDE kc3 "ordinal" "I" (.int (2 : Int32)) := ((((((((((((F_ordinal_G_UPSIDE.ext E20).keep K32 (ninS ne1080 nin0)).ext E36).keep K50 (ninS ne1081 nin0)).ext E984).ext E992).other W1000 (Or.inl ne1082)).other W1007 (Or.inl ne1082)).other W1014 (Or.inl ne1082)).keep K1024 (ninS ne1083 nin0)).keep K1048 (ninS ne1081 nin0)).keep K1055 (ninS ne1081 nin0))
           obtain ⟨cq1085, kq1085, q1085a, q1085b, q1085c⟩ := isOf hZ e1077 g1055_0
           refine w_virtual X1077 hx (y := yn_10) (z := yn_10) hown (mvT hZ (wd_65 hw)) (mvT hZ (wd_66 hw)) (notFace_of_selects (args := #[]) (mvT hZ (wd_68 hw))) (mvT hZ (wd_68 hw)) (mvT hZ (wd_67 hw)) (by decide) (backOf (W := 1) (rm_m10_7 l Z aZ hw [] b36 G_UPSIDE G__SwitchMap_com_example_ringfence_ringfence_gate_Measure k_G__SwitchMap_com_example_ringfence_ringfence_gate_Measure G_ZERO T1055.heap n0 (Nat.le_trans Z0 le1059) g1055_1 S__SwitchMap_com_example_ringfence_ringfence_gate_Measure f1062 f1079 f1084 f1074 g1055_4) hZ (wd_69 hw) (wd_2 hw) (by decide) (by decide)) q1085a q1085c (by rw [hml]; rfl) [(.ref G_UPSIDE)] (lenOf pd_5 rfl) rfl (Nat.le_of_eq rfl) (hb hby at_196) (fun _ _ => ⟨rfl, e1077, (by decide : 5 + 0 ≤ _), (by decide : 22 + 0 ≤ _)⟩) (pc' := 199) rfl ?_
           rintro _ _ ⟨T1085, L1085, k1085, n1085⟩ X1085 ⟨Lc1085, hQ1085, l1085, y1085, z1085⟩
           dsimp only [Pt.U, Pt.locs, Pt.cells, Pt.slots] at X1085 l1085 y1085 z1085 hQ1085 ⊢
           subst l1085 y1085 z1085
           obtain ⟨rfl, N1085q, e1085⟩ := hQ1085
           have N1086 := Fr.app N1076 N1085q
           show Runs _ _ _ _ (T1085.setTop (mkF m 199 #[.val (.int p0), .val (.int p1), .val (.int p2), .val (.int p3), .val (.ref b20), .val (.ref b36), .val (.int ((p0 &&& (255 : Int32)).toUInt32.toUInt16.toUInt32.toInt32)), .val (.int ((p1 &&& (255 : Int32)).toUInt32.toUInt16.toUInt32.toInt32)), .val (.int ((p2 &&& (255 : Int32)).toUInt32.toUInt16.toUInt32.toInt32)), .val (.int (p3 &&& (3 : Int32))), .val (.ref b984), .val .null] [(.ref G_ZERO), (.ref G_ZERO)]))
           refine w_acmp X1085 hx (hb hby at_199) (same := true) rfl rfl (decide_eq_true rfl) (pc' := 202) (by decide) (by decide) ?_
           refine w_aload X1085 hx (hb hby at_202) rfl rfl (pc' := 204) rfl ?_
           refine w_getS X1085 hx "" hZ hown (Or.inl (wd_82 hw)) Via.refl e1085 (S_UPSIDE.ext f1062.2) (hb hby at_204) (pc' := 207) rfl ?_
           intro T1087 X1087 e1087
           obtain ⟨cq1088, kq1088, q1088a, q1088b, q1088c⟩ := isOf hZ e1087 g1055_0
           refine w_virtual X1087 hx (y := yn_10) (z := yn_10) hown (mvT hZ (wd_65 hw)) (mvT hZ (wd_66 hw)) (notFace_of_selects (args := #[]) (mvT hZ (wd_68 hw))) (mvT hZ (wd_68 hw)) (mvT hZ (wd_67 hw)) (by decide) (backOf (W := 0) (rm_m10_7 l Z aZ hw [] b36 G_UPSIDE G__SwitchMap_com_example_ringfence_ringfence_gate_Measure k_G__SwitchMap_com_example_ringfence_ringfence_gate_Measure G_ZERO T1055.heap n0 (Nat.le_trans Z0 le1059) g1055_1 S__SwitchMap_com_example_ringfence_ringfence_gate_Measure f1062 f1079 f1084 f1074 g1055_4) hZ (wd_69 hw) (wd_2 hw) (by decide) (by decide)) q1088a q1088c (by rw [hml]; rfl) [(.ref G_UPSIDE)] (lenOf pd_5 rfl) rfl (Nat.le_of_eq rfl) (hb hby at_207) (fun _ _ => ⟨rfl, e1087, (by decide : 5 + 0 ≤ _), (by decide : 22 + 0 ≤ _)⟩) (pc' := 210) rfl ?_
           rintro _ _ ⟨T1088, L1088, k1088, n1088⟩ X1088 ⟨Lc1088, hQ1088, l1088, y1088, z1088⟩
           dsimp only [Pt.U, Pt.locs, Pt.cells, Pt.slots] at X1088 l1088 y1088 z1088 hQ1088 ⊢
           subst l1088 y1088 z1088
           obtain ⟨rfl, N1088q, e1088⟩ := hQ1088
           have N1089 := Fr.app N1086 N1088q
           show Runs _ _ _ _ (T1088.setTop (mkF m 210 #[.val (.int p0), .val (.int p1), .val (.int p2), .val (.int p3), .val (.ref b20), .val (.ref b36), .val (.int ((p0 &&& (255 : Int32)).toUInt32.toUInt16.toUInt32.toInt32)), .val (.int ((p1 &&& (255 : Int32)).toUInt32.toUInt16.toUInt32.toInt32)), .val (.int ((p2 &&& (255 : Int32)).toUInt32.toUInt16.toUInt32.toInt32)), .val (.int (p3 &&& (3 : Int32))), .val (.ref b984), .val .null] [(.ref G_ZERO)]))
           refine w_aload X1088 hx (hb hby at_210) rfl rfl (pc' := 212) rfl ?_
           refine w_getS X1088 hx "" hZ hown (Or.inl (wd_84 hw)) Via.refl e1088 (S_EXPOSURE.ext f1062.2) (hb hby at_212) (pc' := 215) rfl ?_
           intro T1090 X1090 e1090
           have f1093 : Exa Z T1055.heap G_EXPOSURE kc4 := ((((((((((((E_G_EXPOSURE.ext E20).keep K32).ext E36).keep K50).ext E984).ext E992).wr W1000).wr W1007).wr W1014).keep K1024).keep K1048).keep K1055)
           have ne1094 : G_EXPOSURE ≠ b20 := (Nat.ne_of_lt (Nat.lt_of_lt_of_le E_G_EXPOSURE.lt (Nat.le_trans (Nat.le_refl _) (Nat.le_of_eq g20.symm))))
           have ne1095 : G_EXPOSURE ≠ b36 := (Nat.ne_of_lt (Nat.lt_of_lt_of_le E_G_EXPOSURE.lt (Nat.le_trans le38 (Nat.le_of_eq g36.symm))))
           have ne1096 : G_EXPOSURE ≠ b992 := (Nat.ne_of_lt (Nat.lt_of_lt_of_le E_G_EXPOSURE.lt (Nat.le_trans le994 (Nat.le_of_eq g992.symm))))
           have ne1097 : G_EXPOSURE ≠ b984 := (Nat.ne_of_lt (Nat.lt_of_lt_of_le E_G_EXPOSURE.lt (Nat.le_trans le986 (Nat.le_of_eq g984.symm))))
           have f1098 : Fld Z T1055.heap G_EXPOSURE kc3 "ordinal" "I" (.int (3 : Int32)) := ((((((((((((F_ordinal_G_EXPOSURE.ext E20).keep K32 (ninS ne1094 nin0)).ext E36).keep K50 (ninS ne1095 nin0)).ext E984).ext E992).other W1000 (Or.inl ne1096)).other W1007 (Or.inl ne1096)).other W1014 (Or.inl ne1096)).keep K1024 (ninS ne1097 nin0)).keep K1048 (ninS ne1095 nin0)).keep K1055 (ninS ne1095 nin0))
           obtain ⟨cq1099, kq1099, q1099a, q1099b, q1099c⟩ := isOf hZ e1090 g1055_0
           refine w_virtual X1090 hx (y := yn_10) (z := yn_10) hown (mvT hZ (wd_65 hw)) (mvT hZ (wd_66 hw)) (notFace_of_selects (args := #[]) (mvT hZ (wd_68 hw))) (mvT hZ (wd_68 hw)) (mvT hZ (wd_67 hw)) (by decide) (backOf (W := 1) (rm_m10_9 l Z aZ hw [] b36 G_EXPOSURE G__SwitchMap_com_example_ringfence_ringfence_gate_Measure k_G__SwitchMap_com_example_ringfence_ringfence_gate_Measure G_ZERO T1055.heap n0 (Nat.le_trans Z0 le1059) g1055_1 S__SwitchMap_com_example_ringfence_ringfence_gate_Measure f1062 f1093 f1098 f1074 g1055_5) hZ (wd_69 hw) (wd_2 hw) (by decide) (by decide)) q1099a q1099c (by rw [hml]; rfl) [(.ref G_EXPOSURE)] (lenOf pd_5 rfl) rfl (Nat.le_of_eq rfl) (hb hby at_215) (fun _ _ => ⟨rfl, e1090, (by decide : 5 + 0 ≤ _), (by decide : 22 + 0 ≤ _)⟩) (pc' := 218) rfl ?_
           rintro _ _ ⟨T1099, L1099, k1099, n1099⟩ X1099 ⟨Lc1099, hQ1099, l1099, y1099, z1099⟩
           dsimp only [Pt.U, Pt.locs, Pt.cells, Pt.slots] at X1099 l1099 y1099 z1099 hQ1099 ⊢
           subst l1099 y1099 z1099
           obtain ⟨rfl, N1099q, e1099⟩ := hQ1099
           have N1100 := Fr.app N1089 N1099q
           show Runs _ _ _ _ (T1099.setTop (mkF m 218 #[.val (.int p0), .val (.int p1), .val (.int p2), .val (.int p3), .val (.ref b20), .val (.ref b36), .val (.int ((p0 &&& (255 : Int32)).toUInt32.toUInt16.toUInt32.toInt32)), .val (.int ((p1 &&& (255 : Int32)).toUInt32.toUInt16.toUInt32.toInt32)), .val (.int ((p2 &&& (255 : Int32)).toUInt32.toUInt16.toUInt32.toInt32)), .val (.int (p3 &&& (3 : Int32))), .val (.ref b984), .val .null] [(.ref G_ZERO), (.ref G_ZERO)]))
           refine w_acmp X1099 hx (hb hby at_218) (same := true) rfl rfl (decide_eq_true rfl) (pc' := 221) (by decide) (by decide) ?_
           refine w_aload X1099 hx (hb hby at_221) rfl rfl (pc' := 223) rfl ?_
           refine w_getS X1099 hx "" hZ hown (Or.inl (wd_84 hw)) Via.refl e1099 (S_EXPOSURE.ext f1062.2) (hb hby at_223) (pc' := 226) rfl ?_
           intro T1101 X1101 e1101
           obtain ⟨cq1102, kq1102, q1102a, q1102b, q1102c⟩ := isOf hZ e1101 g1055_0
           refine w_virtual X1101 hx (y := yn_10) (z := yn_10) hown (mvT hZ (wd_65 hw)) (mvT hZ (wd_66 hw)) (notFace_of_selects (args := #[]) (mvT hZ (wd_68 hw))) (mvT hZ (wd_68 hw)) (mvT hZ (wd_67 hw)) (by decide) (backOf (W := 0) (rm_m10_9 l Z aZ hw [] b36 G_EXPOSURE G__SwitchMap_com_example_ringfence_ringfence_gate_Measure k_G__SwitchMap_com_example_ringfence_ringfence_gate_Measure G_ZERO T1055.heap n0 (Nat.le_trans Z0 le1059) g1055_1 S__SwitchMap_com_example_ringfence_ringfence_gate_Measure f1062 f1093 f1098 f1074 g1055_5) hZ (wd_69 hw) (wd_2 hw) (by decide) (by decide)) q1102a q1102c (by rw [hml]; rfl) [(.ref G_EXPOSURE)] (lenOf pd_5 rfl) rfl (Nat.le_of_eq rfl) (hb hby at_226) (fun _ _ => ⟨rfl, e1101, (by decide : 5 + 0 ≤ _), (by decide : 22 + 0 ≤ _)⟩) (pc' := 229) rfl ?_
           rintro _ _ ⟨T1102, L1102, k1102, n1102⟩ X1102 ⟨Lc1102, hQ1102, l1102, y1102, z1102⟩
           dsimp only [Pt.U, Pt.locs, Pt.cells, Pt.slots] at X1102 l1102 y1102 z1102 hQ1102 ⊢
           subst l1102 y1102 z1102
           obtain ⟨rfl, N1102q, e1102⟩ := hQ1102
           have N1103 := Fr.app N1100 N1102q
           show Runs _ _ _ _ (T1102.setTop (mkF m 229 #[.val (.int p0), .val (.int p1), .val (.int p2), .val (.int p3), .val (.ref b20), .val (.ref b36), .val (.int ((p0 &&& (255 : Int32)).toUInt32.toUInt16.toUInt32.toInt32)), .val (.int ((p1 &&& (255 : Int32)).toUInt32.toUInt16.toUInt32.toInt32)), .val (.int ((p2 &&& (255 : Int32)).toUInt32.toUInt16.toUInt32.toInt32)), .val (.int (p3 &&& (3 : Int32))), .val (.ref b984), .val .null] [(.ref G_ZERO)]))
           refine w_aload X1102 hx (hb hby at_229) rfl rfl (pc' := 231) rfl ?_
           refine w_getS X1102 hx "" hZ hown (Or.inl (wd_84 hw)) Via.refl e1102 (S_EXPOSURE.ext f1062.2) (hb hby at_231) (pc' := 234) rfl ?_
           intro T1104 X1104 e1104
           have ne1119 : b20 ≠ b36 := (Nat.ne_of_lt (Nat.lt_of_lt_of_le A20.lt (Nat.le_trans K32.1 (Nat.le_of_eq g36.symm))))
           have le1120 : h20.size ≤ h36.size := (Nat.le_trans K32.1 E36.1)
           have le1121 : h20.size ≤ T50.heap.size := (Nat.le_trans le1120 K50.1)
           have le1122 : h20.size ≤ h984.size := (Nat.le_trans le1121 E984.1)
           have ne1123 : b20 ≠ b992 := (Nat.ne_of_lt (Nat.lt_of_lt_of_le A20.lt (Nat.le_trans le1122 (Nat.le_of_eq g992.symm))))
           have ne1124 : b20 ≠ b984 := (Nat.ne_of_lt (Nat.lt_of_lt_of_le A20.lt (Nat.le_trans le1121 (Nat.le_of_eq g984.symm))))
           have f1125 : Fld Z T1055.heap b20 kc0 "unrated" "Ljava/lang/String;" .null := ((((((((((g32_6.ext E36).keep K50 (ninS ne1119 nin0)).ext E984).ext E992).other W1000 (Or.inl ne1123)).other W1007 (Or.inl ne1123)).other W1014 (Or.inl ne1123)).keep K1024 (ninS ne1124 nin0)).keep K1048 (ninS ne1119 nin0)).keep K1055 (ninS ne1119 nin0))
           have f1126 : Fld Z T1055.heap b20 kc0 "exposure" "Ljava/math/BigDecimal;" (.ref G_ZERO) := ((((((((((g32_4.ext E36).keep K50 (ninS ne1119 nin0)).ext E984).ext E992).other W1000 (Or.inl ne1123)).other W1007 (Or.inl ne1123)).other W1014 (Or.inl ne1123)).keep K1024 (ninS ne1124 nin0)).keep K1048 (ninS ne1119 nin0)).keep K1055 (ninS ne1119 nin0))
           have f1128 : Exa Z T1055.heap b20 kc0 := ((((((((((g32_0.ext E36).keep K50).ext E984).ext E992).wr W1000).wr W1007).wr W1014).keep K1024).keep K1048).keep K1055)
           obtain ⟨cq1127, kq1127, q1127a, q1127b, q1127c⟩ := isOf hZ e1104 f1128
           refine w_virtual X1104 hx (y := yn_10) (z := yn_10) hown (mvT hZ (wd_65 hw)) (mvT hZ (wd_66 hw)) (notFace_of_selects (args := #[]) (mvT hZ (wd_68 hw))) (mvT hZ (wd_68 hw)) (mvT hZ (wd_67 hw)) (by decide) (backOf (W := 1) (rm_m10_9 l Z aZ hw [] b20 G_EXPOSURE G__SwitchMap_com_example_ringfence_ringfence_gate_Measure k_G__SwitchMap_com_example_ringfence_ringfence_gate_Measure G_ZERO T1055.heap n0 (Nat.le_trans Z0 le1059) f1125 S__SwitchMap_com_example_ringfence_ringfence_gate_Measure f1062 f1093 f1098 f1074 f1126) hZ (wd_69 hw) (wd_2 hw) (by decide) (by decide)) q1127a q1127c (by rw [hml]; rfl) [(.ref G_EXPOSURE)] (lenOf pd_5 rfl) rfl (Nat.le_of_eq rfl) (hb hby at_234) (fun _ _ => ⟨rfl, e1104, (by decide : 5 + 0 ≤ _), (by decide : 22 + 0 ≤ _)⟩) (pc' := 237) rfl ?_
           rintro _ _ ⟨T1127, L1127, k1127, n1127⟩ X1127 ⟨Lc1127, hQ1127, l1127, y1127, z1127⟩
           dsimp only [Pt.U, Pt.locs, Pt.cells, Pt.slots] at X1127 l1127 y1127 z1127 hQ1127 ⊢
           subst l1127 y1127 z1127
           obtain ⟨rfl, N1127q, e1127⟩ := hQ1127
           have N1129 := Fr.app N1103 N1127q
           show Runs _ _ _ _ (T1127.setTop (mkF m 237 #[.val (.int p0), .val (.int p1), .val (.int p2), .val (.int p3), .val (.ref b20), .val (.ref b36), .val (.int ((p0 &&& (255 : Int32)).toUInt32.toUInt16.toUInt32.toInt32)), .val (.int ((p1 &&& (255 : Int32)).toUInt32.toUInt16.toUInt32.toInt32)), .val (.int ((p2 &&& (255 : Int32)).toUInt32.toUInt16.toUInt32.toInt32)), .val (.int (p3 &&& (3 : Int32))), .val (.ref b984), .val .null] [(.ref G_ZERO), (.ref G_ZERO)]))
           refine w_acmp X1127 hx (hb hby at_237) (same := true) rfl rfl (decide_eq_true rfl) (pc' := 240) (by decide) (by decide) ?_
           refine w_iconst X1127 hx (hb hby at_240) (v := (1 : Int32)) rfl (pc' := 241) rfl ?_
           refine w_goto X1127 hx (hb hby at_241) (pc' := 245) (by decide) (by decide) ?_
           exact w_doneH X1127 hlk (v := some (.int (1 : Int32))) e1127 hh hZ (own_EW hw) hS0 (Nat.le_trans (Nat.le_refl _) le1059) C1057 (fun h => by rw [hret] at h; cases h) (fun fs hr => retN X1127 hx (t := .boolean) hret (by simp) (hb hby at_245) hr) (by decide) (by decide) (fun hsy => ⟨rfl, N1129⟩)
         · refine w_ifN X1048 hx (hb hby at_162) (feq hc1052).1 (pc' := 165) rfl ?_
           refine w_aload X1048 hx (hb hby at_165) rfl rfl (pc' := 167) rfl ?_
           have f1130 : Old Z n0 T1048.heap := ((f1029.keep K1024 (allS ge985 all0)).keep K1048 (allS ge37 all0))
           have le1131 : h0.size ≤ T1048.heap.size := (Nat.le_trans le1047 K1048.1)
           obtain ⟨cq1132, kq1132, q1132a, q1132b, q1132c⟩ := isOf hZ rfl g1048_0
           refine w_virtual X1048 hx (y := yn_8) (z := yn_8) hown (mvT hZ (wd_52 hw)) (mvT hZ (wd_53 hw)) (notFace_of_selects (args := #[]) (mvT hZ (wd_55 hw))) (mvT hZ (wd_55 hw)) (mvT hZ (wd_54 hw)) (by decide) (backOf (W := 0) (rm_m8_3 l Z aZ hw [] b36 G_ZERO T1048.heap n0 (Nat.le_trans Z0 le1131) g1048_0 g1048_1 ge37 S_ZERO f1130 g1048_2 g1048_3 g1048_4 g1048_5 g1048_6) hZ (wd_56 hw) (wd_2 hw) (by decide) (by decide)) q1132a q1132c (by rw [hml]; rfl) [] (lenOf pd_2 rfl) rfl (Nat.le_of_eq rfl) (hb hby at_167) (fun _ _ => ⟨rfl, rfl, (by decide : 5 + 0 ≤ _), (by decide : 22 + 0 ≤ _)⟩) (pc' := 170) rfl ?_
           rintro _ _ ⟨T1132, L1132, k1132, n1132⟩ X1132 ⟨Lc1132, hQ1132, l1132, y1132, z1132⟩
           dsimp only [Pt.U, Pt.locs, Pt.cells, Pt.slots] at X1132 l1132 y1132 z1132 hQ1132 ⊢
           subst l1132 y1132 z1132
           obtain ⟨rfl, N1132q, K1132, g1132_0, g1132_1, g1132_2, g1132_3, g1132_4, g1132_5, g1132_6⟩ := hQ1132
           have N1133 := Fr.app N1049 N1132q
           have C1134 : CHr Z EL s.vm h0 s.vm T1132.heap := C1050.trans (CHr.keep K1132 (sfS (Safe.exa hZ.alike g1048_0 (by decide) (by decide)) sf0) C1050.1)
           have K1135 : Keep h0 T1132.heap [] := K1051.trans K1132 (allS (Or.inr sz39) (all0 (P := fun x => x ∈ [] ∨ h0.size ≤ x)))
           show Runs _ _ _ _ (T1132.setTop (mkF m 170 #[.val (.int p0), .val (.int p1), .val (.int p2), .val (.int p3), .val (.ref b20), .val (.ref b36), .val (.int ((p0 &&& (255 : Int32)).toUInt32.toUInt16.toUInt32.toInt32)), .val (.int ((p1 &&& (255 : Int32)).toUInt32.toUInt16.toUInt32.toInt32)), .val (.int ((p2 &&& (255 : Int32)).toUInt32.toUInt16.toUInt32.toInt32)), .val (.int (p3 &&& (3 : Int32))), .val (.ref b984), .val .null] []))
           refine w_aload X1132 hx (hb hby at_170) rfl rfl (pc' := 172) rfl ?_
           have f1136 : Old Z n0 T1132.heap := (f1130.keep K1132 (allS ge37 all0))
           have le1137 : h0.size ≤ T1132.heap.size := (Nat.le_trans le1131 K1132.1)
           obtain ⟨cq1138, kq1138, q1138a, q1138b, q1138c⟩ := isOf hZ rfl g1132_0
           refine w_virtual X1132 hx (y := yn_8) (z := yn_8) hown (mvT hZ (wd_52 hw)) (mvT hZ (wd_53 hw)) (notFace_of_selects (args := #[]) (mvT hZ (wd_55 hw))) (mvT hZ (wd_55 hw)) (mvT hZ (wd_54 hw)) (by decide) (backOf (W := 0) (rm_m8_3 l Z aZ hw [] b36 G_ZERO T1132.heap n0 (Nat.le_trans Z0 le1137) g1132_0 g1132_1 ge37 S_ZERO f1136 g1132_2 g1132_3 g1132_4 g1132_5 g1132_6) hZ (wd_56 hw) (wd_2 hw) (by decide) (by decide)) q1138a q1138c (by rw [hml]; rfl) [] (lenOf pd_2 rfl) rfl (Nat.le_of_eq rfl) (hb hby at_172) (fun _ _ => ⟨rfl, rfl, (by decide : 5 + 0 ≤ _), (by decide : 22 + 0 ≤ _)⟩) (pc' := 175) rfl ?_
           rintro _ _ ⟨T1138, L1138, k1138, n1138⟩ X1138 ⟨Lc1138, hQ1138, l1138, y1138, z1138⟩
           dsimp only [Pt.U, Pt.locs, Pt.cells, Pt.slots] at X1138 l1138 y1138 z1138 hQ1138 ⊢
           subst l1138 y1138 z1138
           obtain ⟨rfl, N1138q, K1138, g1138_0, g1138_1, g1138_2, g1138_3, g1138_4, g1138_5, g1138_6⟩ := hQ1138
           have N1139 := Fr.app N1133 N1138q
           have C1140 : CHr Z EL s.vm h0 s.vm T1138.heap := C1134.trans (CHr.keep K1138 (sfS (Safe.exa hZ.alike g1132_0 (by decide) (by decide)) sf0) C1134.1)
           have K1141 : Keep h0 T1138.heap [] := K1135.trans K1138 (allS (Or.inr sz39) (all0 (P := fun x => x ∈ [] ∨ h0.size ≤ x)))
           show Runs _ _ _ _ (T1138.setTop (mkF m 175 #[.val (.int p0), .val (.int p1), .val (.int p2), .val (.int p3), .val (.ref b20), .val (.ref b36), .val (.int ((p0 &&& (255 : Int32)).toUInt32.toUInt16.toUInt32.toInt32)), .val (.int ((p1 &&& (255 : Int32)).toUInt32.toUInt16.toUInt32.toInt32)), .val (.int ((p2 &&& (255 : Int32)).toUInt32.toUInt16.toUInt32.toInt32)), .val (.int (p3 &&& (3 : Int32))), .val (.ref b984), .val .null] []))
           refine w_aload X1138 hx (hb hby at_175) rfl rfl (pc' := 177) rfl ?_
           have le1142 : h0.size ≤ T1138.heap.size := (Nat.le_trans le1137 K1138.1)
           obtain ⟨cq1143, kq1143, q1143a, q1143b, q1143c⟩ := isOf hZ rfl g1138_0
           refine w_virtual X1138 hx (y := yn_9) (z := yn_9) hown (mvT hZ (wd_57 hw)) (mvT hZ (wd_58 hw)) (notFace_of_selects (args := #[]) (mvT hZ (wd_60 hw))) (mvT hZ (wd_60 hw)) (mvT hZ (wd_59 hw)) (by decide) (backOf (W := 0) (rm_m9_4 l Z aZ hw [] b36 T1138.heap n0 (Nat.le_trans Z0 le1142) g1138_1) hZ (wd_61 hw) (wd_2 hw) (by decide) (by decide)) q1143a q1143c (by rw [hml]; rfl) [] (lenOf pd_3 rfl) rfl (Nat.le_of_eq rfl) (hb hby at_177) (fun _ _ => ⟨rfl, rfl, (by decide : 5 + 0 ≤ _), (by decide : 22 + 0 ≤ _)⟩) (pc' := 180) rfl ?_
           rintro _ _ ⟨T1143, L1143, k1143, n1143⟩ X1143 ⟨Lc1143, hQ1143, l1143, y1143, z1143⟩
           dsimp only [Pt.U, Pt.locs, Pt.cells, Pt.slots] at X1143 l1143 y1143 z1143 hQ1143 ⊢
           subst l1143 y1143 z1143
           obtain ⟨rfl, N1143q, e1143⟩ := hQ1143
           have N1144 := Fr.app N1139 N1143q
           show Runs _ _ _ _ (T1143.setTop (mkF m 180 #[.val (.int p0), .val (.int p1), .val (.int p2), .val (.int p3), .val (.ref b20), .val (.ref b36), .val (.int ((p0 &&& (255 : Int32)).toUInt32.toUInt16.toUInt32.toInt32)), .val (.int ((p1 &&& (255 : Int32)).toUInt32.toUInt16.toUInt32.toInt32)), .val (.int ((p2 &&& (255 : Int32)).toUInt32.toUInt16.toUInt32.toInt32)), .val (.int (p3 &&& (3 : Int32))), .val (.ref b984), .val .null] [.null]))
           refine w_ifnonnullN X1143 hx (hb hby at_180) (pc' := 183) rfl ?_
           refine w_aload X1143 hx (hb hby at_183) rfl rfl (pc' := 185) rfl ?_
           have f1145 : Old Z n0 T1138.heap := (f1136.keep K1138 (allS ge37 all0))
           refine w_getS X1143 hx "" hZ hown (Or.inl (wd_62 hw)) Via.refl e1143 (S_DOWNSIDE.ext f1145.2) (hb hby at_185) (pc' := 188) rfl ?_
           intro T1146 X1146 e1146
           have f1147 : Exa Z T1138.heap G_DOWNSIDE kc4 := (((((((((((((E_G_DOWNSIDE.ext E20).keep K32).ext E36).keep K50).ext E984).ext E992).wr W1000).wr W1007).wr W1014).keep K1024).keep K1048).keep K1132).keep K1138)
           have ne1148 : G_DOWNSIDE ≠ b20 := (Nat.ne_of_lt (Nat.lt_of_lt_of_le E_G_DOWNSIDE.lt (Nat.le_trans (Nat.le_refl _) (Nat.le_of_eq g20.symm))))
           have ne1149 : G_DOWNSIDE ≠ b36 := (Nat.ne_of_lt (Nat.lt_of_lt_of_le E_G_DOWNSIDE.lt (Nat.le_trans le38 (Nat.le_of_eq g36.symm))))
           have ne1150 : G_DOWNSIDE ≠ b992 := (Nat.ne_of_lt (Nat.lt_of_lt_of_le E_G_DOWNSIDE.lt (Nat.le_trans le994 (Nat.le_of_eq g992.symm))))
           have ne1151 : G_DOWNSIDE ≠ b984 := (Nat.ne_of_lt (Nat.lt_of_lt_of_le E_G_DOWNSIDE.lt (Nat.le_trans le986 (Nat.le_of_eq g984.symm))))
           have f1152 : Fld Z T1138.heap G_DOWNSIDE kc3 "ordinal" "I" (.int (1 : Int32)) := (((((((((((((F_ordinal_G_DOWNSIDE.ext E20).keep K32 (ninS ne1148 nin0)).ext E36).keep K50 (ninS ne1149 nin0)).ext E984).ext E992).other W1000 (Or.inl ne1150)).other W1007 (Or.inl ne1150)).other W1014 (Or.inl ne1150)).keep K1024 (ninS ne1151 nin0)).keep K1048 (ninS ne1149 nin0)).keep K1132 (ninS ne1149 nin0)).keep K1138 (ninS ne1149 nin0))
           have ne1153 : G__SwitchMap_com_example_ringfence_ringfence_gate_Measure ≠ b20 := (Nat.ne_of_lt (Nat.lt_of_lt_of_le V_G__SwitchMap_com_example_ringfence_ringfence_gate_Measure.lt (Nat.le_trans (Nat.le_refl _) (Nat.le_of_eq g20.symm))))
           have ne1154 : G__SwitchMap_com_example_ringfence_ringfence_gate_Measure ≠ b36 := (Nat.ne_of_lt (Nat.lt_of_lt_of_le V_G__SwitchMap_com_example_ringfence_ringfence_gate_Measure.lt (Nat.le_trans le38 (Nat.le_of_eq g36.symm))))
           have ne1155 : G__SwitchMap_com_example_ringfence_ringfence_gate_Measure ≠ b992 := (Nat.ne_of_lt (Nat.lt_of_lt_of_le V_G__SwitchMap_com_example_ringfence_ringfence_gate_Measure.lt (Nat.le_trans le994 (Nat.le_of_eq g992.symm))))
           have ne1156 : G__SwitchMap_com_example_ringfence_ringfence_gate_Measure ≠ b984 := (Nat.ne_of_lt (Nat.lt_of_lt_of_le V_G__SwitchMap_com_example_ringfence_ringfence_gate_Measure.lt (Nat.le_trans le986 (Nat.le_of_eq g984.symm))))
           have f1157 : Arv Z T1138.heap G__SwitchMap_com_example_ringfence_ringfence_gate_Measure k_G__SwitchMap_com_example_ringfence_ringfence_gate_Measure .int (5 : Int32) [(.int (1 : Int32)), (.int (2 : Int32)), (.int (3 : Int32)), (.int (4 : Int32)), (.int (5 : Int32))] (.int (0 : Int32)) := (((((((((((((V_G__SwitchMap_com_example_ringfence_ringfence_gate_Measure.ext E20).keep K32 (ninS ne1153 nin0)).ext E36).keep K50 (ninS ne1154 nin0)).ext E984).ext E992).other W1000 ne1155).other W1007 ne1155).other W1014 ne1155).keep K1024 (ninS ne1156 nin0)).keep K1048 (ninS ne1154 nin0)).keep K1132 (ninS ne1154 nin0)).keep K1138 (ninS ne1154 nin0))
           obtain ⟨cq1158, kq1158, q1158a, q1158b, q1158c⟩ := isOf hZ e1146 g1138_0
           refine w_virtual X1146 hx (y := yn_10) (z := yn_10) hown (mvT hZ (wd_65 hw)) (mvT hZ (wd_66 hw)) (notFace_of_selects (args := #[]) (mvT hZ (wd_68 hw))) (mvT hZ (wd_68 hw)) (mvT hZ (wd_67 hw)) (by decide) (backOf (W := 0) (rm_m10_5 l Z aZ hw [] b36 G_DOWNSIDE G__SwitchMap_com_example_ringfence_ringfence_gate_Measure k_G__SwitchMap_com_example_ringfence_ringfence_gate_Measure G_ZERO T1138.heap n0 (Nat.le_trans Z0 le1142) g1138_1 S__SwitchMap_com_example_ringfence_ringfence_gate_Measure f1145 f1147 f1152 f1157 g1138_3) hZ (wd_69 hw) (wd_2 hw) (by decide) (by decide)) q1158a q1158c (by rw [hml]; rfl) [(.ref G_DOWNSIDE)] (lenOf pd_5 rfl) rfl (Nat.le_of_eq rfl) (hb hby at_188) (fun _ _ => ⟨rfl, e1146, (by decide : 5 + 0 ≤ _), (by decide : 22 + 0 ≤ _)⟩) (pc' := 191) rfl ?_
           rintro _ _ ⟨T1158, L1158, k1158, n1158⟩ X1158 ⟨Lc1158, hQ1158, l1158, y1158, z1158⟩
           dsimp only [Pt.U, Pt.locs, Pt.cells, Pt.slots] at X1158 l1158 y1158 z1158 hQ1158 ⊢
           subst l1158 y1158 z1158
           obtain ⟨rfl, N1158q, e1158⟩ := hQ1158
           have N1159 := Fr.app N1144 N1158q
           show Runs _ _ _ _ (T1158.setTop (mkF m 191 #[.val (.int p0), .val (.int p1), .val (.int p2), .val (.int p3), .val (.ref b20), .val (.ref b36), .val (.int ((p0 &&& (255 : Int32)).toUInt32.toUInt16.toUInt32.toInt32)), .val (.int ((p1 &&& (255 : Int32)).toUInt32.toUInt16.toUInt32.toInt32)), .val (.int ((p2 &&& (255 : Int32)).toUInt32.toUInt16.toUInt32.toInt32)), .val (.int (p3 &&& (3 : Int32))), .val (.ref b984), .val .null] [(.ref G_ZERO)]))
           refine w_aload X1158 hx (hb hby at_191) rfl rfl (pc' := 193) rfl ?_
           refine w_getS X1158 hx "" hZ hown (Or.inl (wd_82 hw)) Via.refl e1158 (S_UPSIDE.ext f1145.2) (hb hby at_193) (pc' := 196) rfl ?_
           intro T1160 X1160 e1160
           have f1162 : Exa Z T1138.heap G_UPSIDE kc4 := (((((((((((((E_G_UPSIDE.ext E20).keep K32).ext E36).keep K50).ext E984).ext E992).wr W1000).wr W1007).wr W1014).keep K1024).keep K1048).keep K1132).keep K1138)
           have ne1163 : G_UPSIDE ≠ b20 := (Nat.ne_of_lt (Nat.lt_of_lt_of_le E_G_UPSIDE.lt (Nat.le_trans (Nat.le_refl _) (Nat.le_of_eq g20.symm))))
           have ne1164 : G_UPSIDE ≠ b36 := (Nat.ne_of_lt (Nat.lt_of_lt_of_le E_G_UPSIDE.lt (Nat.le_trans le38 (Nat.le_of_eq g36.symm))))
           have ne1165 : G_UPSIDE ≠ b992 := (Nat.ne_of_lt (Nat.lt_of_lt_of_le E_G_UPSIDE.lt (Nat.le_trans le994 (Nat.le_of_eq g992.symm))))
           have ne1166 : G_UPSIDE ≠ b984 := (Nat.ne_of_lt (Nat.lt_of_lt_of_le E_G_UPSIDE.lt (Nat.le_trans le986 (Nat.le_of_eq g984.symm))))
           have f1167 : Fld Z T1138.heap G_UPSIDE kc3 "ordinal" "I" (.int (2 : Int32)) := (((((((((((((F_ordinal_G_UPSIDE.ext E20).keep K32 (ninS ne1163 nin0)).ext E36).keep K50 (ninS ne1164 nin0)).ext E984).ext E992).other W1000 (Or.inl ne1165)).other W1007 (Or.inl ne1165)).other W1014 (Or.inl ne1165)).keep K1024 (ninS ne1166 nin0)).keep K1048 (ninS ne1164 nin0)).keep K1132 (ninS ne1164 nin0)).keep K1138 (ninS ne1164 nin0))
           obtain ⟨cq1168, kq1168, q1168a, q1168b, q1168c⟩ := isOf hZ e1160 g1138_0
           refine w_virtual X1160 hx (y := yn_10) (z := yn_10) hown (mvT hZ (wd_65 hw)) (mvT hZ (wd_66 hw)) (notFace_of_selects (args := #[]) (mvT hZ (wd_68 hw))) (mvT hZ (wd_68 hw)) (mvT hZ (wd_67 hw)) (by decide) (backOf (W := 1) (rm_m10_7 l Z aZ hw [] b36 G_UPSIDE G__SwitchMap_com_example_ringfence_ringfence_gate_Measure k_G__SwitchMap_com_example_ringfence_ringfence_gate_Measure G_ZERO T1138.heap n0 (Nat.le_trans Z0 le1142) g1138_1 S__SwitchMap_com_example_ringfence_ringfence_gate_Measure f1145 f1162 f1167 f1157 g1138_4) hZ (wd_69 hw) (wd_2 hw) (by decide) (by decide)) q1168a q1168c (by rw [hml]; rfl) [(.ref G_UPSIDE)] (lenOf pd_5 rfl) rfl (Nat.le_of_eq rfl) (hb hby at_196) (fun _ _ => ⟨rfl, e1160, (by decide : 5 + 0 ≤ _), (by decide : 22 + 0 ≤ _)⟩) (pc' := 199) rfl ?_
           rintro _ _ ⟨T1168, L1168, k1168, n1168⟩ X1168 ⟨Lc1168, hQ1168, l1168, y1168, z1168⟩
           dsimp only [Pt.U, Pt.locs, Pt.cells, Pt.slots] at X1168 l1168 y1168 z1168 hQ1168 ⊢
           subst l1168 y1168 z1168
           obtain ⟨rfl, N1168q, e1168⟩ := hQ1168
           have N1169 := Fr.app N1159 N1168q
           show Runs _ _ _ _ (T1168.setTop (mkF m 199 #[.val (.int p0), .val (.int p1), .val (.int p2), .val (.int p3), .val (.ref b20), .val (.ref b36), .val (.int ((p0 &&& (255 : Int32)).toUInt32.toUInt16.toUInt32.toInt32)), .val (.int ((p1 &&& (255 : Int32)).toUInt32.toUInt16.toUInt32.toInt32)), .val (.int ((p2 &&& (255 : Int32)).toUInt32.toUInt16.toUInt32.toInt32)), .val (.int (p3 &&& (3 : Int32))), .val (.ref b984), .val .null] [(.ref G_ZERO), (.ref G_ZERO)]))
           refine w_acmp X1168 hx (hb hby at_199) (same := true) rfl rfl (decide_eq_true rfl) (pc' := 202) (by decide) (by decide) ?_
           refine w_aload X1168 hx (hb hby at_202) rfl rfl (pc' := 204) rfl ?_
           refine w_getS X1168 hx "" hZ hown (Or.inl (wd_82 hw)) Via.refl e1168 (S_UPSIDE.ext f1145.2) (hb hby at_204) (pc' := 207) rfl ?_
           intro T1170 X1170 e1170
           obtain ⟨cq1171, kq1171, q1171a, q1171b, q1171c⟩ := isOf hZ e1170 g1138_0
           refine w_virtual X1170 hx (y := yn_10) (z := yn_10) hown (mvT hZ (wd_65 hw)) (mvT hZ (wd_66 hw)) (notFace_of_selects (args := #[]) (mvT hZ (wd_68 hw))) (mvT hZ (wd_68 hw)) (mvT hZ (wd_67 hw)) (by decide) (backOf (W := 0) (rm_m10_7 l Z aZ hw [] b36 G_UPSIDE G__SwitchMap_com_example_ringfence_ringfence_gate_Measure k_G__SwitchMap_com_example_ringfence_ringfence_gate_Measure G_ZERO T1138.heap n0 (Nat.le_trans Z0 le1142) g1138_1 S__SwitchMap_com_example_ringfence_ringfence_gate_Measure f1145 f1162 f1167 f1157 g1138_4) hZ (wd_69 hw) (wd_2 hw) (by decide) (by decide)) q1171a q1171c (by rw [hml]; rfl) [(.ref G_UPSIDE)] (lenOf pd_5 rfl) rfl (Nat.le_of_eq rfl) (hb hby at_207) (fun _ _ => ⟨rfl, e1170, (by decide : 5 + 0 ≤ _), (by decide : 22 + 0 ≤ _)⟩) (pc' := 210) rfl ?_
           rintro _ _ ⟨T1171, L1171, k1171, n1171⟩ X1171 ⟨Lc1171, hQ1171, l1171, y1171, z1171⟩
           dsimp only [Pt.U, Pt.locs, Pt.cells, Pt.slots] at X1171 l1171 y1171 z1171 hQ1171 ⊢
           subst l1171 y1171 z1171
           obtain ⟨rfl, N1171q, e1171⟩ := hQ1171
           have N1172 := Fr.app N1169 N1171q
           show Runs _ _ _ _ (T1171.setTop (mkF m 210 #[.val (.int p0), .val (.int p1), .val (.int p2), .val (.int p3), .val (.ref b20), .val (.ref b36), .val (.int ((p0 &&& (255 : Int32)).toUInt32.toUInt16.toUInt32.toInt32)), .val (.int ((p1 &&& (255 : Int32)).toUInt32.toUInt16.toUInt32.toInt32)), .val (.int ((p2 &&& (255 : Int32)).toUInt32.toUInt16.toUInt32.toInt32)), .val (.int (p3 &&& (3 : Int32))), .val (.ref b984), .val .null] [(.ref G_ZERO)]))
           refine w_aload X1171 hx (hb hby at_210) rfl rfl (pc' := 212) rfl ?_
           refine w_getS X1171 hx "" hZ hown (Or.inl (wd_84 hw)) Via.refl e1171 (S_EXPOSURE.ext f1145.2) (hb hby at_212) (pc' := 215) rfl ?_
           intro T1173 X1173 e1173
           have f1176 : Exa Z T1138.heap G_EXPOSURE kc4 := (((((((((((((E_G_EXPOSURE.ext E20).keep K32).ext E36).keep K50).ext E984).ext E992).wr W1000).wr W1007).wr W1014).keep K1024).keep K1048).keep K1132).keep K1138)
           have ne1177 : G_EXPOSURE ≠ b20 := (Nat.ne_of_lt (Nat.lt_of_lt_of_le E_G_EXPOSURE.lt (Nat.le_trans (Nat.le_refl _) (Nat.le_of_eq g20.symm))))
           have ne1178 : G_EXPOSURE ≠ b36 := (Nat.ne_of_lt (Nat.lt_of_lt_of_le E_G_EXPOSURE.lt (Nat.le_trans le38 (Nat.le_of_eq g36.symm))))
           have ne1179 : G_EXPOSURE ≠ b992 := (Nat.ne_of_lt (Nat.lt_of_lt_of_le E_G_EXPOSURE.lt (Nat.le_trans le994 (Nat.le_of_eq g992.symm))))
           have ne1180 : G_EXPOSURE ≠ b984 := (Nat.ne_of_lt (Nat.lt_of_lt_of_le E_G_EXPOSURE.lt (Nat.le_trans le986 (Nat.le_of_eq g984.symm))))
           have f1181 : Fld Z T1138.heap G_EXPOSURE kc3 "ordinal" "I" (.int (3 : Int32)) := (((((((((((((F_ordinal_G_EXPOSURE.ext E20).keep K32 (ninS ne1177 nin0)).ext E36).keep K50 (ninS ne1178 nin0)).ext E984).ext E992).other W1000 (Or.inl ne1179)).other W1007 (Or.inl ne1179)).other W1014 (Or.inl ne1179)).keep K1024 (ninS ne1180 nin0)).keep K1048 (ninS ne1178 nin0)).keep K1132 (ninS ne1178 nin0)).keep K1138 (ninS ne1178 nin0))
           obtain ⟨cq1182, kq1182, q1182a, q1182b, q1182c⟩ := isOf hZ e1173 g1138_0
           refine w_virtual X1173 hx (y := yn_10) (z := yn_10) hown (mvT hZ (wd_65 hw)) (mvT hZ (wd_66 hw)) (notFace_of_selects (args := #[]) (mvT hZ (wd_68 hw))) (mvT hZ (wd_68 hw)) (mvT hZ (wd_67 hw)) (by decide) (backOf (W := 1) (rm_m10_9 l Z aZ hw [] b36 G_EXPOSURE G__SwitchMap_com_example_ringfence_ringfence_gate_Measure k_G__SwitchMap_com_example_ringfence_ringfence_gate_Measure G_ZERO T1138.heap n0 (Nat.le_trans Z0 le1142) g1138_1 S__SwitchMap_com_example_ringfence_ringfence_gate_Measure f1145 f1176 f1181 f1157 g1138_5) hZ (wd_69 hw) (wd_2 hw) (by decide) (by decide)) q1182a q1182c (by rw [hml]; rfl) [(.ref G_EXPOSURE)] (lenOf pd_5 rfl) rfl (Nat.le_of_eq rfl) (hb hby at_215) (fun _ _ => ⟨rfl, e1173, (by decide : 5 + 0 ≤ _), (by decide : 22 + 0 ≤ _)⟩) (pc' := 218) rfl ?_
           rintro _ _ ⟨T1182, L1182, k1182, n1182⟩ X1182 ⟨Lc1182, hQ1182, l1182, y1182, z1182⟩
           dsimp only [Pt.U, Pt.locs, Pt.cells, Pt.slots] at X1182 l1182 y1182 z1182 hQ1182 ⊢
           subst l1182 y1182 z1182
           obtain ⟨rfl, N1182q, e1182⟩ := hQ1182
           have N1183 := Fr.app N1172 N1182q
           show Runs _ _ _ _ (T1182.setTop (mkF m 218 #[.val (.int p0), .val (.int p1), .val (.int p2), .val (.int p3), .val (.ref b20), .val (.ref b36), .val (.int ((p0 &&& (255 : Int32)).toUInt32.toUInt16.toUInt32.toInt32)), .val (.int ((p1 &&& (255 : Int32)).toUInt32.toUInt16.toUInt32.toInt32)), .val (.int ((p2 &&& (255 : Int32)).toUInt32.toUInt16.toUInt32.toInt32)), .val (.int (p3 &&& (3 : Int32))), .val (.ref b984), .val .null] [(.ref G_ZERO), (.ref G_ZERO)]))
           refine w_acmp X1182 hx (hb hby at_218) (same := true) rfl rfl (decide_eq_true rfl) (pc' := 221) (by decide) (by decide) ?_
           refine w_aload X1182 hx (hb hby at_221) rfl rfl (pc' := 223) rfl ?_
           refine w_getS X1182 hx "" hZ hown (Or.inl (wd_84 hw)) Via.refl e1182 (S_EXPOSURE.ext f1145.2) (hb hby at_223) (pc' := 226) rfl ?_
           intro T1184 X1184 e1184
           obtain ⟨cq1185, kq1185, q1185a, q1185b, q1185c⟩ := isOf hZ e1184 g1138_0
           refine w_virtual X1184 hx (y := yn_10) (z := yn_10) hown (mvT hZ (wd_65 hw)) (mvT hZ (wd_66 hw)) (notFace_of_selects (args := #[]) (mvT hZ (wd_68 hw))) (mvT hZ (wd_68 hw)) (mvT hZ (wd_67 hw)) (by decide) (backOf (W := 0) (rm_m10_9 l Z aZ hw [] b36 G_EXPOSURE G__SwitchMap_com_example_ringfence_ringfence_gate_Measure k_G__SwitchMap_com_example_ringfence_ringfence_gate_Measure G_ZERO T1138.heap n0 (Nat.le_trans Z0 le1142) g1138_1 S__SwitchMap_com_example_ringfence_ringfence_gate_Measure f1145 f1176 f1181 f1157 g1138_5) hZ (wd_69 hw) (wd_2 hw) (by decide) (by decide)) q1185a q1185c (by rw [hml]; rfl) [(.ref G_EXPOSURE)] (lenOf pd_5 rfl) rfl (Nat.le_of_eq rfl) (hb hby at_226) (fun _ _ => ⟨rfl, e1184, (by decide : 5 + 0 ≤ _), (by decide : 22 + 0 ≤ _)⟩) (pc' := 229) rfl ?_
           rintro _ _ ⟨T1185, L1185, k1185, n1185⟩ X1185 ⟨Lc1185, hQ1185, l1185, y1185, z1185⟩
           dsimp only [Pt.U, Pt.locs, Pt.cells, Pt.slots] at X1185 l1185 y1185 z1185 hQ1185 ⊢
           subst l1185 y1185 z1185
           obtain ⟨rfl, N1185q, e1185⟩ := hQ1185
           have N1186 := Fr.app N1183 N1185q
           show Runs _ _ _ _ (T1185.setTop (mkF m 229 #[.val (.int p0), .val (.int p1), .val (.int p2), .val (.int p3), .val (.ref b20), .val (.ref b36), .val (.int ((p0 &&& (255 : Int32)).toUInt32.toUInt16.toUInt32.toInt32)), .val (.int ((p1 &&& (255 : Int32)).toUInt32.toUInt16.toUInt32.toInt32)), .val (.int ((p2 &&& (255 : Int32)).toUInt32.toUInt16.toUInt32.toInt32)), .val (.int (p3 &&& (3 : Int32))), .val (.ref b984), .val .null] [(.ref G_ZERO)]))
           refine w_aload X1185 hx (hb hby at_229) rfl rfl (pc' := 231) rfl ?_
           refine w_getS X1185 hx "" hZ hown (Or.inl (wd_84 hw)) Via.refl e1185 (S_EXPOSURE.ext f1145.2) (hb hby at_231) (pc' := 234) rfl ?_
           intro T1187 X1187 e1187
           have ne1202 : b20 ≠ b36 := (Nat.ne_of_lt (Nat.lt_of_lt_of_le A20.lt (Nat.le_trans K32.1 (Nat.le_of_eq g36.symm))))
           have le1203 : h20.size ≤ h36.size := (Nat.le_trans K32.1 E36.1)
           have le1204 : h20.size ≤ T50.heap.size := (Nat.le_trans le1203 K50.1)
           have le1205 : h20.size ≤ h984.size := (Nat.le_trans le1204 E984.1)
           have ne1206 : b20 ≠ b992 := (Nat.ne_of_lt (Nat.lt_of_lt_of_le A20.lt (Nat.le_trans le1205 (Nat.le_of_eq g992.symm))))
           have ne1207 : b20 ≠ b984 := (Nat.ne_of_lt (Nat.lt_of_lt_of_le A20.lt (Nat.le_trans le1204 (Nat.le_of_eq g984.symm))))
           have f1208 : Fld Z T1138.heap b20 kc0 "unrated" "Ljava/lang/String;" .null := (((((((((((g32_6.ext E36).keep K50 (ninS ne1202 nin0)).ext E984).ext E992).other W1000 (Or.inl ne1206)).other W1007 (Or.inl ne1206)).other W1014 (Or.inl ne1206)).keep K1024 (ninS ne1207 nin0)).keep K1048 (ninS ne1202 nin0)).keep K1132 (ninS ne1202 nin0)).keep K1138 (ninS ne1202 nin0))
           have f1209 : Fld Z T1138.heap b20 kc0 "exposure" "Ljava/math/BigDecimal;" (.ref G_ZERO) := (((((((((((g32_4.ext E36).keep K50 (ninS ne1202 nin0)).ext E984).ext E992).other W1000 (Or.inl ne1206)).other W1007 (Or.inl ne1206)).other W1014 (Or.inl ne1206)).keep K1024 (ninS ne1207 nin0)).keep K1048 (ninS ne1202 nin0)).keep K1132 (ninS ne1202 nin0)).keep K1138 (ninS ne1202 nin0))
           have f1211 : Exa Z T1138.heap b20 kc0 := (((((((((((g32_0.ext E36).keep K50).ext E984).ext E992).wr W1000).wr W1007).wr W1014).keep K1024).keep K1048).keep K1132).keep K1138)
           obtain ⟨cq1210, kq1210, q1210a, q1210b, q1210c⟩ := isOf hZ e1187 f1211
           refine w_virtual X1187 hx (y := yn_10) (z := yn_10) hown (mvT hZ (wd_65 hw)) (mvT hZ (wd_66 hw)) (notFace_of_selects (args := #[]) (mvT hZ (wd_68 hw))) (mvT hZ (wd_68 hw)) (mvT hZ (wd_67 hw)) (by decide) (backOf (W := 1) (rm_m10_9 l Z aZ hw [] b20 G_EXPOSURE G__SwitchMap_com_example_ringfence_ringfence_gate_Measure k_G__SwitchMap_com_example_ringfence_ringfence_gate_Measure G_ZERO T1138.heap n0 (Nat.le_trans Z0 le1142) f1208 S__SwitchMap_com_example_ringfence_ringfence_gate_Measure f1145 f1176 f1181 f1157 f1209) hZ (wd_69 hw) (wd_2 hw) (by decide) (by decide)) q1210a q1210c (by rw [hml]; rfl) [(.ref G_EXPOSURE)] (lenOf pd_5 rfl) rfl (Nat.le_of_eq rfl) (hb hby at_234) (fun _ _ => ⟨rfl, e1187, (by decide : 5 + 0 ≤ _), (by decide : 22 + 0 ≤ _)⟩) (pc' := 237) rfl ?_
           rintro _ _ ⟨T1210, L1210, k1210, n1210⟩ X1210 ⟨Lc1210, hQ1210, l1210, y1210, z1210⟩
           dsimp only [Pt.U, Pt.locs, Pt.cells, Pt.slots] at X1210 l1210 y1210 z1210 hQ1210 ⊢
           subst l1210 y1210 z1210
           obtain ⟨rfl, N1210q, e1210⟩ := hQ1210
           have N1212 := Fr.app N1186 N1210q
           show Runs _ _ _ _ (T1210.setTop (mkF m 237 #[.val (.int p0), .val (.int p1), .val (.int p2), .val (.int p3), .val (.ref b20), .val (.ref b36), .val (.int ((p0 &&& (255 : Int32)).toUInt32.toUInt16.toUInt32.toInt32)), .val (.int ((p1 &&& (255 : Int32)).toUInt32.toUInt16.toUInt32.toInt32)), .val (.int ((p2 &&& (255 : Int32)).toUInt32.toUInt16.toUInt32.toInt32)), .val (.int (p3 &&& (3 : Int32))), .val (.ref b984), .val .null] [(.ref G_ZERO), (.ref G_ZERO)]))
           refine w_acmp X1210 hx (hb hby at_237) (same := true) rfl rfl (decide_eq_true rfl) (pc' := 240) (by decide) (by decide) ?_
           refine w_iconst X1210 hx (hb hby at_240) (v := (1 : Int32)) rfl (pc' := 241) rfl ?_
           refine w_goto X1210 hx (hb hby at_241) (pc' := 245) (by decide) (by decide) ?_
           exact w_doneH X1210 hlk (v := some (.int (1 : Int32))) e1210 hh hZ (own_EW hw) hS0 (Nat.le_trans (Nat.le_refl _) le1142) C1140 (fun h => by rw [hret] at h; cases h) (fun fs hr => retN X1210 hx (t := .boolean) hret (by simp) (hb hby at_245) hr) (by decide) (by decide) (fun hsy => ⟨rfl, N1212⟩)
       · refine w_ifN X1024 hx (hb hby at_140) (feq hc1036).1 (pc' := 143) rfl ?_
         refine w_aload X1024 hx (hb hby at_143) rfl rfl (pc' := 145) rfl ?_
         refine w_goto X1024 hx (hb hby at_145) (pc' := 149) (by decide) (by decide) ?_
         refine w_astore X1024 hx (hb hby at_149) rfl (L' := #[.val (.int p0), .val (.int p1), .val (.int p2), .val (.int p3), .val (.ref b20), .val (.ref b36), .val (.int ((p0 &&& (255 : Int32)).toUInt32.toUInt16.toUInt32.toInt32)), .val (.int ((p1 &&& (255 : Int32)).toUInt32.toUInt16.toUInt32.toInt32)), .val (.int ((p2 &&& (255 : Int32)).toUInt32.toUInt16.toUInt32.toInt32)), .val (.int (p3 &&& (3 : Int32))), .val (.ref b984), .val (.ref b984)]) rfl (pc' := 151) rfl ?_
         refine w_aload X1024 hx (hb hby at_151) rfl rfl (pc' := 153) rfl ?_
         refine w_aload X1024 hx (hb hby at_153) rfl rfl (pc' := 155) rfl ?_
         have f1213 : Exa Z T1024.heap b36 kc0 := ((((((g50_0.ext E984).ext E992).wr W1000).wr W1007).wr W1014).keep K1024)
         have le1214 : h36.size ≤ h984.size := (Nat.le_trans K50.1 E984.1)
         have ne1215 : b36 ≠ b992 := (Nat.ne_of_lt (Nat.lt_of_lt_of_le A36.lt (Nat.le_trans le1214 (Nat.le_of_eq g992.symm))))
         have ne1216 : b36 ≠ b984 := (Nat.ne_of_lt (Nat.lt_of_lt_of_le A36.lt (Nat.le_trans K50.1 (Nat.le_of_eq g984.symm))))
         have f1217 : Fld Z T1024.heap b36 kc0 "unrated" "Ljava/lang/String;" .null := ((((((g50_6.ext E984).ext E992).other W1000 (Or.inl ne1215)).other W1007 (Or.inl ne1215)).other W1014 (Or.inl ne1215)).keep K1024 (ninS ne1216 nin0))
         have f1218 : Fld Z T1024.heap b36 kc0 "open" "Ljava/math/BigDecimal;" (.ref G_ZERO) := ((((((g50_1.ext E984).ext E992).other W1000 (Or.inl ne1215)).other W1007 (Or.inl ne1215)).other W1014 (Or.inl ne1215)).keep K1024 (ninS ne1216 nin0))
         have f1219 : Fld Z T1024.heap b36 kc0 "downside" "Ljava/math/BigDecimal;" (.ref G_ZERO) := ((((((g50_2.ext E984).ext E992).other W1000 (Or.inl ne1215)).other W1007 (Or.inl ne1215)).other W1014 (Or.inl ne1215)).keep K1024 (ninS ne1216 nin0))
         have f1220 : Fld Z T1024.heap b36 kc0 "upside" "Ljava/math/BigDecimal;" (.ref G_ZERO) := ((((((g50_3.ext E984).ext E992).other W1000 (Or.inl ne1215)).other W1007 (Or.inl ne1215)).other W1014 (Or.inl ne1215)).keep K1024 (ninS ne1216 nin0))
         have f1221 : Fld Z T1024.heap b36 kc0 "exposure" "Ljava/math/BigDecimal;" (.ref G_ZERO) := ((((((g50_4.ext E984).ext E992).other W1000 (Or.inl ne1215)).other W1007 (Or.inl ne1215)).other W1014 (Or.inl ne1215)).keep K1024 (ninS ne1216 nin0))
         have f1222 : Fld Z T1024.heap b36 kc0 "pool" "Lcom/example/ringfence/ringfence/gate/Pool;" .null := ((((((g50_5.ext E984).ext E992).other W1000 (Or.inl ne1215)).other W1007 (Or.inl ne1215)).other W1014 (Or.inl ne1215)).keep K1024 (ninS ne1216 nin0))
         have le1223 : h0.size ≤ T1024.heap.size := (Nat.le_trans le1023 K1024.1)
         obtain ⟨cq1224, kq1224, q1224a, q1224b, q1224c⟩ := isOf hZ rfl f1213
         refine w_virtual X1024 hx (y := yn_7) (z := yn_7) hown (mvT hZ (wd_45 hw)) (mvT hZ (wd_46 hw)) (notFace_of_selects (args := #[]) (mvT hZ (wd_48 hw))) (mvT hZ (wd_48 hw)) (mvT hZ (wd_47 hw)) (by decide) (backOf (W := 0) (rm_m7_11 l Z aZ hw [] b36 b984 G_ZERO T1024.heap n0 (Nat.le_trans Z0 le1223) f1213 f1217 ge37 f1218 f1219 f1220 f1221 f1222) hZ (wd_49 hw) (wd_2 hw) (by decide) (by decide)) q1224a q1224c (by rw [hml]; rfl) [(.ref b984)] (lenOf pd_1 rfl) rfl (Nat.le_of_eq rfl) (hb hby at_155) (fun _ _ => ⟨rfl, rfl, (by decide : 5 + 0 ≤ _), (by decide : 22 + 0 ≤ _)⟩) (pc' := 158) rfl ?_
         rintro _ _ ⟨T1224, L1224, k1224, n1224⟩ X1224 ⟨Lc1224, hQ1224, l1224, y1224, z1224⟩
         dsimp only [Pt.U, Pt.locs, Pt.cells, Pt.slots] at X1224 l1224 y1224 z1224 hQ1224 ⊢
         subst l1224 y1224 z1224
         obtain ⟨rfl, N1224q, K1224, g1224_0, g1224_1, g1224_2, g1224_3, g1224_4, g1224_5, g1224_6⟩ := hQ1224
         have N1225 := Fr.app N1030 N1224q
         have C1226 : CHr Z EL s.vm h0 s.vm T1224.heap := C1032.trans (CHr.keep K1224 (sfS (Safe.exa hZ.alike f1213 (by decide) (by decide)) sf0) C1032.1)
         have K1227 : Keep h0 T1224.heap [] := K1033.trans K1224 (allS (Or.inr sz39) (all0 (P := fun x => x ∈ [] ∨ h0.size ≤ x)))
         show Runs _ _ _ _ (T1224.setTop (mkF m 158 #[.val (.int p0), .val (.int p1), .val (.int p2), .val (.int p3), .val (.ref b20), .val (.ref b36), .val (.int ((p0 &&& (255 : Int32)).toUInt32.toUInt16.toUInt32.toInt32)), .val (.int ((p1 &&& (255 : Int32)).toUInt32.toUInt16.toUInt32.toInt32)), .val (.int ((p2 &&& (255 : Int32)).toUInt32.toUInt16.toUInt32.toInt32)), .val (.int (p3 &&& (3 : Int32))), .val (.ref b984), .val (.ref b984)] []))
         refine w_iloadN X1224 hx (hb hby at_158) rfl (pc' := 159) rfl ?_
         refine w_bipush X1224 hx (hb hby at_159) (v := (8 : Int32)) rfl (pc' := 161) rfl ?_
         refine w_iand X1224 hx (hb hby at_161) (pc' := 162) rfl ?_
         by_cases hc1228 : (p3 &&& (8 : Int32)) = (0 : Int32)
         · refine w_ifY X1224 hx (hb hby at_162) (teq hc1228).1 (pc' := 170) (by decide) (by decide) ?_
           refine w_aload X1224 hx (hb hby at_170) rfl rfl (pc' := 172) rfl ?_
           have f1229 : Old Z n0 T1224.heap := ((f1029.keep K1024 (allS ge985 all0)).keep K1224 (allS ge37 all0))
           have le1230 : h0.size ≤ T1224.heap.size := (Nat.le_trans le1223 K1224.1)
           obtain ⟨cq1231, kq1231, q1231a, q1231b, q1231c⟩ := isOf hZ rfl g1224_0
           refine w_virtual X1224 hx (y := yn_8) (z := yn_8) hown (mvT hZ (wd_52 hw)) (mvT hZ (wd_53 hw)) (notFace_of_selects (args := #[]) (mvT hZ (wd_55 hw))) (mvT hZ (wd_55 hw)) (mvT hZ (wd_54 hw)) (by decide) (backOf (W := 0) (rm_m8_12 l Z aZ hw [] b36 b984 G_ZERO T1224.heap n0 (Nat.le_trans Z0 le1230) g1224_0 g1224_1 ge37 S_ZERO f1229 g1224_2 g1224_3 g1224_4 g1224_5 g1224_6) hZ (wd_56 hw) (wd_2 hw) (by decide) (by decide)) q1231a q1231c (by rw [hml]; rfl) [] (lenOf pd_2 rfl) rfl (Nat.le_of_eq rfl) (hb hby at_172) (fun _ _ => ⟨rfl, rfl, (by decide : 5 + 0 ≤ _), (by decide : 22 + 0 ≤ _)⟩) (pc' := 175) rfl ?_
           rintro _ _ ⟨T1231, L1231, k1231, n1231⟩ X1231 ⟨Lc1231, hQ1231, l1231, y1231, z1231⟩
           dsimp only [Pt.U, Pt.locs, Pt.cells, Pt.slots] at X1231 l1231 y1231 z1231 hQ1231 ⊢
           subst l1231 y1231 z1231
           obtain ⟨rfl, N1231q, K1231, g1231_0, g1231_1, g1231_2, g1231_3, g1231_4, g1231_5, g1231_6⟩ := hQ1231
           have N1232 := Fr.app N1225 N1231q
           have C1233 : CHr Z EL s.vm h0 s.vm T1231.heap := C1226.trans (CHr.keep K1231 (sfS (Safe.exa hZ.alike g1224_0 (by decide) (by decide)) sf0) C1226.1)
           have K1234 : Keep h0 T1231.heap [] := K1227.trans K1231 (allS (Or.inr sz39) (all0 (P := fun x => x ∈ [] ∨ h0.size ≤ x)))
           show Runs _ _ _ _ (T1231.setTop (mkF m 175 #[.val (.int p0), .val (.int p1), .val (.int p2), .val (.int p3), .val (.ref b20), .val (.ref b36), .val (.int ((p0 &&& (255 : Int32)).toUInt32.toUInt16.toUInt32.toInt32)), .val (.int ((p1 &&& (255 : Int32)).toUInt32.toUInt16.toUInt32.toInt32)), .val (.int ((p2 &&& (255 : Int32)).toUInt32.toUInt16.toUInt32.toInt32)), .val (.int (p3 &&& (3 : Int32))), .val (.ref b984), .val (.ref b984)] []))
           refine w_aload X1231 hx (hb hby at_175) rfl rfl (pc' := 177) rfl ?_
           have le1235 : h0.size ≤ T1231.heap.size := (Nat.le_trans le1230 K1231.1)
           obtain ⟨cq1236, kq1236, q1236a, q1236b, q1236c⟩ := isOf hZ rfl g1231_0
           refine w_virtual X1231 hx (y := yn_9) (z := yn_9) hown (mvT hZ (wd_57 hw)) (mvT hZ (wd_58 hw)) (notFace_of_selects (args := #[]) (mvT hZ (wd_60 hw))) (mvT hZ (wd_60 hw)) (mvT hZ (wd_59 hw)) (by decide) (backOf (W := 0) (rm_m9_4 l Z aZ hw [] b36 T1231.heap n0 (Nat.le_trans Z0 le1235) g1231_1) hZ (wd_61 hw) (wd_2 hw) (by decide) (by decide)) q1236a q1236c (by rw [hml]; rfl) [] (lenOf pd_3 rfl) rfl (Nat.le_of_eq rfl) (hb hby at_177) (fun _ _ => ⟨rfl, rfl, (by decide : 5 + 0 ≤ _), (by decide : 22 + 0 ≤ _)⟩) (pc' := 180) rfl ?_
           rintro _ _ ⟨T1236, L1236, k1236, n1236⟩ X1236 ⟨Lc1236, hQ1236, l1236, y1236, z1236⟩
           dsimp only [Pt.U, Pt.locs, Pt.cells, Pt.slots] at X1236 l1236 y1236 z1236 hQ1236 ⊢
           subst l1236 y1236 z1236
           obtain ⟨rfl, N1236q, e1236⟩ := hQ1236
           have N1237 := Fr.app N1232 N1236q
           show Runs _ _ _ _ (T1236.setTop (mkF m 180 #[.val (.int p0), .val (.int p1), .val (.int p2), .val (.int p3), .val (.ref b20), .val (.ref b36), .val (.int ((p0 &&& (255 : Int32)).toUInt32.toUInt16.toUInt32.toInt32)), .val (.int ((p1 &&& (255 : Int32)).toUInt32.toUInt16.toUInt32.toInt32)), .val (.int ((p2 &&& (255 : Int32)).toUInt32.toUInt16.toUInt32.toInt32)), .val (.int (p3 &&& (3 : Int32))), .val (.ref b984), .val (.ref b984)] [.null]))
           refine w_ifnonnullN X1236 hx (hb hby at_180) (pc' := 183) rfl ?_
           refine w_aload X1236 hx (hb hby at_183) rfl rfl (pc' := 185) rfl ?_
           have f1238 : Old Z n0 T1231.heap := (f1229.keep K1231 (allS ge37 all0))
           refine w_getS X1236 hx "" hZ hown (Or.inl (wd_62 hw)) Via.refl e1236 (S_DOWNSIDE.ext f1238.2) (hb hby at_185) (pc' := 188) rfl ?_
           intro T1239 X1239 e1239
           have f1240 : Exa Z T1231.heap G_DOWNSIDE kc4 := ((((((((((((E_G_DOWNSIDE.ext E20).keep K32).ext E36).keep K50).ext E984).ext E992).wr W1000).wr W1007).wr W1014).keep K1024).keep K1224).keep K1231)
           have ne1241 : G_DOWNSIDE ≠ b20 := (Nat.ne_of_lt (Nat.lt_of_lt_of_le E_G_DOWNSIDE.lt (Nat.le_trans (Nat.le_refl _) (Nat.le_of_eq g20.symm))))
           have ne1242 : G_DOWNSIDE ≠ b36 := (Nat.ne_of_lt (Nat.lt_of_lt_of_le E_G_DOWNSIDE.lt (Nat.le_trans le38 (Nat.le_of_eq g36.symm))))
           have ne1243 : G_DOWNSIDE ≠ b992 := (Nat.ne_of_lt (Nat.lt_of_lt_of_le E_G_DOWNSIDE.lt (Nat.le_trans le994 (Nat.le_of_eq g992.symm))))
           have ne1244 : G_DOWNSIDE ≠ b984 := (Nat.ne_of_lt (Nat.lt_of_lt_of_le E_G_DOWNSIDE.lt (Nat.le_trans le986 (Nat.le_of_eq g984.symm))))
           have f1245 : Fld Z T1231.heap G_DOWNSIDE kc3 "ordinal" "I" (.int (1 : Int32)) := ((((((((((((F_ordinal_G_DOWNSIDE.ext E20).keep K32 (ninS ne1241 nin0)).ext E36).keep K50 (ninS ne1242 nin0)).ext E984).ext E992).other W1000 (Or.inl ne1243)).other W1007 (Or.inl ne1243)).other W1014 (Or.inl ne1243)).keep K1024 (ninS ne1244 nin0)).keep K1224 (ninS ne1242 nin0)).keep K1231 (ninS ne1242 nin0))
           have ne1246 : G__SwitchMap_com_example_ringfence_ringfence_gate_Measure ≠ b20 := (Nat.ne_of_lt (Nat.lt_of_lt_of_le V_G__SwitchMap_com_example_ringfence_ringfence_gate_Measure.lt (Nat.le_trans (Nat.le_refl _) (Nat.le_of_eq g20.symm))))
           have ne1247 : G__SwitchMap_com_example_ringfence_ringfence_gate_Measure ≠ b36 := (Nat.ne_of_lt (Nat.lt_of_lt_of_le V_G__SwitchMap_com_example_ringfence_ringfence_gate_Measure.lt (Nat.le_trans le38 (Nat.le_of_eq g36.symm))))
           have ne1248 : G__SwitchMap_com_example_ringfence_ringfence_gate_Measure ≠ b992 := (Nat.ne_of_lt (Nat.lt_of_lt_of_le V_G__SwitchMap_com_example_ringfence_ringfence_gate_Measure.lt (Nat.le_trans le994 (Nat.le_of_eq g992.symm))))
           have ne1249 : G__SwitchMap_com_example_ringfence_ringfence_gate_Measure ≠ b984 := (Nat.ne_of_lt (Nat.lt_of_lt_of_le V_G__SwitchMap_com_example_ringfence_ringfence_gate_Measure.lt (Nat.le_trans le986 (Nat.le_of_eq g984.symm))))
           have f1250 : Arv Z T1231.heap G__SwitchMap_com_example_ringfence_ringfence_gate_Measure k_G__SwitchMap_com_example_ringfence_ringfence_gate_Measure .int (5 : Int32) [(.int (1 : Int32)), (.int (2 : Int32)), (.int (3 : Int32)), (.int (4 : Int32)), (.int (5 : Int32))] (.int (0 : Int32)) := ((((((((((((V_G__SwitchMap_com_example_ringfence_ringfence_gate_Measure.ext E20).keep K32 (ninS ne1246 nin0)).ext E36).keep K50 (ninS ne1247 nin0)).ext E984).ext E992).other W1000 ne1248).other W1007 ne1248).other W1014 ne1248).keep K1024 (ninS ne1249 nin0)).keep K1224 (ninS ne1247 nin0)).keep K1231 (ninS ne1247 nin0))
           obtain ⟨cq1251, kq1251, q1251a, q1251b, q1251c⟩ := isOf hZ e1239 g1231_0
           refine w_virtual X1239 hx (y := yn_10) (z := yn_10) hown (mvT hZ (wd_65 hw)) (mvT hZ (wd_66 hw)) (notFace_of_selects (args := #[]) (mvT hZ (wd_68 hw))) (mvT hZ (wd_68 hw)) (mvT hZ (wd_67 hw)) (by decide) (backOf (W := 0) (rm_m10_5 l Z aZ hw [] b36 G_DOWNSIDE G__SwitchMap_com_example_ringfence_ringfence_gate_Measure k_G__SwitchMap_com_example_ringfence_ringfence_gate_Measure G_ZERO T1231.heap n0 (Nat.le_trans Z0 le1235) g1231_1 S__SwitchMap_com_example_ringfence_ringfence_gate_Measure f1238 f1240 f1245 f1250 g1231_3) hZ (wd_69 hw) (wd_2 hw) (by decide) (by decide)) q1251a q1251c (by rw [hml]; rfl) [(.ref G_DOWNSIDE)] (lenOf pd_5 rfl) rfl (Nat.le_of_eq rfl) (hb hby at_188) (fun _ _ => ⟨rfl, e1239, (by decide : 5 + 0 ≤ _), (by decide : 22 + 0 ≤ _)⟩) (pc' := 191) rfl ?_
           rintro _ _ ⟨T1251, L1251, k1251, n1251⟩ X1251 ⟨Lc1251, hQ1251, l1251, y1251, z1251⟩
           dsimp only [Pt.U, Pt.locs, Pt.cells, Pt.slots] at X1251 l1251 y1251 z1251 hQ1251 ⊢
           subst l1251 y1251 z1251
           obtain ⟨rfl, N1251q, e1251⟩ := hQ1251
           have N1252 := Fr.app N1237 N1251q
           show Runs _ _ _ _ (T1251.setTop (mkF m 191 #[.val (.int p0), .val (.int p1), .val (.int p2), .val (.int p3), .val (.ref b20), .val (.ref b36), .val (.int ((p0 &&& (255 : Int32)).toUInt32.toUInt16.toUInt32.toInt32)), .val (.int ((p1 &&& (255 : Int32)).toUInt32.toUInt16.toUInt32.toInt32)), .val (.int ((p2 &&& (255 : Int32)).toUInt32.toUInt16.toUInt32.toInt32)), .val (.int (p3 &&& (3 : Int32))), .val (.ref b984), .val (.ref b984)] [(.ref G_ZERO)]))
           refine w_aload X1251 hx (hb hby at_191) rfl rfl (pc' := 193) rfl ?_
           refine w_getS X1251 hx "" hZ hown (Or.inl (wd_82 hw)) Via.refl e1251 (S_UPSIDE.ext f1238.2) (hb hby at_193) (pc' := 196) rfl ?_
           intro T1253 X1253 e1253
           have f1255 : Exa Z T1231.heap G_UPSIDE kc4 := ((((((((((((E_G_UPSIDE.ext E20).keep K32).ext E36).keep K50).ext E984).ext E992).wr W1000).wr W1007).wr W1014).keep K1024).keep K1224).keep K1231)
           have ne1256 : G_UPSIDE ≠ b20 := (Nat.ne_of_lt (Nat.lt_of_lt_of_le E_G_UPSIDE.lt (Nat.le_trans (Nat.le_refl _) (Nat.le_of_eq g20.symm))))
           have ne1257 : G_UPSIDE ≠ b36 := (Nat.ne_of_lt (Nat.lt_of_lt_of_le E_G_UPSIDE.lt (Nat.le_trans le38 (Nat.le_of_eq g36.symm))))
           have ne1258 : G_UPSIDE ≠ b992 := (Nat.ne_of_lt (Nat.lt_of_lt_of_le E_G_UPSIDE.lt (Nat.le_trans le994 (Nat.le_of_eq g992.symm))))
           have ne1259 : G_UPSIDE ≠ b984 := (Nat.ne_of_lt (Nat.lt_of_lt_of_le E_G_UPSIDE.lt (Nat.le_trans le986 (Nat.le_of_eq g984.symm))))
           have f1260 : Fld Z T1231.heap G_UPSIDE kc3 "ordinal" "I" (.int (2 : Int32)) := ((((((((((((F_ordinal_G_UPSIDE.ext E20).keep K32 (ninS ne1256 nin0)).ext E36).keep K50 (ninS ne1257 nin0)).ext E984).ext E992).other W1000 (Or.inl ne1258)).other W1007 (Or.inl ne1258)).other W1014 (Or.inl ne1258)).keep K1024 (ninS ne1259 nin0)).keep K1224 (ninS ne1257 nin0)).keep K1231 (ninS ne1257 nin0))
           obtain ⟨cq1261, kq1261, q1261a, q1261b, q1261c⟩ := isOf hZ e1253 g1231_0
           refine w_virtual X1253 hx (y := yn_10) (z := yn_10) hown (mvT hZ (wd_65 hw)) (mvT hZ (wd_66 hw)) (notFace_of_selects (args := #[]) (mvT hZ (wd_68 hw))) (mvT hZ (wd_68 hw)) (mvT hZ (wd_67 hw)) (by decide) (backOf (W := 1) (rm_m10_7 l Z aZ hw [] b36 G_UPSIDE G__SwitchMap_com_example_ringfence_ringfence_gate_Measure k_G__SwitchMap_com_example_ringfence_ringfence_gate_Measure G_ZERO T1231.heap n0 (Nat.le_trans Z0 le1235) g1231_1 S__SwitchMap_com_example_ringfence_ringfence_gate_Measure f1238 f1255 f1260 f1250 g1231_4) hZ (wd_69 hw) (wd_2 hw) (by decide) (by decide)) q1261a q1261c (by rw [hml]; rfl) [(.ref G_UPSIDE)] (lenOf pd_5 rfl) rfl (Nat.le_of_eq rfl) (hb hby at_196) (fun _ _ => ⟨rfl, e1253, (by decide : 5 + 0 ≤ _), (by decide : 22 + 0 ≤ _)⟩) (pc' := 199) rfl ?_
           rintro _ _ ⟨T1261, L1261, k1261, n1261⟩ X1261 ⟨Lc1261, hQ1261, l1261, y1261, z1261⟩
           dsimp only [Pt.U, Pt.locs, Pt.cells, Pt.slots] at X1261 l1261 y1261 z1261 hQ1261 ⊢
           subst l1261 y1261 z1261
           obtain ⟨rfl, N1261q, e1261⟩ := hQ1261
           have N1262 := Fr.app N1252 N1261q
           show Runs _ _ _ _ (T1261.setTop (mkF m 199 #[.val (.int p0), .val (.int p1), .val (.int p2), .val (.int p3), .val (.ref b20), .val (.ref b36), .val (.int ((p0 &&& (255 : Int32)).toUInt32.toUInt16.toUInt32.toInt32)), .val (.int ((p1 &&& (255 : Int32)).toUInt32.toUInt16.toUInt32.toInt32)), .val (.int ((p2 &&& (255 : Int32)).toUInt32.toUInt16.toUInt32.toInt32)), .val (.int (p3 &&& (3 : Int32))), .val (.ref b984), .val (.ref b984)] [(.ref G_ZERO), (.ref G_ZERO)]))
           refine w_acmp X1261 hx (hb hby at_199) (same := true) rfl rfl (decide_eq_true rfl) (pc' := 202) (by decide) (by decide) ?_
           refine w_aload X1261 hx (hb hby at_202) rfl rfl (pc' := 204) rfl ?_
           refine w_getS X1261 hx "" hZ hown (Or.inl (wd_82 hw)) Via.refl e1261 (S_UPSIDE.ext f1238.2) (hb hby at_204) (pc' := 207) rfl ?_
           intro T1263 X1263 e1263
           obtain ⟨cq1264, kq1264, q1264a, q1264b, q1264c⟩ := isOf hZ e1263 g1231_0
           refine w_virtual X1263 hx (y := yn_10) (z := yn_10) hown (mvT hZ (wd_65 hw)) (mvT hZ (wd_66 hw)) (notFace_of_selects (args := #[]) (mvT hZ (wd_68 hw))) (mvT hZ (wd_68 hw)) (mvT hZ (wd_67 hw)) (by decide) (backOf (W := 0) (rm_m10_7 l Z aZ hw [] b36 G_UPSIDE G__SwitchMap_com_example_ringfence_ringfence_gate_Measure k_G__SwitchMap_com_example_ringfence_ringfence_gate_Measure G_ZERO T1231.heap n0 (Nat.le_trans Z0 le1235) g1231_1 S__SwitchMap_com_example_ringfence_ringfence_gate_Measure f1238 f1255 f1260 f1250 g1231_4) hZ (wd_69 hw) (wd_2 hw) (by decide) (by decide)) q1264a q1264c (by rw [hml]; rfl) [(.ref G_UPSIDE)] (lenOf pd_5 rfl) rfl (Nat.le_of_eq rfl) (hb hby at_207) (fun _ _ => ⟨rfl, e1263, (by decide : 5 + 0 ≤ _), (by decide : 22 + 0 ≤ _)⟩) (pc' := 210) rfl ?_
           rintro _ _ ⟨T1264, L1264, k1264, n1264⟩ X1264 ⟨Lc1264, hQ1264, l1264, y1264, z1264⟩
           dsimp only [Pt.U, Pt.locs, Pt.cells, Pt.slots] at X1264 l1264 y1264 z1264 hQ1264 ⊢
           subst l1264 y1264 z1264
           obtain ⟨rfl, N1264q, e1264⟩ := hQ1264
           have N1265 := Fr.app N1262 N1264q
           show Runs _ _ _ _ (T1264.setTop (mkF m 210 #[.val (.int p0), .val (.int p1), .val (.int p2), .val (.int p3), .val (.ref b20), .val (.ref b36), .val (.int ((p0 &&& (255 : Int32)).toUInt32.toUInt16.toUInt32.toInt32)), .val (.int ((p1 &&& (255 : Int32)).toUInt32.toUInt16.toUInt32.toInt32)), .val (.int ((p2 &&& (255 : Int32)).toUInt32.toUInt16.toUInt32.toInt32)), .val (.int (p3 &&& (3 : Int32))), .val (.ref b984), .val (.ref b984)] [(.ref G_ZERO)]))
           refine w_aload X1264 hx (hb hby at_210) rfl rfl (pc' := 212) rfl ?_
           refine w_getS X1264 hx "" hZ hown (Or.inl (wd_84 hw)) Via.refl e1264 (S_EXPOSURE.ext f1238.2) (hb hby at_212) (pc' := 215) rfl ?_
           intro T1266 X1266 e1266
           have f1269 : Exa Z T1231.heap G_EXPOSURE kc4 := ((((((((((((E_G_EXPOSURE.ext E20).keep K32).ext E36).keep K50).ext E984).ext E992).wr W1000).wr W1007).wr W1014).keep K1024).keep K1224).keep K1231)
           have ne1270 : G_EXPOSURE ≠ b20 := (Nat.ne_of_lt (Nat.lt_of_lt_of_le E_G_EXPOSURE.lt (Nat.le_trans (Nat.le_refl _) (Nat.le_of_eq g20.symm))))
           have ne1271 : G_EXPOSURE ≠ b36 := (Nat.ne_of_lt (Nat.lt_of_lt_of_le E_G_EXPOSURE.lt (Nat.le_trans le38 (Nat.le_of_eq g36.symm))))
           have ne1272 : G_EXPOSURE ≠ b992 := (Nat.ne_of_lt (Nat.lt_of_lt_of_le E_G_EXPOSURE.lt (Nat.le_trans le994 (Nat.le_of_eq g992.symm))))
           have ne1273 : G_EXPOSURE ≠ b984 := (Nat.ne_of_lt (Nat.lt_of_lt_of_le E_G_EXPOSURE.lt (Nat.le_trans le986 (Nat.le_of_eq g984.symm))))
           have f1274 : Fld Z T1231.heap G_EXPOSURE kc3 "ordinal" "I" (.int (3 : Int32)) := ((((((((((((F_ordinal_G_EXPOSURE.ext E20).keep K32 (ninS ne1270 nin0)).ext E36).keep K50 (ninS ne1271 nin0)).ext E984).ext E992).other W1000 (Or.inl ne1272)).other W1007 (Or.inl ne1272)).other W1014 (Or.inl ne1272)).keep K1024 (ninS ne1273 nin0)).keep K1224 (ninS ne1271 nin0)).keep K1231 (ninS ne1271 nin0))
           obtain ⟨cq1275, kq1275, q1275a, q1275b, q1275c⟩ := isOf hZ e1266 g1231_0
           refine w_virtual X1266 hx (y := yn_10) (z := yn_10) hown (mvT hZ (wd_65 hw)) (mvT hZ (wd_66 hw)) (notFace_of_selects (args := #[]) (mvT hZ (wd_68 hw))) (mvT hZ (wd_68 hw)) (mvT hZ (wd_67 hw)) (by decide) (backOf (W := 1) (rm_m10_9 l Z aZ hw [] b36 G_EXPOSURE G__SwitchMap_com_example_ringfence_ringfence_gate_Measure k_G__SwitchMap_com_example_ringfence_ringfence_gate_Measure G_ZERO T1231.heap n0 (Nat.le_trans Z0 le1235) g1231_1 S__SwitchMap_com_example_ringfence_ringfence_gate_Measure f1238 f1269 f1274 f1250 g1231_5) hZ (wd_69 hw) (wd_2 hw) (by decide) (by decide)) q1275a q1275c (by rw [hml]; rfl) [(.ref G_EXPOSURE)] (lenOf pd_5 rfl) rfl (Nat.le_of_eq rfl) (hb hby at_215) (fun _ _ => ⟨rfl, e1266, (by decide : 5 + 0 ≤ _), (by decide : 22 + 0 ≤ _)⟩) (pc' := 218) rfl ?_
           rintro _ _ ⟨T1275, L1275, k1275, n1275⟩ X1275 ⟨Lc1275, hQ1275, l1275, y1275, z1275⟩
           dsimp only [Pt.U, Pt.locs, Pt.cells, Pt.slots] at X1275 l1275 y1275 z1275 hQ1275 ⊢
           subst l1275 y1275 z1275
           obtain ⟨rfl, N1275q, e1275⟩ := hQ1275
           have N1276 := Fr.app N1265 N1275q
           show Runs _ _ _ _ (T1275.setTop (mkF m 218 #[.val (.int p0), .val (.int p1), .val (.int p2), .val (.int p3), .val (.ref b20), .val (.ref b36), .val (.int ((p0 &&& (255 : Int32)).toUInt32.toUInt16.toUInt32.toInt32)), .val (.int ((p1 &&& (255 : Int32)).toUInt32.toUInt16.toUInt32.toInt32)), .val (.int ((p2 &&& (255 : Int32)).toUInt32.toUInt16.toUInt32.toInt32)), .val (.int (p3 &&& (3 : Int32))), .val (.ref b984), .val (.ref b984)] [(.ref G_ZERO), (.ref G_ZERO)]))
           refine w_acmp X1275 hx (hb hby at_218) (same := true) rfl rfl (decide_eq_true rfl) (pc' := 221) (by decide) (by decide) ?_
           refine w_aload X1275 hx (hb hby at_221) rfl rfl (pc' := 223) rfl ?_
           refine w_getS X1275 hx "" hZ hown (Or.inl (wd_84 hw)) Via.refl e1275 (S_EXPOSURE.ext f1238.2) (hb hby at_223) (pc' := 226) rfl ?_
           intro T1277 X1277 e1277
           obtain ⟨cq1278, kq1278, q1278a, q1278b, q1278c⟩ := isOf hZ e1277 g1231_0
           refine w_virtual X1277 hx (y := yn_10) (z := yn_10) hown (mvT hZ (wd_65 hw)) (mvT hZ (wd_66 hw)) (notFace_of_selects (args := #[]) (mvT hZ (wd_68 hw))) (mvT hZ (wd_68 hw)) (mvT hZ (wd_67 hw)) (by decide) (backOf (W := 0) (rm_m10_9 l Z aZ hw [] b36 G_EXPOSURE G__SwitchMap_com_example_ringfence_ringfence_gate_Measure k_G__SwitchMap_com_example_ringfence_ringfence_gate_Measure G_ZERO T1231.heap n0 (Nat.le_trans Z0 le1235) g1231_1 S__SwitchMap_com_example_ringfence_ringfence_gate_Measure f1238 f1269 f1274 f1250 g1231_5) hZ (wd_69 hw) (wd_2 hw) (by decide) (by decide)) q1278a q1278c (by rw [hml]; rfl) [(.ref G_EXPOSURE)] (lenOf pd_5 rfl) rfl (Nat.le_of_eq rfl) (hb hby at_226) (fun _ _ => ⟨rfl, e1277, (by decide : 5 + 0 ≤ _), (by decide : 22 + 0 ≤ _)⟩) (pc' := 229) rfl ?_
           rintro _ _ ⟨T1278, L1278, k1278, n1278⟩ X1278 ⟨Lc1278, hQ1278, l1278, y1278, z1278⟩
           dsimp only [Pt.U, Pt.locs, Pt.cells, Pt.slots] at X1278 l1278 y1278 z1278 hQ1278 ⊢
           subst l1278 y1278 z1278
           obtain ⟨rfl, N1278q, e1278⟩ := hQ1278
           have N1279 := Fr.app N1276 N1278q
           show Runs _ _ _ _ (T1278.setTop (mkF m 229 #[.val (.int p0), .val (.int p1), .val (.int p2), .val (.int p3), .val (.ref b20), .val (.ref b36), .val (.int ((p0 &&& (255 : Int32)).toUInt32.toUInt16.toUInt32.toInt32)), .val (.int ((p1 &&& (255 : Int32)).toUInt32.toUInt16.toUInt32.toInt32)), .val (.int ((p2 &&& (255 : Int32)).toUInt32.toUInt16.toUInt32.toInt32)), .val (.int (p3 &&& (3 : Int32))), .val (.ref b984), .val (.ref b984)] [(.ref G_ZERO)]))
           refine w_aload X1278 hx (hb hby at_229) rfl rfl (pc' := 231) rfl ?_
           refine w_getS X1278 hx "" hZ hown (Or.inl (wd_84 hw)) Via.refl e1278 (S_EXPOSURE.ext f1238.2) (hb hby at_231) (pc' := 234) rfl ?_
           intro T1280 X1280 e1280
           have ne1295 : b20 ≠ b36 := (Nat.ne_of_lt (Nat.lt_of_lt_of_le A20.lt (Nat.le_trans K32.1 (Nat.le_of_eq g36.symm))))
           have le1296 : h20.size ≤ h36.size := (Nat.le_trans K32.1 E36.1)
           have le1297 : h20.size ≤ T50.heap.size := (Nat.le_trans le1296 K50.1)
           have le1298 : h20.size ≤ h984.size := (Nat.le_trans le1297 E984.1)
           have ne1299 : b20 ≠ b992 := (Nat.ne_of_lt (Nat.lt_of_lt_of_le A20.lt (Nat.le_trans le1298 (Nat.le_of_eq g992.symm))))
           have ne1300 : b20 ≠ b984 := (Nat.ne_of_lt (Nat.lt_of_lt_of_le A20.lt (Nat.le_trans le1297 (Nat.le_of_eq g984.symm))))
           have f1301 : Fld Z T1231.heap b20 kc0 "unrated" "Ljava/lang/String;" .null := ((((((((((g32_6.ext E36).keep K50 (ninS ne1295 nin0)).ext E984).ext E992).other W1000 (Or.inl ne1299)).other W1007 (Or.inl ne1299)).other W1014 (Or.inl ne1299)).keep K1024 (ninS ne1300 nin0)).keep K1224 (ninS ne1295 nin0)).keep K1231 (ninS ne1295 nin0))
           have f1302 : Fld Z T1231.heap b20 kc0 "exposure" "Ljava/math/BigDecimal;" (.ref G_ZERO) := ((((((((((g32_4.ext E36).keep K50 (ninS ne1295 nin0)).ext E984).ext E992).other W1000 (Or.inl ne1299)).other W1007 (Or.inl ne1299)).other W1014 (Or.inl ne1299)).keep K1024 (ninS ne1300 nin0)).keep K1224 (ninS ne1295 nin0)).keep K1231 (ninS ne1295 nin0))
           have f1304 : Exa Z T1231.heap b20 kc0 := ((((((((((g32_0.ext E36).keep K50).ext E984).ext E992).wr W1000).wr W1007).wr W1014).keep K1024).keep K1224).keep K1231)
           obtain ⟨cq1303, kq1303, q1303a, q1303b, q1303c⟩ := isOf hZ e1280 f1304
           refine w_virtual X1280 hx (y := yn_10) (z := yn_10) hown (mvT hZ (wd_65 hw)) (mvT hZ (wd_66 hw)) (notFace_of_selects (args := #[]) (mvT hZ (wd_68 hw))) (mvT hZ (wd_68 hw)) (mvT hZ (wd_67 hw)) (by decide) (backOf (W := 1) (rm_m10_9 l Z aZ hw [] b20 G_EXPOSURE G__SwitchMap_com_example_ringfence_ringfence_gate_Measure k_G__SwitchMap_com_example_ringfence_ringfence_gate_Measure G_ZERO T1231.heap n0 (Nat.le_trans Z0 le1235) f1301 S__SwitchMap_com_example_ringfence_ringfence_gate_Measure f1238 f1269 f1274 f1250 f1302) hZ (wd_69 hw) (wd_2 hw) (by decide) (by decide)) q1303a q1303c (by rw [hml]; rfl) [(.ref G_EXPOSURE)] (lenOf pd_5 rfl) rfl (Nat.le_of_eq rfl) (hb hby at_234) (fun _ _ => ⟨rfl, e1280, (by decide : 5 + 0 ≤ _), (by decide : 22 + 0 ≤ _)⟩) (pc' := 237) rfl ?_
           rintro _ _ ⟨T1303, L1303, k1303, n1303⟩ X1303 ⟨Lc1303, hQ1303, l1303, y1303, z1303⟩
           dsimp only [Pt.U, Pt.locs, Pt.cells, Pt.slots] at X1303 l1303 y1303 z1303 hQ1303 ⊢
           subst l1303 y1303 z1303
           obtain ⟨rfl, N1303q, e1303⟩ := hQ1303
           have N1305 := Fr.app N1279 N1303q
           show Runs _ _ _ _ (T1303.setTop (mkF m 237 #[.val (.int p0), .val (.int p1), .val (.int p2), .val (.int p3), .val (.ref b20), .val (.ref b36), .val (.int ((p0 &&& (255 : Int32)).toUInt32.toUInt16.toUInt32.toInt32)), .val (.int ((p1 &&& (255 : Int32)).toUInt32.toUInt16.toUInt32.toInt32)), .val (.int ((p2 &&& (255 : Int32)).toUInt32.toUInt16.toUInt32.toInt32)), .val (.int (p3 &&& (3 : Int32))), .val (.ref b984), .val (.ref b984)] [(.ref G_ZERO), (.ref G_ZERO)]))
           refine w_acmp X1303 hx (hb hby at_237) (same := true) rfl rfl (decide_eq_true rfl) (pc' := 240) (by decide) (by decide) ?_
           refine w_iconst X1303 hx (hb hby at_240) (v := (1 : Int32)) rfl (pc' := 241) rfl ?_
           refine w_goto X1303 hx (hb hby at_241) (pc' := 245) (by decide) (by decide) ?_
           exact w_doneH X1303 hlk (v := some (.int (1 : Int32))) e1303 hh hZ (own_EW hw) hS0 (Nat.le_trans (Nat.le_refl _) le1235) C1233 (fun h => by rw [hret] at h; cases h) (fun fs hr => retN X1303 hx (t := .boolean) hret (by simp) (hb hby at_245) hr) (by decide) (by decide) (fun hsy => ⟨rfl, N1305⟩)
         · refine w_ifN X1224 hx (hb hby at_162) (feq hc1228).1 (pc' := 165) rfl ?_
           refine w_aload X1224 hx (hb hby at_165) rfl rfl (pc' := 167) rfl ?_
           have f1306 : Old Z n0 T1224.heap := ((f1029.keep K1024 (allS ge985 all0)).keep K1224 (allS ge37 all0))
           have le1307 : h0.size ≤ T1224.heap.size := (Nat.le_trans le1223 K1224.1)
           obtain ⟨cq1308, kq1308, q1308a, q1308b, q1308c⟩ := isOf hZ rfl g1224_0
           refine w_virtual X1224 hx (y := yn_8) (z := yn_8) hown (mvT hZ (wd_52 hw)) (mvT hZ (wd_53 hw)) (notFace_of_selects (args := #[]) (mvT hZ (wd_55 hw))) (mvT hZ (wd_55 hw)) (mvT hZ (wd_54 hw)) (by decide) (backOf (W := 0) (rm_m8_12 l Z aZ hw [] b36 b984 G_ZERO T1224.heap n0 (Nat.le_trans Z0 le1307) g1224_0 g1224_1 ge37 S_ZERO f1306 g1224_2 g1224_3 g1224_4 g1224_5 g1224_6) hZ (wd_56 hw) (wd_2 hw) (by decide) (by decide)) q1308a q1308c (by rw [hml]; rfl) [] (lenOf pd_2 rfl) rfl (Nat.le_of_eq rfl) (hb hby at_167) (fun _ _ => ⟨rfl, rfl, (by decide : 5 + 0 ≤ _), (by decide : 22 + 0 ≤ _)⟩) (pc' := 170) rfl ?_
           rintro _ _ ⟨T1308, L1308, k1308, n1308⟩ X1308 ⟨Lc1308, hQ1308, l1308, y1308, z1308⟩
           dsimp only [Pt.U, Pt.locs, Pt.cells, Pt.slots] at X1308 l1308 y1308 z1308 hQ1308 ⊢
           subst l1308 y1308 z1308
           obtain ⟨rfl, N1308q, K1308, g1308_0, g1308_1, g1308_2, g1308_3, g1308_4, g1308_5, g1308_6⟩ := hQ1308
           have N1309 := Fr.app N1225 N1308q
           have C1310 : CHr Z EL s.vm h0 s.vm T1308.heap := C1226.trans (CHr.keep K1308 (sfS (Safe.exa hZ.alike g1224_0 (by decide) (by decide)) sf0) C1226.1)
           have K1311 : Keep h0 T1308.heap [] := K1227.trans K1308 (allS (Or.inr sz39) (all0 (P := fun x => x ∈ [] ∨ h0.size ≤ x)))
           show Runs _ _ _ _ (T1308.setTop (mkF m 170 #[.val (.int p0), .val (.int p1), .val (.int p2), .val (.int p3), .val (.ref b20), .val (.ref b36), .val (.int ((p0 &&& (255 : Int32)).toUInt32.toUInt16.toUInt32.toInt32)), .val (.int ((p1 &&& (255 : Int32)).toUInt32.toUInt16.toUInt32.toInt32)), .val (.int ((p2 &&& (255 : Int32)).toUInt32.toUInt16.toUInt32.toInt32)), .val (.int (p3 &&& (3 : Int32))), .val (.ref b984), .val (.ref b984)] []))
           refine w_aload X1308 hx (hb hby at_170) rfl rfl (pc' := 172) rfl ?_
           have f1312 : Old Z n0 T1308.heap := (f1306.keep K1308 (allS ge37 all0))
           have le1313 : h0.size ≤ T1308.heap.size := (Nat.le_trans le1307 K1308.1)
           obtain ⟨cq1314, kq1314, q1314a, q1314b, q1314c⟩ := isOf hZ rfl g1308_0
           refine w_virtual X1308 hx (y := yn_8) (z := yn_8) hown (mvT hZ (wd_52 hw)) (mvT hZ (wd_53 hw)) (notFace_of_selects (args := #[]) (mvT hZ (wd_55 hw))) (mvT hZ (wd_55 hw)) (mvT hZ (wd_54 hw)) (by decide) (backOf (W := 0) (rm_m8_3 l Z aZ hw [] b36 G_ZERO T1308.heap n0 (Nat.le_trans Z0 le1313) g1308_0 g1308_1 ge37 S_ZERO f1312 g1308_2 g1308_3 g1308_4 g1308_5 g1308_6) hZ (wd_56 hw) (wd_2 hw) (by decide) (by decide)) q1314a q1314c (by rw [hml]; rfl) [] (lenOf pd_2 rfl) rfl (Nat.le_of_eq rfl) (hb hby at_172) (fun _ _ => ⟨rfl, rfl, (by decide : 5 + 0 ≤ _), (by decide : 22 + 0 ≤ _)⟩) (pc' := 175) rfl ?_
           rintro _ _ ⟨T1314, L1314, k1314, n1314⟩ X1314 ⟨Lc1314, hQ1314, l1314, y1314, z1314⟩
           dsimp only [Pt.U, Pt.locs, Pt.cells, Pt.slots] at X1314 l1314 y1314 z1314 hQ1314 ⊢
           subst l1314 y1314 z1314
           obtain ⟨rfl, N1314q, K1314, g1314_0, g1314_1, g1314_2, g1314_3, g1314_4, g1314_5, g1314_6⟩ := hQ1314
           have N1315 := Fr.app N1309 N1314q
           have C1316 : CHr Z EL s.vm h0 s.vm T1314.heap := C1310.trans (CHr.keep K1314 (sfS (Safe.exa hZ.alike g1308_0 (by decide) (by decide)) sf0) C1310.1)
           have K1317 : Keep h0 T1314.heap [] := K1311.trans K1314 (allS (Or.inr sz39) (all0 (P := fun x => x ∈ [] ∨ h0.size ≤ x)))
           show Runs _ _ _ _ (T1314.setTop (mkF m 175 #[.val (.int p0), .val (.int p1), .val (.int p2), .val (.int p3), .val (.ref b20), .val (.ref b36), .val (.int ((p0 &&& (255 : Int32)).toUInt32.toUInt16.toUInt32.toInt32)), .val (.int ((p1 &&& (255 : Int32)).toUInt32.toUInt16.toUInt32.toInt32)), .val (.int ((p2 &&& (255 : Int32)).toUInt32.toUInt16.toUInt32.toInt32)), .val (.int (p3 &&& (3 : Int32))), .val (.ref b984), .val (.ref b984)] []))
           refine w_aload X1314 hx (hb hby at_175) rfl rfl (pc' := 177) rfl ?_
           have le1318 : h0.size ≤ T1314.heap.size := (Nat.le_trans le1313 K1314.1)
           obtain ⟨cq1319, kq1319, q1319a, q1319b, q1319c⟩ := isOf hZ rfl g1314_0
           refine w_virtual X1314 hx (y := yn_9) (z := yn_9) hown (mvT hZ (wd_57 hw)) (mvT hZ (wd_58 hw)) (notFace_of_selects (args := #[]) (mvT hZ (wd_60 hw))) (mvT hZ (wd_60 hw)) (mvT hZ (wd_59 hw)) (by decide) (backOf (W := 0) (rm_m9_4 l Z aZ hw [] b36 T1314.heap n0 (Nat.le_trans Z0 le1318) g1314_1) hZ (wd_61 hw) (wd_2 hw) (by decide) (by decide)) q1319a q1319c (by rw [hml]; rfl) [] (lenOf pd_3 rfl) rfl (Nat.le_of_eq rfl) (hb hby at_177) (fun _ _ => ⟨rfl, rfl, (by decide : 5 + 0 ≤ _), (by decide : 22 + 0 ≤ _)⟩) (pc' := 180) rfl ?_
           rintro _ _ ⟨T1319, L1319, k1319, n1319⟩ X1319 ⟨Lc1319, hQ1319, l1319, y1319, z1319⟩
           dsimp only [Pt.U, Pt.locs, Pt.cells, Pt.slots] at X1319 l1319 y1319 z1319 hQ1319 ⊢
           subst l1319 y1319 z1319
           obtain ⟨rfl, N1319q, e1319⟩ := hQ1319
           have N1320 := Fr.app N1315 N1319q
           show Runs _ _ _ _ (T1319.setTop (mkF m 180 #[.val (.int p0), .val (.int p1), .val (.int p2), .val (.int p3), .val (.ref b20), .val (.ref b36), .val (.int ((p0 &&& (255 : Int32)).toUInt32.toUInt16.toUInt32.toInt32)), .val (.int ((p1 &&& (255 : Int32)).toUInt32.toUInt16.toUInt32.toInt32)), .val (.int ((p2 &&& (255 : Int32)).toUInt32.toUInt16.toUInt32.toInt32)), .val (.int (p3 &&& (3 : Int32))), .val (.ref b984), .val (.ref b984)] [.null]))
           refine w_ifnonnullN X1319 hx (hb hby at_180) (pc' := 183) rfl ?_
           refine w_aload X1319 hx (hb hby at_183) rfl rfl (pc' := 185) rfl ?_
           have f1321 : Old Z n0 T1314.heap := (f1312.keep K1314 (allS ge37 all0))
           refine w_getS X1319 hx "" hZ hown (Or.inl (wd_62 hw)) Via.refl e1319 (S_DOWNSIDE.ext f1321.2) (hb hby at_185) (pc' := 188) rfl ?_
           intro T1322 X1322 e1322
           have f1323 : Exa Z T1314.heap G_DOWNSIDE kc4 := (((((((((((((E_G_DOWNSIDE.ext E20).keep K32).ext E36).keep K50).ext E984).ext E992).wr W1000).wr W1007).wr W1014).keep K1024).keep K1224).keep K1308).keep K1314)
           have ne1324 : G_DOWNSIDE ≠ b20 := (Nat.ne_of_lt (Nat.lt_of_lt_of_le E_G_DOWNSIDE.lt (Nat.le_trans (Nat.le_refl _) (Nat.le_of_eq g20.symm))))
           have ne1325 : G_DOWNSIDE ≠ b36 := (Nat.ne_of_lt (Nat.lt_of_lt_of_le E_G_DOWNSIDE.lt (Nat.le_trans le38 (Nat.le_of_eq g36.symm))))
           have ne1326 : G_DOWNSIDE ≠ b992 := (Nat.ne_of_lt (Nat.lt_of_lt_of_le E_G_DOWNSIDE.lt (Nat.le_trans le994 (Nat.le_of_eq g992.symm))))
           have ne1327 : G_DOWNSIDE ≠ b984 := (Nat.ne_of_lt (Nat.lt_of_lt_of_le E_G_DOWNSIDE.lt (Nat.le_trans le986 (Nat.le_of_eq g984.symm))))
           have f1328 : Fld Z T1314.heap G_DOWNSIDE kc3 "ordinal" "I" (.int (1 : Int32)) := (((((((((((((F_ordinal_G_DOWNSIDE.ext E20).keep K32 (ninS ne1324 nin0)).ext E36).keep K50 (ninS ne1325 nin0)).ext E984).ext E992).other W1000 (Or.inl ne1326)).other W1007 (Or.inl ne1326)).other W1014 (Or.inl ne1326)).keep K1024 (ninS ne1327 nin0)).keep K1224 (ninS ne1325 nin0)).keep K1308 (ninS ne1325 nin0)).keep K1314 (ninS ne1325 nin0))
           have ne1329 : G__SwitchMap_com_example_ringfence_ringfence_gate_Measure ≠ b20 := (Nat.ne_of_lt (Nat.lt_of_lt_of_le V_G__SwitchMap_com_example_ringfence_ringfence_gate_Measure.lt (Nat.le_trans (Nat.le_refl _) (Nat.le_of_eq g20.symm))))
           have ne1330 : G__SwitchMap_com_example_ringfence_ringfence_gate_Measure ≠ b36 := (Nat.ne_of_lt (Nat.lt_of_lt_of_le V_G__SwitchMap_com_example_ringfence_ringfence_gate_Measure.lt (Nat.le_trans le38 (Nat.le_of_eq g36.symm))))
           have ne1331 : G__SwitchMap_com_example_ringfence_ringfence_gate_Measure ≠ b992 := (Nat.ne_of_lt (Nat.lt_of_lt_of_le V_G__SwitchMap_com_example_ringfence_ringfence_gate_Measure.lt (Nat.le_trans le994 (Nat.le_of_eq g992.symm))))
           have ne1332 : G__SwitchMap_com_example_ringfence_ringfence_gate_Measure ≠ b984 := (Nat.ne_of_lt (Nat.lt_of_lt_of_le V_G__SwitchMap_com_example_ringfence_ringfence_gate_Measure.lt (Nat.le_trans le986 (Nat.le_of_eq g984.symm))))
           have f1333 : Arv Z T1314.heap G__SwitchMap_com_example_ringfence_ringfence_gate_Measure k_G__SwitchMap_com_example_ringfence_ringfence_gate_Measure .int (5 : Int32) [(.int (1 : Int32)), (.int (2 : Int32)), (.int (3 : Int32)), (.int (4 : Int32)), (.int (5 : Int32))] (.int (0 : Int32)) := (((((((((((((V_G__SwitchMap_com_example_ringfence_ringfence_gate_Measure.ext E20).keep K32 (ninS ne1329 nin0)).ext E36).keep K50 (ninS ne1330 nin0)).ext E984).ext E992).other W1000 ne1331).other W1007 ne1331).other W1014 ne1331).keep K1024 (ninS ne1332 nin0)).keep K1224 (ninS ne1330 nin0)).keep K1308 (ninS ne1330 nin0)).keep K1314 (ninS ne1330 nin0))
           obtain ⟨cq1334, kq1334, q1334a, q1334b, q1334c⟩ := isOf hZ e1322 g1314_0
           refine w_virtual X1322 hx (y := yn_10) (z := yn_10) hown (mvT hZ (wd_65 hw)) (mvT hZ (wd_66 hw)) (notFace_of_selects (args := #[]) (mvT hZ (wd_68 hw))) (mvT hZ (wd_68 hw)) (mvT hZ (wd_67 hw)) (by decide) (backOf (W := 0) (rm_m10_5 l Z aZ hw [] b36 G_DOWNSIDE G__SwitchMap_com_example_ringfence_ringfence_gate_Measure k_G__SwitchMap_com_example_ringfence_ringfence_gate_Measure G_ZERO T1314.heap n0 (Nat.le_trans Z0 le1318) g1314_1 S__SwitchMap_com_example_ringfence_ringfence_gate_Measure f1321 f1323 f1328 f1333 g1314_3) hZ (wd_69 hw) (wd_2 hw) (by decide) (by decide)) q1334a q1334c (by rw [hml]; rfl) [(.ref G_DOWNSIDE)] (lenOf pd_5 rfl) rfl (Nat.le_of_eq rfl) (hb hby at_188) (fun _ _ => ⟨rfl, e1322, (by decide : 5 + 0 ≤ _), (by decide : 22 + 0 ≤ _)⟩) (pc' := 191) rfl ?_
           rintro _ _ ⟨T1334, L1334, k1334, n1334⟩ X1334 ⟨Lc1334, hQ1334, l1334, y1334, z1334⟩
           dsimp only [Pt.U, Pt.locs, Pt.cells, Pt.slots] at X1334 l1334 y1334 z1334 hQ1334 ⊢
           subst l1334 y1334 z1334
           obtain ⟨rfl, N1334q, e1334⟩ := hQ1334
           have N1335 := Fr.app N1320 N1334q
           show Runs _ _ _ _ (T1334.setTop (mkF m 191 #[.val (.int p0), .val (.int p1), .val (.int p2), .val (.int p3), .val (.ref b20), .val (.ref b36), .val (.int ((p0 &&& (255 : Int32)).toUInt32.toUInt16.toUInt32.toInt32)), .val (.int ((p1 &&& (255 : Int32)).toUInt32.toUInt16.toUInt32.toInt32)), .val (.int ((p2 &&& (255 : Int32)).toUInt32.toUInt16.toUInt32.toInt32)), .val (.int (p3 &&& (3 : Int32))), .val (.ref b984), .val (.ref b984)] [(.ref G_ZERO)]))
           refine w_aload X1334 hx (hb hby at_191) rfl rfl (pc' := 193) rfl ?_
           refine w_getS X1334 hx "" hZ hown (Or.inl (wd_82 hw)) Via.refl e1334 (S_UPSIDE.ext f1321.2) (hb hby at_193) (pc' := 196) rfl ?_
           intro T1336 X1336 e1336
           have f1338 : Exa Z T1314.heap G_UPSIDE kc4 := (((((((((((((E_G_UPSIDE.ext E20).keep K32).ext E36).keep K50).ext E984).ext E992).wr W1000).wr W1007).wr W1014).keep K1024).keep K1224).keep K1308).keep K1314)
           have ne1339 : G_UPSIDE ≠ b20 := (Nat.ne_of_lt (Nat.lt_of_lt_of_le E_G_UPSIDE.lt (Nat.le_trans (Nat.le_refl _) (Nat.le_of_eq g20.symm))))
           have ne1340 : G_UPSIDE ≠ b36 := (Nat.ne_of_lt (Nat.lt_of_lt_of_le E_G_UPSIDE.lt (Nat.le_trans le38 (Nat.le_of_eq g36.symm))))
           have ne1341 : G_UPSIDE ≠ b992 := (Nat.ne_of_lt (Nat.lt_of_lt_of_le E_G_UPSIDE.lt (Nat.le_trans le994 (Nat.le_of_eq g992.symm))))
           have ne1342 : G_UPSIDE ≠ b984 := (Nat.ne_of_lt (Nat.lt_of_lt_of_le E_G_UPSIDE.lt (Nat.le_trans le986 (Nat.le_of_eq g984.symm))))
           have f1343 : Fld Z T1314.heap G_UPSIDE kc3 "ordinal" "I" (.int (2 : Int32)) := (((((((((((((F_ordinal_G_UPSIDE.ext E20).keep K32 (ninS ne1339 nin0)).ext E36).keep K50 (ninS ne1340 nin0)).ext E984).ext E992).other W1000 (Or.inl ne1341)).other W1007 (Or.inl ne1341)).other W1014 (Or.inl ne1341)).keep K1024 (ninS ne1342 nin0)).keep K1224 (ninS ne1340 nin0)).keep K1308 (ninS ne1340 nin0)).keep K1314 (ninS ne1340 nin0))
           obtain ⟨cq1344, kq1344, q1344a, q1344b, q1344c⟩ := isOf hZ e1336 g1314_0
           refine w_virtual X1336 hx (y := yn_10) (z := yn_10) hown (mvT hZ (wd_65 hw)) (mvT hZ (wd_66 hw)) (notFace_of_selects (args := #[]) (mvT hZ (wd_68 hw))) (mvT hZ (wd_68 hw)) (mvT hZ (wd_67 hw)) (by decide) (backOf (W := 1) (rm_m10_7 l Z aZ hw [] b36 G_UPSIDE G__SwitchMap_com_example_ringfence_ringfence_gate_Measure k_G__SwitchMap_com_example_ringfence_ringfence_gate_Measure G_ZERO T1314.heap n0 (Nat.le_trans Z0 le1318) g1314_1 S__SwitchMap_com_example_ringfence_ringfence_gate_Measure f1321 f1338 f1343 f1333 g1314_4) hZ (wd_69 hw) (wd_2 hw) (by decide) (by decide)) q1344a q1344c (by rw [hml]; rfl) [(.ref G_UPSIDE)] (lenOf pd_5 rfl) rfl (Nat.le_of_eq rfl) (hb hby at_196) (fun _ _ => ⟨rfl, e1336, (by decide : 5 + 0 ≤ _), (by decide : 22 + 0 ≤ _)⟩) (pc' := 199) rfl ?_
           rintro _ _ ⟨T1344, L1344, k1344, n1344⟩ X1344 ⟨Lc1344, hQ1344, l1344, y1344, z1344⟩
           dsimp only [Pt.U, Pt.locs, Pt.cells, Pt.slots] at X1344 l1344 y1344 z1344 hQ1344 ⊢
           subst l1344 y1344 z1344
           obtain ⟨rfl, N1344q, e1344⟩ := hQ1344
           have N1345 := Fr.app N1335 N1344q
           show Runs _ _ _ _ (T1344.setTop (mkF m 199 #[.val (.int p0), .val (.int p1), .val (.int p2), .val (.int p3), .val (.ref b20), .val (.ref b36), .val (.int ((p0 &&& (255 : Int32)).toUInt32.toUInt16.toUInt32.toInt32)), .val (.int ((p1 &&& (255 : Int32)).toUInt32.toUInt16.toUInt32.toInt32)), .val (.int ((p2 &&& (255 : Int32)).toUInt32.toUInt16.toUInt32.toInt32)), .val (.int (p3 &&& (3 : Int32))), .val (.ref b984), .val (.ref b984)] [(.ref G_ZERO), (.ref G_ZERO)]))
           refine w_acmp X1344 hx (hb hby at_199) (same := true) rfl rfl (decide_eq_true rfl) (pc' := 202) (by decide) (by decide) ?_
           refine w_aload X1344 hx (hb hby at_202) rfl rfl (pc' := 204) rfl ?_
           refine w_getS X1344 hx "" hZ hown (Or.inl (wd_82 hw)) Via.refl e1344 (S_UPSIDE.ext f1321.2) (hb hby at_204) (pc' := 207) rfl ?_
           intro T1346 X1346 e1346
           obtain ⟨cq1347, kq1347, q1347a, q1347b, q1347c⟩ := isOf hZ e1346 g1314_0
           refine w_virtual X1346 hx (y := yn_10) (z := yn_10) hown (mvT hZ (wd_65 hw)) (mvT hZ (wd_66 hw)) (notFace_of_selects (args := #[]) (mvT hZ (wd_68 hw))) (mvT hZ (wd_68 hw)) (mvT hZ (wd_67 hw)) (by decide) (backOf (W := 0) (rm_m10_7 l Z aZ hw [] b36 G_UPSIDE G__SwitchMap_com_example_ringfence_ringfence_gate_Measure k_G__SwitchMap_com_example_ringfence_ringfence_gate_Measure G_ZERO T1314.heap n0 (Nat.le_trans Z0 le1318) g1314_1 S__SwitchMap_com_example_ringfence_ringfence_gate_Measure f1321 f1338 f1343 f1333 g1314_4) hZ (wd_69 hw) (wd_2 hw) (by decide) (by decide)) q1347a q1347c (by rw [hml]; rfl) [(.ref G_UPSIDE)] (lenOf pd_5 rfl) rfl (Nat.le_of_eq rfl) (hb hby at_207) (fun _ _ => ⟨rfl, e1346, (by decide : 5 + 0 ≤ _), (by decide : 22 + 0 ≤ _)⟩) (pc' := 210) rfl ?_
           rintro _ _ ⟨T1347, L1347, k1347, n1347⟩ X1347 ⟨Lc1347, hQ1347, l1347, y1347, z1347⟩
           dsimp only [Pt.U, Pt.locs, Pt.cells, Pt.slots] at X1347 l1347 y1347 z1347 hQ1347 ⊢
           subst l1347 y1347 z1347
           obtain ⟨rfl, N1347q, e1347⟩ := hQ1347
           have N1348 := Fr.app N1345 N1347q
           show Runs _ _ _ _ (T1347.setTop (mkF m 210 #[.val (.int p0), .val (.int p1), .val (.int p2), .val (.int p3), .val (.ref b20), .val (.ref b36), .val (.int ((p0 &&& (255 : Int32)).toUInt32.toUInt16.toUInt32.toInt32)), .val (.int ((p1 &&& (255 : Int32)).toUInt32.toUInt16.toUInt32.toInt32)), .val (.int ((p2 &&& (255 : Int32)).toUInt32.toUInt16.toUInt32.toInt32)), .val (.int (p3 &&& (3 : Int32))), .val (.ref b984), .val (.ref b984)] [(.ref G_ZERO)]))
           refine w_aload X1347 hx (hb hby at_210) rfl rfl (pc' := 212) rfl ?_
           refine w_getS X1347 hx "" hZ hown (Or.inl (wd_84 hw)) Via.refl e1347 (S_EXPOSURE.ext f1321.2) (hb hby at_212) (pc' := 215) rfl ?_
           intro T1349 X1349 e1349
           have f1352 : Exa Z T1314.heap G_EXPOSURE kc4 := (((((((((((((E_G_EXPOSURE.ext E20).keep K32).ext E36).keep K50).ext E984).ext E992).wr W1000).wr W1007).wr W1014).keep K1024).keep K1224).keep K1308).keep K1314)
           have ne1353 : G_EXPOSURE ≠ b20 := (Nat.ne_of_lt (Nat.lt_of_lt_of_le E_G_EXPOSURE.lt (Nat.le_trans (Nat.le_refl _) (Nat.le_of_eq g20.symm))))
           have ne1354 : G_EXPOSURE ≠ b36 := (Nat.ne_of_lt (Nat.lt_of_lt_of_le E_G_EXPOSURE.lt (Nat.le_trans le38 (Nat.le_of_eq g36.symm))))
           have ne1355 : G_EXPOSURE ≠ b992 := (Nat.ne_of_lt (Nat.lt_of_lt_of_le E_G_EXPOSURE.lt (Nat.le_trans le994 (Nat.le_of_eq g992.symm))))
           have ne1356 : G_EXPOSURE ≠ b984 := (Nat.ne_of_lt (Nat.lt_of_lt_of_le E_G_EXPOSURE.lt (Nat.le_trans le986 (Nat.le_of_eq g984.symm))))
           have f1357 : Fld Z T1314.heap G_EXPOSURE kc3 "ordinal" "I" (.int (3 : Int32)) := (((((((((((((F_ordinal_G_EXPOSURE.ext E20).keep K32 (ninS ne1353 nin0)).ext E36).keep K50 (ninS ne1354 nin0)).ext E984).ext E992).other W1000 (Or.inl ne1355)).other W1007 (Or.inl ne1355)).other W1014 (Or.inl ne1355)).keep K1024 (ninS ne1356 nin0)).keep K1224 (ninS ne1354 nin0)).keep K1308 (ninS ne1354 nin0)).keep K1314 (ninS ne1354 nin0))
           obtain ⟨cq1358, kq1358, q1358a, q1358b, q1358c⟩ := isOf hZ e1349 g1314_0
           refine w_virtual X1349 hx (y := yn_10) (z := yn_10) hown (mvT hZ (wd_65 hw)) (mvT hZ (wd_66 hw)) (notFace_of_selects (args := #[]) (mvT hZ (wd_68 hw))) (mvT hZ (wd_68 hw)) (mvT hZ (wd_67 hw)) (by decide) (backOf (W := 1) (rm_m10_9 l Z aZ hw [] b36 G_EXPOSURE G__SwitchMap_com_example_ringfence_ringfence_gate_Measure k_G__SwitchMap_com_example_ringfence_ringfence_gate_Measure G_ZERO T1314.heap n0 (Nat.le_trans Z0 le1318) g1314_1 S__SwitchMap_com_example_ringfence_ringfence_gate_Measure f1321 f1352 f1357 f1333 g1314_5) hZ (wd_69 hw) (wd_2 hw) (by decide) (by decide)) q1358a q1358c (by rw [hml]; rfl) [(.ref G_EXPOSURE)] (lenOf pd_5 rfl) rfl (Nat.le_of_eq rfl) (hb hby at_215) (fun _ _ => ⟨rfl, e1349, (by decide : 5 + 0 ≤ _), (by decide : 22 + 0 ≤ _)⟩) (pc' := 218) rfl ?_
           rintro _ _ ⟨T1358, L1358, k1358, n1358⟩ X1358 ⟨Lc1358, hQ1358, l1358, y1358, z1358⟩
           dsimp only [Pt.U, Pt.locs, Pt.cells, Pt.slots] at X1358 l1358 y1358 z1358 hQ1358 ⊢
           subst l1358 y1358 z1358
           obtain ⟨rfl, N1358q, e1358⟩ := hQ1358
           have N1359 := Fr.app N1348 N1358q
           show Runs _ _ _ _ (T1358.setTop (mkF m 218 #[.val (.int p0), .val (.int p1), .val (.int p2), .val (.int p3), .val (.ref b20), .val (.ref b36), .val (.int ((p0 &&& (255 : Int32)).toUInt32.toUInt16.toUInt32.toInt32)), .val (.int ((p1 &&& (255 : Int32)).toUInt32.toUInt16.toUInt32.toInt32)), .val (.int ((p2 &&& (255 : Int32)).toUInt32.toUInt16.toUInt32.toInt32)), .val (.int (p3 &&& (3 : Int32))), .val (.ref b984), .val (.ref b984)] [(.ref G_ZERO), (.ref G_ZERO)]))
           refine w_acmp X1358 hx (hb hby at_218) (same := true) rfl rfl (decide_eq_true rfl) (pc' := 221) (by decide) (by decide) ?_
           refine w_aload X1358 hx (hb hby at_221) rfl rfl (pc' := 223) rfl ?_
           refine w_getS X1358 hx "" hZ hown (Or.inl (wd_84 hw)) Via.refl e1358 (S_EXPOSURE.ext f1321.2) (hb hby at_223) (pc' := 226) rfl ?_
           intro T1360 X1360 e1360
           obtain ⟨cq1361, kq1361, q1361a, q1361b, q1361c⟩ := isOf hZ e1360 g1314_0
           refine w_virtual X1360 hx (y := yn_10) (z := yn_10) hown (mvT hZ (wd_65 hw)) (mvT hZ (wd_66 hw)) (notFace_of_selects (args := #[]) (mvT hZ (wd_68 hw))) (mvT hZ (wd_68 hw)) (mvT hZ (wd_67 hw)) (by decide) (backOf (W := 0) (rm_m10_9 l Z aZ hw [] b36 G_EXPOSURE G__SwitchMap_com_example_ringfence_ringfence_gate_Measure k_G__SwitchMap_com_example_ringfence_ringfence_gate_Measure G_ZERO T1314.heap n0 (Nat.le_trans Z0 le1318) g1314_1 S__SwitchMap_com_example_ringfence_ringfence_gate_Measure f1321 f1352 f1357 f1333 g1314_5) hZ (wd_69 hw) (wd_2 hw) (by decide) (by decide)) q1361a q1361c (by rw [hml]; rfl) [(.ref G_EXPOSURE)] (lenOf pd_5 rfl) rfl (Nat.le_of_eq rfl) (hb hby at_226) (fun _ _ => ⟨rfl, e1360, (by decide : 5 + 0 ≤ _), (by decide : 22 + 0 ≤ _)⟩) (pc' := 229) rfl ?_
           rintro _ _ ⟨T1361, L1361, k1361, n1361⟩ X1361 ⟨Lc1361, hQ1361, l1361, y1361, z1361⟩
           dsimp only [Pt.U, Pt.locs, Pt.cells, Pt.slots] at X1361 l1361 y1361 z1361 hQ1361 ⊢
           subst l1361 y1361 z1361
           obtain ⟨rfl, N1361q, e1361⟩ := hQ1361
           have N1362 := Fr.app N1359 N1361q
           show Runs _ _ _ _ (T1361.setTop (mkF m 229 #[.val (.int p0), .val (.int p1), .val (.int p2), .val (.int p3), .val (.ref b20), .val (.ref b36), .val (.int ((p0 &&& (255 : Int32)).toUInt32.toUInt16.toUInt32.toInt32)), .val (.int ((p1 &&& (255 : Int32)).toUInt32.toUInt16.toUInt32.toInt32)), .val (.int ((p2 &&& (255 : Int32)).toUInt32.toUInt16.toUInt32.toInt32)), .val (.int (p3 &&& (3 : Int32))), .val (.ref b984), .val (.ref b984)] [(.ref G_ZERO)]))
           refine w_aload X1361 hx (hb hby at_229) rfl rfl (pc' := 231) rfl ?_
           refine w_getS X1361 hx "" hZ hown (Or.inl (wd_84 hw)) Via.refl e1361 (S_EXPOSURE.ext f1321.2) (hb hby at_231) (pc' := 234) rfl ?_
           intro T1363 X1363 e1363
           have ne1378 : b20 ≠ b36 := (Nat.ne_of_lt (Nat.lt_of_lt_of_le A20.lt (Nat.le_trans K32.1 (Nat.le_of_eq g36.symm))))
           have le1379 : h20.size ≤ h36.size := (Nat.le_trans K32.1 E36.1)
           have le1380 : h20.size ≤ T50.heap.size := (Nat.le_trans le1379 K50.1)
           have le1381 : h20.size ≤ h984.size := (Nat.le_trans le1380 E984.1)
           have ne1382 : b20 ≠ b992 := (Nat.ne_of_lt (Nat.lt_of_lt_of_le A20.lt (Nat.le_trans le1381 (Nat.le_of_eq g992.symm))))
           have ne1383 : b20 ≠ b984 := (Nat.ne_of_lt (Nat.lt_of_lt_of_le A20.lt (Nat.le_trans le1380 (Nat.le_of_eq g984.symm))))
           have f1384 : Fld Z T1314.heap b20 kc0 "unrated" "Ljava/lang/String;" .null := (((((((((((g32_6.ext E36).keep K50 (ninS ne1378 nin0)).ext E984).ext E992).other W1000 (Or.inl ne1382)).other W1007 (Or.inl ne1382)).other W1014 (Or.inl ne1382)).keep K1024 (ninS ne1383 nin0)).keep K1224 (ninS ne1378 nin0)).keep K1308 (ninS ne1378 nin0)).keep K1314 (ninS ne1378 nin0))
           have f1385 : Fld Z T1314.heap b20 kc0 "exposure" "Ljava/math/BigDecimal;" (.ref G_ZERO) := (((((((((((g32_4.ext E36).keep K50 (ninS ne1378 nin0)).ext E984).ext E992).other W1000 (Or.inl ne1382)).other W1007 (Or.inl ne1382)).other W1014 (Or.inl ne1382)).keep K1024 (ninS ne1383 nin0)).keep K1224 (ninS ne1378 nin0)).keep K1308 (ninS ne1378 nin0)).keep K1314 (ninS ne1378 nin0))
           have f1387 : Exa Z T1314.heap b20 kc0 := (((((((((((g32_0.ext E36).keep K50).ext E984).ext E992).wr W1000).wr W1007).wr W1014).keep K1024).keep K1224).keep K1308).keep K1314)
           obtain ⟨cq1386, kq1386, q1386a, q1386b, q1386c⟩ := isOf hZ e1363 f1387
           refine w_virtual X1363 hx (y := yn_10) (z := yn_10) hown (mvT hZ (wd_65 hw)) (mvT hZ (wd_66 hw)) (notFace_of_selects (args := #[]) (mvT hZ (wd_68 hw))) (mvT hZ (wd_68 hw)) (mvT hZ (wd_67 hw)) (by decide) (backOf (W := 1) (rm_m10_9 l Z aZ hw [] b20 G_EXPOSURE G__SwitchMap_com_example_ringfence_ringfence_gate_Measure k_G__SwitchMap_com_example_ringfence_ringfence_gate_Measure G_ZERO T1314.heap n0 (Nat.le_trans Z0 le1318) f1384 S__SwitchMap_com_example_ringfence_ringfence_gate_Measure f1321 f1352 f1357 f1333 f1385) hZ (wd_69 hw) (wd_2 hw) (by decide) (by decide)) q1386a q1386c (by rw [hml]; rfl) [(.ref G_EXPOSURE)] (lenOf pd_5 rfl) rfl (Nat.le_of_eq rfl) (hb hby at_234) (fun _ _ => ⟨rfl, e1363, (by decide : 5 + 0 ≤ _), (by decide : 22 + 0 ≤ _)⟩) (pc' := 237) rfl ?_
           rintro _ _ ⟨T1386, L1386, k1386, n1386⟩ X1386 ⟨Lc1386, hQ1386, l1386, y1386, z1386⟩
           dsimp only [Pt.U, Pt.locs, Pt.cells, Pt.slots] at X1386 l1386 y1386 z1386 hQ1386 ⊢
           subst l1386 y1386 z1386
           obtain ⟨rfl, N1386q, e1386⟩ := hQ1386
           have N1388 := Fr.app N1362 N1386q
           show Runs _ _ _ _ (T1386.setTop (mkF m 237 #[.val (.int p0), .val (.int p1), .val (.int p2), .val (.int p3), .val (.ref b20), .val (.ref b36), .val (.int ((p0 &&& (255 : Int32)).toUInt32.toUInt16.toUInt32.toInt32)), .val (.int ((p1 &&& (255 : Int32)).toUInt32.toUInt16.toUInt32.toInt32)), .val (.int ((p2 &&& (255 : Int32)).toUInt32.toUInt16.toUInt32.toInt32)), .val (.int (p3 &&& (3 : Int32))), .val (.ref b984), .val (.ref b984)] [(.ref G_ZERO), (.ref G_ZERO)]))
           refine w_acmp X1386 hx (hb hby at_237) (same := true) rfl rfl (decide_eq_true rfl) (pc' := 240) (by decide) (by decide) ?_
           refine w_iconst X1386 hx (hb hby at_240) (v := (1 : Int32)) rfl (pc' := 241) rfl ?_
           refine w_goto X1386 hx (hb hby at_241) (pc' := 245) (by decide) (by decide) ?_
           exact w_doneH X1386 hlk (v := some (.int (1 : Int32))) e1386 hh hZ (own_EW hw) hS0 (Nat.le_trans (Nat.le_refl _) le1318) C1316 (fun h => by rw [hret] at h; cases h) (fun fs hr => retN X1386 hx (t := .boolean) hret (by simp) (hb hby at_245) hr) (by decide) (by decide) (fun hsy => ⟨rfl, N1388⟩)
set_option maxRecDepth 65536 in
set_option maxHeartbeats 40000000 in
theorem comes_1 {Post : Tables → Env → Array Value → State → Outcome → State → Prop} (hpost : ∀ tb e args s v u, (limb_1_1.after args s (.returned v) u = true ∧ limb_1_2.after args s (.returned v) u = true ∧ True) → ReturnedEndW s (.returned v) u (Jvm.fieldLocs frame_1_writes args s ++ Jvm.arrayLocs frame_1_arrays args s ++ Jvm.staticLocs frame_1_statics s) 24 1152 → Post tb e args s (.returned v) u) :
    ArmFor flags0 classFile x code maxLocals ret World_1 tables_1 room_1 Calls_1 rest_1 Pre_1 Post := by
  intro l hfl _ _ p e ha hc hk s m args below hf hA hF happ hP
  obtain ⟨hcalls, hrest, hpre⟩ := hP
  obtain ⟨-, -, -, hnamed, -, -, -, hat⟩ := (Spec.applies_iff hf).mp happ
  obtain ⟨hg, hn⟩ := and_e (Cond.before_iff.mp (show (Jvm.Cond.and given_1 narrow_1).before args s = true from hpre))
  obtain ⟨gv1, gv2⟩ := and_e hg
  obtain ⟨gv3, gv4⟩ := and_e gv2
  obtain ⟨gv5, gv6⟩ := and_e gv4
  obtain ⟨gv7, gv8⟩ := and_e gv6
  obtain ⟨w0, w1, w2, w3, rfl⟩ : ∃ w0 w1 w2 w3 : Value, args = #[w0, w1, w2, w3] := by
    have hs : args.size = 4 := by simpa [Cond.value, given_1] using gv1
    obtain ⟨L⟩ := args
    match L, hs with
    | [w0, w1, w2, w3], _ => exact ⟨w0, w1, w2, w3, rfl⟩
  have hw := fun d (hd : d ∈ tables_1) => atoms_spec (ws := Jvm.Cond.code x code maxLocals ret :: tables_1) hat d (List.mem_cons_of_mem _ hd)
  have hfit : Fit s := fun {y c} hc i hi => by
    obtain ⟨ha, rfl⟩ := Array.getElem?_eq_some_iff.mp hc
    have q := List.all_eq_true.mp ((Array.all_eq_true_iff_forall_mem.mp hF) _ (Array.getElem_mem ha)) i (List.mem_range.mpr hi)
    simpa [Array.getElem?_eq_getElem hi] using q
  obtain ⟨hsets, hown0⟩ := atoms_of _ (rest_1_c_eq ▸ (show rest_1_c.before _ s = true from hrest))
  have hr0 := Cond.before_iff.mp hown0
  obtain ⟨i0, ei0⟩ := is_v gv3
  obtain rfl : w0 = (.int i0) := Option.some.inj ei0
  obtain ⟨i1, ei1⟩ := is_v gv5
  obtain rfl : w1 = (.int i1) := Option.some.inj ei1
  obtain ⟨i2, ei2⟩ := is_v gv7
  obtain rfl : w2 = (.int i2) := Option.some.inj ei2
  obtain ⟨i3, ei3⟩ := is_v gv8
  obtain rfl : w3 = (.int i3) := Option.some.inj ei3
  obtain ⟨gv9, gv10⟩ := and_e hn
  obtain ⟨gv11, gv12⟩ := and_e gv10
  obtain ⟨gv13, gv14⟩ := and_e gv12
  obtain ⟨gv15, gv16⟩ := and_e gv14
  obtain ⟨gv17, gv18⟩ := and_e gv16
  obtain ⟨gv19, gv20⟩ := and_e gv18
  obtain ⟨gv21, gv22⟩ := and_e gv20
  obtain ⟨gv23, gv24⟩ := and_e gv22
  obtain ⟨G_DOWNSIDE, ev_G_DOWNSIDE⟩ := exa_v gv9
  have S_DOWNSIDE := Sta.start ev_G_DOWNSIDE (Or.inr ⟨(wd_63 hw), (wd_64 hw)⟩)
  obtain ⟨G_UPSIDE, ev_G_UPSIDE⟩ := exa_v gv17
  have S_UPSIDE := Sta.start ev_G_UPSIDE (Or.inr ⟨(wd_63 hw), (wd_83 hw)⟩)
  obtain ⟨G_EXPOSURE, ev_G_EXPOSURE⟩ := exa_v gv21
  have S_EXPOSURE := Sta.start ev_G_EXPOSURE (Or.inr ⟨(wd_63 hw), (wd_85 hw)⟩)
  obtain ⟨G__SwitchMap_com_example_ringfence_ringfence_gate_Measure, ev_G__SwitchMap_com_example_ringfence_ringfence_gate_Measure⟩ := arr_v gv11
  have S__SwitchMap_com_example_ringfence_ringfence_gate_Measure := Sta.start ev_G__SwitchMap_com_example_ringfence_ringfence_gate_Measure (Or.inr ⟨(wd_71 hw), (wd_72 hw)⟩)
  obtain ⟨cl_G__SwitchMap_com_example_ringfence_ringfence_gate_Measure, Ar_G__SwitchMap_com_example_ringfence_ringfence_gate_Measure⟩ := Arr.start ev_G__SwitchMap_com_example_ringfence_ringfence_gate_Measure gv11
  obtain ⟨qA_G__SwitchMap_com_example_ringfence_ringfence_gate_Measure, eA_G__SwitchMap_com_example_ringfence_ringfence_gate_Measure⟩ := own_len ev_G__SwitchMap_com_example_ringfence_ringfence_gate_Measure Ar_G__SwitchMap_com_example_ringfence_ringfence_gate_Measure gv13
  have V_G__SwitchMap_com_example_ringfence_ringfence_gate_Measure : Arv s s.heap G__SwitchMap_com_example_ringfence_ringfence_gate_Measure cl_G__SwitchMap_com_example_ringfence_ringfence_gate_Measure.cls .int (5 : Int32) [(.int (1 : Int32)), (.int (2 : Int32)), (.int (3 : Int32)), (.int (4 : Int32)), (.int (5 : Int32))] (.int (0 : Int32)) := Arv.start hfit Ar_G__SwitchMap_com_example_ringfence_ringfence_gate_Measure qA_G__SwitchMap_com_example_ringfence_ringfence_gate_Measure eA_G__SwitchMap_com_example_ringfence_ringfence_gate_Measure (by decide) (by decide) ⟨(own_sw (fun _ => ev_G__SwitchMap_com_example_ringfence_ringfence_gate_Measure) Ar_G__SwitchMap_com_example_ringfence_ringfence_gate_Measure qA_G__SwitchMap_com_example_ringfence_ringfence_gate_Measure gv24 (i := 0) (by rw [show cl_G__SwitchMap_com_example_ringfence_ringfence_gate_Measure.slots.size = 5 from own_sz qA_G__SwitchMap_com_example_ringfence_ringfence_gate_Measure eA_G__SwitchMap_com_example_ringfence_ringfence_gate_Measure rfl]; decide) _ (by decide)), (own_sw (fun _ => ev_G__SwitchMap_com_example_ringfence_ringfence_gate_Measure) Ar_G__SwitchMap_com_example_ringfence_ringfence_gate_Measure qA_G__SwitchMap_com_example_ringfence_ringfence_gate_Measure gv24 (i := 1) (by rw [show cl_G__SwitchMap_com_example_ringfence_ringfence_gate_Measure.slots.size = 5 from own_sz qA_G__SwitchMap_com_example_ringfence_ringfence_gate_Measure eA_G__SwitchMap_com_example_ringfence_ringfence_gate_Measure rfl]; decide) _ (by decide)), (own_sw (fun _ => ev_G__SwitchMap_com_example_ringfence_ringfence_gate_Measure) Ar_G__SwitchMap_com_example_ringfence_ringfence_gate_Measure qA_G__SwitchMap_com_example_ringfence_ringfence_gate_Measure gv24 (i := 2) (by rw [show cl_G__SwitchMap_com_example_ringfence_ringfence_gate_Measure.slots.size = 5 from own_sz qA_G__SwitchMap_com_example_ringfence_ringfence_gate_Measure eA_G__SwitchMap_com_example_ringfence_ringfence_gate_Measure rfl]; decide) _ (by decide)), (own_sw (fun _ => ev_G__SwitchMap_com_example_ringfence_ringfence_gate_Measure) Ar_G__SwitchMap_com_example_ringfence_ringfence_gate_Measure qA_G__SwitchMap_com_example_ringfence_ringfence_gate_Measure gv24 (i := 3) (by rw [show cl_G__SwitchMap_com_example_ringfence_ringfence_gate_Measure.slots.size = 5 from own_sz qA_G__SwitchMap_com_example_ringfence_ringfence_gate_Measure eA_G__SwitchMap_com_example_ringfence_ringfence_gate_Measure rfl]; decide) _ (by decide)), (own_sw (fun _ => ev_G__SwitchMap_com_example_ringfence_ringfence_gate_Measure) Ar_G__SwitchMap_com_example_ringfence_ringfence_gate_Measure qA_G__SwitchMap_com_example_ringfence_ringfence_gate_Measure gv24 (i := 4) (by rw [show cl_G__SwitchMap_com_example_ringfence_ringfence_gate_Measure.slots.size = 5 from own_sz qA_G__SwitchMap_com_example_ringfence_ringfence_gate_Measure eA_G__SwitchMap_com_example_ringfence_ringfence_gate_Measure rfl]; decide) _ (by decide)), trivial⟩
  obtain ⟨G_ZERO, ev_G_ZERO⟩ := exa_v (Cond.before_iff.mp (hsets _ (List.mem_of_getElem? (i := 4) rfl)))
  have S_ZERO := Sta.start ev_G_ZERO (Or.inl (hsets _ (List.mem_of_getElem? (i := 1) rfl)))
  obtain ⟨G_COMPACT_STRINGS, ev_G_COMPACT_STRINGS⟩ := is_v (Cond.before_iff.mp (hsets _ (List.mem_of_getElem? (i := 14) rfl)))
  have S_COMPACT_STRINGS := Sta.start ev_G_COMPACT_STRINGS (Or.inl (hsets _ (List.mem_of_getElem? (i := 13) rfl)))
  have hP_13 : ¬ (G_COMPACT_STRINGS = (0 : Int32)) := fun q => by
    have h9 := not_v (Cond.before_iff.mp (hsets _ (List.mem_of_getElem? (i := 15) rfl)))
    rw [eq_i ev_G_COMPACT_STRINGS (Term.int_eval 0) (by rw [q])] at h9
    cases h9
  have hCH : CHv s EL s.vm s.heap := fun p hp => by simp [EL] at hp
  obtain ⟨n, o, h1, h2, h3, _, L, rfl, ⟨rfl, N⟩, -, hq⟩ := rm_law l s _ hw tables_1 i0 i1 i2 i3 cl_G__SwitchMap_com_example_ringfence_ringfence_gate_Measure.cls G_DOWNSIDE G_UPSIDE G_EXPOSURE G__SwitchMap_com_example_ringfence_ringfence_gate_Measure G_ZERO G_COMPACT_STRINGS s.heap s.heap.size (Nat.le_refl _) S_DOWNSIDE S_UPSIDE S_EXPOSURE S__SwitchMap_com_example_ringfence_ringfence_gate_Measure (Exa.start ev_G_DOWNSIDE gv9) (Fld.start ((fld_at ev_G_DOWNSIDE).symm.trans (eqv_i (Term.int_eval _) gv15))) (Exa.start ev_G_UPSIDE gv17) (Fld.start ((fld_at ev_G_UPSIDE).symm.trans (eqv_i (Term.int_eval _) gv19))) (Exa.start ev_G_EXPOSURE gv21) (Fld.start ((fld_at ev_G_EXPOSURE).symm.trans (eqv_i (Term.int_eval _) gv23))) V_G__SwitchMap_com_example_ringfence_ringfence_gate_Measure S_ZERO (Old.start s) hP_13 S_COMPACT_STRINGS p e ha hc hk s m _ below hf ((Spec.applies_iff_loose hf).mp happ).1 ⟨rfl, State.Warmed39.refl s, rfl, hCH, fun x hx => nomatch hx⟩ trivial
  refine ⟨n, _, h1, h2, h3, hpost _ _ _ _ _ _ ⟨Cond.after_iff.mpr rfl, Cond.after_iff.mpr (eq_i res_at (Term.int_eval (1)) rfl), trivial⟩ ⟨hq.1, hq.2.1, hq.2.2.1, (hq.2.2.2.sift fun y hy => Or.inr (N y hy)).mono (by decide) (by decide)⟩⟩
theorem main_1_1 : Claimed_1_1 := comes_1 fun _ _ _ _ _ _ h hF => ⟨h.1, hF⟩
theorem main_1_2 : Claimed_1_2 := comes_1 fun _ _ _ _ _ _ h hF => ⟨h.2.1, hF⟩
end Jvm.Pilot.@@N@@
namespace Jvm.Pilot.@@N@@
open Jvm Jvm.ClassFile Sem Op Lib Jvm.Free Jvm.Stand Jvm.Pilot.@@N@@.Jvm.D
/-! MADE BY PROGRAM (witnessworld.py) out of the Statement's table words and the real class files: 26 classes; the members and pool entries that the words name. The judged class is class 1, her method 1. -/
namespace start1
open Jvm.ClassFile
def u (s : String) : CpInfo := .utf8 (stringToUtf16 s)
/-- a pool by its gaps: so many unusable entries, then the entry; so many at the end -/
def gap : Nat → List CpInfo → List CpInfo
  | 0, r => r
  | n + 1, r => .unusable :: gap n r
def poolList (es : List (Nat × CpInfo)) (last : Nat) : List CpInfo := es.foldr (fun e r => gap e.1 (e.2 :: r)) (gap last [])
def pool (es : List (Nat × CpInfo)) (last : Nat) : Array CpInfo := ⟨poolList es last⟩
def fileOf (pool : Array CpInfo) (this : Nat) (attrs : Array Attribute := #[]) (ms : Array MethodInfo := #[]) (fl : Nat := 33) (sup : Nat := 0) (ifs : Array Nat := #[]) (fds : Array FieldInfo := #[]) : ClassFile where
  minorVersion := 0
  majorVersion := 65
  constantPool := pool
  accessFlags := fl
  thisClass := this
  superClass := sup
  interfaces := ifs
  fields := fds
  methods := ms
  attributes := attrs
def plain (name : String) (sup : Option ClassId) : Class where
  name := name
  kind := .ordinary
  loader := none
  accessFlags := 33
  super := sup
  interfaces := #[]
  cf := none
  fields := #[]
  methods := #[]
  instanceTypes := #[]
  staticTypes := #[]
  resolved := #[]
  callSites := []
  init := .initialized
  statics := none
  mirror := none

def pool0 : Array CpInfo := pool [(5, u "<init>"), (0, u "()V"), (1, .class_ 10), (1, u "java/lang/Object")] 113

def k0c0 : Code := { maxStack := 0, maxLocals := 1, code := object_method_1_code, exceptionTable := #[], attributes := #[] }
def k0m0 : Method := { name := "<init>", desc := "()V", sig := { parameters := [], returnType := none }, accessFlags := 1, code := some k0c0 }
/-- java/lang/Object -/
def k0 : Class := { plain "java/lang/Object" none with
  accessFlags := 33
  interfaces := #[]
  cf := some (fileOf pool0 8 #[] #[{ accessFlags := 1, nameIndex := 5, descriptorIndex := 6, attributes := #[] }] 33 0 #[] #[])
  fields := #[]
  methods := #[k0m0]
  instanceTypes := #[]
  staticTypes := #[]
  resolved := Array.replicate 124 none
  statics := none }

def pool1 : Array CpInfo := pool [(2, .class_ 4), (1, u "java/lang/Object"), (0, u "<init>"), (0, u "()V"), (0, .class_ 8), (0, u "com/example/ringfence/ringfence/gate/Measures"), (0, .methodref 7 10), (0, .nameAndType 5 11), (0, u "(Lcom/example/ringfence/ringfence/gate/Pool;)V"), (0, .string 13), (0, u ""), (0, .methodref 15 16), (0, .class_ 17), (0, .nameAndType 18 19), (0, u "java/lang/String"), (0, u "valueOf"), (0, u "(C)Ljava/lang/String;"), (0, .methodref 15 21), (0, .nameAndType 5 22), (0, u "([C)V"), (0, .methodref 7 24), (0, .nameAndType 25 26), (0, u "setUnrated"), (0, u "(Ljava/lang/String;)V"), (0, .methodref 7 28), (0, .nameAndType 29 6), (0, u "clear"), (0, .methodref 7 31), (0, .nameAndType 32 33), (0, u "unrated"), (0, u "()Ljava/lang/String;"), (0, .fieldref 35 36), (0, .class_ 37), (0, .nameAndType 38 39), (0, u "com/example/ringfence/ringfence/gate/Measure"), (0, u "DOWNSIDE"), (0, u "Lcom/example/ringfence/ringfence/gate/Measure;"), (0, .methodref 7 41), (0, .nameAndType 42 43), (0, u "value"), (0, u "(Lcom/example/ringfence/ringfence/gate/Measure;)Ljava/math/BigDecimal;"), (0, .fieldref 35 45), (0, .nameAndType 46 39), (0, u "UPSIDE"), (0, .fieldref 35 48), (0, .nameAndType 49 39), (0, u "EXPOSURE"), (0, .class_ 51), (0, u "com/example/ringfence/ringfence/gate/MeasuresClearPinLaw"), (2, u "law"), (0, u "(IIII)Z")] 3

def k1m0 : Method := { name := "<init>", desc := "()V", sig := { parameters := [], returnType := none }, accessFlags := 1, code := none }
def k1c1 : Code := { maxStack := 6, maxLocals := 12, code := code, exceptionTable := #[], attributes := #[] }
def k1m1 : Method := { name := "law", desc := "(IIII)Z", sig := { parameters := [.int, .int, .int, .int], returnType := some .boolean }, accessFlags := 9, code := some k1c1 }
/-- com/example/ringfence/ringfence/gate/MeasuresClearPinLaw -/
def k1 : Class := { plain "com/example/ringfence/ringfence/gate/MeasuresClearPinLaw" (some 0) with
  accessFlags := 49
  interfaces := #[]
  cf := some (fileOf pool1 50 #[] #[{ accessFlags := 1, nameIndex := 5, descriptorIndex := 6, attributes := #[] }, { accessFlags := 9, nameIndex := 54, descriptorIndex := 55, attributes := #[] }] 49 2 #[] #[])
  fields := #[]
  methods := #[k1m0, k1m1]
  instanceTypes := #[]
  staticTypes := #[]
  resolved := Array.replicate 59 none
  statics := none }

def pool2 : Array CpInfo := pool [(1, .methodref 2 3), (0, .class_ 4), (0, .nameAndType 5 6), (0, u "java/lang/Object"), (0, u "<init>"), (0, u "()V"), (0, .fieldref 8 9), (0, .class_ 10), (0, .nameAndType 11 12), (0, u "java/math/BigDecimal"), (0, u "ZERO"), (0, u "Ljava/math/BigDecimal;"), (0, .fieldref 14 15), (0, .class_ 16), (0, .nameAndType 17 12), (0, u "com/example/ringfence/ringfence/gate/Measures"), (0, u "open"), (0, .fieldref 14 19), (0, .nameAndType 20 12), (0, u "downside"), (0, .fieldref 14 22), (0, .nameAndType 23 12), (0, u "upside"), (0, .fieldref 14 25), (0, .nameAndType 26 12), (0, u "exposure"), (0, .fieldref 14 28), (0, .nameAndType 29 30), (0, u "pool"), (0, u "Lcom/example/ringfence/ringfence/gate/Pool;"), (0, .fieldref 14 32), (0, .nameAndType 33 34), (0, u "unrated"), (0, u "Ljava/lang/String;"), (0, .fieldref 36 37), (0, .class_ 38), (0, .nameAndType 39 40), (0, u "com/example/ringfence/ringfence/gate/Measures$1"), (0, u "$SwitchMap$com$example$ringfence$ringfence$gate$Measure"), (0, u "[I"), (0, .methodref 42 43), (0, .class_ 44), (0, .nameAndType 45 46), (0, u "com/example/ringfence/ringfence/gate/Measure"), (0, u "ordinal"), (0, u "()I"), (7, u "HALF"), (49, u "(Ljava/lang/String;)V"), (0, u "(Lcom/example/ringfence/ringfence/gate/Pool;)V"), (3, u "value"), (0, u "(Lcom/example/ringfence/ringfence/gate/Measure;)Ljava/math/BigDecimal;"), (1, u "()Ljava/lang/String;"), (0, u "setUnrated"), (1, u "clear")] 7

def k2c0 : Code := { maxStack := 2, maxLocals := 2, code := prog_36_method_1_code, exceptionTable := #[], attributes := #[] }
def k2m0 : Method := { name := "<init>", desc := "(Lcom/example/ringfence/ringfence/gate/Pool;)V", sig := { parameters := [(.object "com/example/ringfence/ringfence/gate/Pool")], returnType := none }, accessFlags := 0, code := some k2c0 }
def k2c1 : Code := { maxStack := 4, maxLocals := 2, code := prog_36_method_3_code, exceptionTable := #[], attributes := #[] }
def k2m1 : Method := { name := "value", desc := "(Lcom/example/ringfence/ringfence/gate/Measure;)Ljava/math/BigDecimal;", sig := { parameters := [(.object "com/example/ringfence/ringfence/gate/Measure")], returnType := some (.object "java/math/BigDecimal") }, accessFlags := 1, code := some k2c1 }
def k2c2 : Code := { maxStack := 1, maxLocals := 1, code := prog_36_method_4_code, exceptionTable := #[], attributes := #[] }
def k2m2 : Method := { name := "unrated", desc := "()Ljava/lang/String;", sig := { parameters := [], returnType := some (.object "java/lang/String") }, accessFlags := 0, code := some k2c2 }
def k2c3 : Code := { maxStack := 2, maxLocals := 2, code := prog_36_method_5_code, exceptionTable := #[], attributes := #[] }
def k2m3 : Method := { name := "setUnrated", desc := "(Ljava/lang/String;)V", sig := { parameters := [(.object "java/lang/String")], returnType := none }, accessFlags := 0, code := some k2c3 }
def k2c4 : Code := { maxStack := 2, maxLocals := 1, code := prog_36_method_7_code, exceptionTable := #[], attributes := #[] }
def k2m4 : Method := { name := "clear", desc := "()V", sig := { parameters := [], returnType := none }, accessFlags := 0, code := some k2c4 }
/-- com/example/ringfence/ringfence/gate/Measures -/
def k2 : Class := { plain "com/example/ringfence/ringfence/gate/Measures" (some 0) with
  accessFlags := 49
  interfaces := #[]
  cf := some (fileOf pool2 14 #[.nestMembers #[36]] #[{ accessFlags := 0, nameIndex := 5, descriptorIndex := 105, attributes := #[] }, { accessFlags := 1, nameIndex := 109, descriptorIndex := 110, attributes := #[] }, { accessFlags := 0, nameIndex := 33, descriptorIndex := 112, attributes := #[] }, { accessFlags := 0, nameIndex := 113, descriptorIndex := 104, attributes := #[] }, { accessFlags := 0, nameIndex := 115, descriptorIndex := 6, attributes := #[] }] 49 2 #[] #[{ accessFlags := 26, nameIndex := 54, descriptorIndex := 12, attributes := #[] }, { accessFlags := 18, nameIndex := 29, descriptorIndex := 30, attributes := #[] }, { accessFlags := 2, nameIndex := 33, descriptorIndex := 34, attributes := #[] }, { accessFlags := 2, nameIndex := 17, descriptorIndex := 12, attributes := #[] }, { accessFlags := 2, nameIndex := 20, descriptorIndex := 12, attributes := #[] }, { accessFlags := 2, nameIndex := 23, descriptorIndex := 12, attributes := #[] }, { accessFlags := 2, nameIndex := 26, descriptorIndex := 12, attributes := #[] }])
  fields := #[{ name := "HALF", type := (.object "java/math/BigDecimal"), accessFlags := 26, slot := 0, constantValue := 0 }, { name := "pool", type := (.object "com/example/ringfence/ringfence/gate/Pool"), accessFlags := 18, slot := 0, constantValue := 0 }, { name := "unrated", type := (.object "java/lang/String"), accessFlags := 2, slot := 1, constantValue := 0 }, { name := "open", type := (.object "java/math/BigDecimal"), accessFlags := 2, slot := 2, constantValue := 0 }, { name := "downside", type := (.object "java/math/BigDecimal"), accessFlags := 2, slot := 3, constantValue := 0 }, { name := "upside", type := (.object "java/math/BigDecimal"), accessFlags := 2, slot := 4, constantValue := 0 }, { name := "exposure", type := (.object "java/math/BigDecimal"), accessFlags := 2, slot := 5, constantValue := 0 }]
  methods := #[k2m0, k2m1, k2m2, k2m3, k2m4]
  instanceTypes := #[(.object "com/example/ringfence/ringfence/gate/Pool"), (.object "java/lang/String"), (.object "java/math/BigDecimal"), (.object "java/math/BigDecimal"), (.object "java/math/BigDecimal"), (.object "java/math/BigDecimal")]
  staticTypes := #[(.object "java/math/BigDecimal")]
  resolved := Array.replicate 123 none
  statics := none }

def pool3 : Array CpInfo := pool [(1, .class_ 2), (0, u "java/io/Serializable"), (0, .class_ 4), (0, u "java/lang/Object")] 2

/-- java/io/Serializable -/
def k3 : Class := { plain "java/io/Serializable" (some 0) with
  accessFlags := 1537
  interfaces := #[]
  cf := some (fileOf pool3 1 #[] #[] 1537 3 #[] #[])
  fields := #[]
  methods := #[]
  instanceTypes := #[]
  staticTypes := #[]
  resolved := Array.replicate 7 none
  statics := none }

def pool4 : Array CpInfo := pool [(2, .class_ 4), (1, u "java/lang/Object"), (0, u "<init>"), (0, u "()V"), (1, .class_ 10), (1, u "java/lang/Number"), (2, .class_ 14), (0, u "java/io/Serializable"), (0, u "serialVersionUID"), (0, u "J")] 20

def k4m0 : Method := { name := "<init>", desc := "()V", sig := { parameters := [], returnType := none }, accessFlags := 1, code := none }
/-- java/lang/Number -/
def k4 : Class := { plain "java/lang/Number" (some 0) with
  accessFlags := 1057
  interfaces := #[3]
  cf := some (fileOf pool4 8 #[] #[{ accessFlags := 1, nameIndex := 5, descriptorIndex := 6, attributes := #[] }] 1057 2 #[13] #[{ accessFlags := 26, nameIndex := 15, descriptorIndex := 16, attributes := #[] }])
  fields := #[{ name := "serialVersionUID", type := .long, accessFlags := 26, slot := 0, constantValue := 0 }]
  methods := #[k4m0]
  instanceTypes := #[]
  staticTypes := #[.long]
  resolved := Array.replicate 37 none
  statics := none }

def pool5 : Array CpInfo := pool [(1, .class_ 2), (0, u "java/lang/Comparable"), (0, .class_ 4), (0, u "java/lang/Object")] 7

/-- java/lang/Comparable -/
def k5 : Class := { plain "java/lang/Comparable" (some 0) with
  accessFlags := 1537
  interfaces := #[]
  cf := some (fileOf pool5 1 #[] #[] 1537 3 #[] #[])
  fields := #[]
  methods := #[]
  instanceTypes := #[]
  staticTypes := #[]
  resolved := Array.replicate 12 none
  statics := none }

def pool6 : Array CpInfo := pool [(3, .class_ 4), (0, u "java/math/BigDecimal"), (7, .class_ 14), (1, u "java/lang/Number"), (4, u "scale"), (0, u "I"), (2, u "precision"), (2, u "intCompact"), (0, u "J"), (2, u "intVal"), (0, u "Ljava/math/BigInteger;"), (65, u "LONG_TEN_POWERS_TABLE"), (0, u "[J"), (88, u "ZERO"), (2, u "INFLATED_BIGINT"), (15, u "TWO"), (41, u "ZERO_THROUGH_TEN"), (0, u "[Ljava/math/BigDecimal;"), (2, u "ZERO_SCALED_BY"), (60, u "$assertionsDisabled"), (0, u "Z"), (163, u "ONE_TENTH"), (0, u "Ljava/math/BigDecimal;"), (5, u "TEN"), (14, .class_ 502), (1, u "java/math/BigDecimal$1"), (15, u "ONE_HALF"), (16, u "ONE"), (107, u "stringCache"), (0, u "Ljava/lang/String;"), (52, .class_ 699), (1, u "java/math/BigDecimal$LongOverflow"), (8, u "FLOAT_10_POW"), (0, u "[F"), (39, u "DOUBLE_10_POW"), (0, u "[D"), (19, .class_ 772), (1, u "java/math/BigDecimal$StringBuilderHelper"), (35, u "BIG_TEN_POWERS_TABLE_MAX"), (2, u "BIG_TEN_POWERS_TABLE"), (0, u "[Ljava/math/BigInteger;"), (14, u "THRESHOLDS_TABLE"), (23, .class_ 853), (1, u "java/math/BigDecimal$UnsafeHolder"), (214, u "LONGLONG_TEN_POWERS_TABLE"), (0, u "[[J"), (112, u "BIG_TEN_POWERS_TABLE_INITLEN"), (113, .class_ 1297), (0, u "java/lang/Comparable"), (0, u "L"), (0, u "D"), (1, u "P_F"), (1, u "Q_MIN_F"), (1, u "Q_MAX_F"), (1, u "P_D"), (1, u "Q_MIN_D"), (1, u "Q_MAX_D"), (1, u "INFLATED"), (0, u "MAX_COMPACT_DIGITS"), (1, u "serialVersionUID"), (2, u "HALF_LONG_MAX_VALUE"), (0, u "HALF_LONG_MIN_VALUE"), (0, u "ROUND_UP"), (6, u "ROUND_DOWN"), (1, u "ROUND_CEILING"), (1, u "ROUND_FLOOR"), (1, u "ROUND_HALF_UP"), (1, u "ROUND_HALF_DOWN"), (1, u "ROUND_HALF_EVEN"), (1, u "ROUND_UNNECESSARY"), (1, u "DIV_NUM_BASE")] 294

/-- java/math/BigDecimal -/
def k6 : Class := { plain "java/math/BigDecimal" (some 4) with
  accessFlags := 33
  interfaces := #[5]
  cf := some (fileOf pool6 3 #[.nestMembers #[500, 851, 770, 697]] #[] 33 12 #[1296] #[{ accessFlags := 26, nameIndex := 1298, descriptorIndex := 1299, attributes := #[] }, { accessFlags := 26, nameIndex := 1301, descriptorIndex := 20, attributes := #[] }, { accessFlags := 26, nameIndex := 1303, descriptorIndex := 20, attributes := #[] }, { accessFlags := 26, nameIndex := 1305, descriptorIndex := 20, attributes := #[] }, { accessFlags := 26, nameIndex := 1307, descriptorIndex := 20, attributes := #[] }, { accessFlags := 26, nameIndex := 1309, descriptorIndex := 20, attributes := #[] }, { accessFlags := 26, nameIndex := 1311, descriptorIndex := 20, attributes := #[] }, { accessFlags := 18, nameIndex := 30, descriptorIndex := 31, attributes := #[] }, { accessFlags := 18, nameIndex := 19, descriptorIndex := 20, attributes := #[] }, { accessFlags := 130, nameIndex := 23, descriptorIndex := 20, attributes := #[] }, { accessFlags := 130, nameIndex := 643, descriptorIndex := 644, attributes := #[] }, { accessFlags := 24, nameIndex := 1313, descriptorIndex := 27, attributes := #[] }, { accessFlags := 26, nameIndex := 190, descriptorIndex := 31, attributes := #[] }, { accessFlags := 146, nameIndex := 26, descriptorIndex := 27, attributes := #[] }, { accessFlags := 26, nameIndex := 1314, descriptorIndex := 20, attributes := #[] }, { accessFlags := 26, nameIndex := 1316, descriptorIndex := 27, attributes := #[] }, { accessFlags := 26, nameIndex := 248, descriptorIndex := 249, attributes := #[] }, { accessFlags := 26, nameIndex := 252, descriptorIndex := 249, attributes := #[] }, { accessFlags := 26, nameIndex := 1319, descriptorIndex := 27, attributes := #[] }, { accessFlags := 26, nameIndex := 1320, descriptorIndex := 27, attributes := #[] }, { accessFlags := 25, nameIndex := 187, descriptorIndex := 479, attributes := #[] }, { accessFlags := 25, nameIndex := 535, descriptorIndex := 479, attributes := #[] }, { accessFlags := 25, nameIndex := 206, descriptorIndex := 479, attributes := #[] }, { accessFlags := 25, nameIndex := 485, descriptorIndex := 479, attributes := #[] }, { accessFlags := 26, nameIndex := 478, descriptorIndex := 479, attributes := #[] }, { accessFlags := 26, nameIndex := 518, descriptorIndex := 479, attributes := #[] }, { accessFlags := 25, nameIndex := 1321, descriptorIndex := 20, attributes := #[] }, { accessFlags := 25, nameIndex := 1328, descriptorIndex := 20, attributes := #[] }, { accessFlags := 25, nameIndex := 1330, descriptorIndex := 20, attributes := #[] }, { accessFlags := 25, nameIndex := 1332, descriptorIndex := 20, attributes := #[] }, { accessFlags := 25, nameIndex := 1334, descriptorIndex := 20, attributes := #[] }, { accessFlags := 25, nameIndex := 1336, descriptorIndex := 20, attributes := #[] }, { accessFlags := 25, nameIndex := 1338, descriptorIndex := 20, attributes := #[] }, { accessFlags := 25, nameIndex := 1340, descriptorIndex := 20, attributes := #[] }, { accessFlags := 26, nameIndex := 749, descriptorIndex := 750, attributes := #[] }, { accessFlags := 26, nameIndex := 708, descriptorIndex := 709, attributes := #[] }, { accessFlags := 26, nameIndex := 97, descriptorIndex := 98, attributes := #[] }, { accessFlags := 74, nameIndex := 811, descriptorIndex := 812, attributes := #[] }, { accessFlags := 26, nameIndex := 1182, descriptorIndex := 20, attributes := #[] }, { accessFlags := 26, nameIndex := 808, descriptorIndex := 20, attributes := #[] }, { accessFlags := 26, nameIndex := 827, descriptorIndex := 98, attributes := #[] }, { accessFlags := 26, nameIndex := 1342, descriptorIndex := 27, attributes := #[] }, { accessFlags := 26, nameIndex := 1068, descriptorIndex := 1069, attributes := #[] }, { accessFlags := 4120, nameIndex := 313, descriptorIndex := 314, attributes := #[] }])
  fields := #[{ name := "L", type := .double, accessFlags := 26, slot := 0, constantValue := 0 }, { name := "P_F", type := .int, accessFlags := 26, slot := 1, constantValue := 0 }, { name := "Q_MIN_F", type := .int, accessFlags := 26, slot := 2, constantValue := 0 }, { name := "Q_MAX_F", type := .int, accessFlags := 26, slot := 3, constantValue := 0 }, { name := "P_D", type := .int, accessFlags := 26, slot := 4, constantValue := 0 }, { name := "Q_MIN_D", type := .int, accessFlags := 26, slot := 5, constantValue := 0 }, { name := "Q_MAX_D", type := .int, accessFlags := 26, slot := 6, constantValue := 0 }, { name := "intVal", type := (.object "java/math/BigInteger"), accessFlags := 18, slot := 0, constantValue := 0 }, { name := "scale", type := .int, accessFlags := 18, slot := 1, constantValue := 0 }, { name := "precision", type := .int, accessFlags := 130, slot := 2, constantValue := 0 }, { name := "stringCache", type := (.object "java/lang/String"), accessFlags := 130, slot := 3, constantValue := 0 }, { name := "INFLATED", type := .long, accessFlags := 24, slot := 7, constantValue := 0 }, { name := "INFLATED_BIGINT", type := (.object "java/math/BigInteger"), accessFlags := 26, slot := 8, constantValue := 0 }, { name := "intCompact", type := .long, accessFlags := 146, slot := 4, constantValue := 0 }, { name := "MAX_COMPACT_DIGITS", type := .int, accessFlags := 26, slot := 9, constantValue := 0 }, { name := "serialVersionUID", type := .long, accessFlags := 26, slot := 10, constantValue := 0 }, { name := "ZERO_THROUGH_TEN", type := (.array (.object "java/math/BigDecimal")), accessFlags := 26, slot := 11, constantValue := 0 }, { name := "ZERO_SCALED_BY", type := (.array (.object "java/math/BigDecimal")), accessFlags := 26, slot := 12, constantValue := 0 }, { name := "HALF_LONG_MAX_VALUE", type := .long, accessFlags := 26, slot := 13, constantValue := 0 }, { name := "HALF_LONG_MIN_VALUE", type := .long, accessFlags := 26, slot := 14, constantValue := 0 }, { name := "ZERO", type := (.object "java/math/BigDecimal"), accessFlags := 25, slot := 15, constantValue := 0 }, { name := "ONE", type := (.object "java/math/BigDecimal"), accessFlags := 25, slot := 16, constantValue := 0 }, { name := "TWO", type := (.object "java/math/BigDecimal"), accessFlags := 25, slot := 17, constantValue := 0 }, { name := "TEN", type := (.object "java/math/BigDecimal"), accessFlags := 25, slot := 18, constantValue := 0 }, { name := "ONE_TENTH", type := (.object "java/math/BigDecimal"), accessFlags := 26, slot := 19, constantValue := 0 }, { name := "ONE_HALF", type := (.object "java/math/BigDecimal"), accessFlags := 26, slot := 20, constantValue := 0 }, { name := "ROUND_UP", type := .int, accessFlags := 25, slot := 21, constantValue := 0 }, { name := "ROUND_DOWN", type := .int, accessFlags := 25, slot := 22, constantValue := 0 }, { name := "ROUND_CEILING", type := .int, accessFlags := 25, slot := 23, constantValue := 0 }, { name := "ROUND_FLOOR", type := .int, accessFlags := 25, slot := 24, constantValue := 0 }, { name := "ROUND_HALF_UP", type := .int, accessFlags := 25, slot := 25, constantValue := 0 }, { name := "ROUND_HALF_DOWN", type := .int, accessFlags := 25, slot := 26, constantValue := 0 }, { name := "ROUND_HALF_EVEN", type := .int, accessFlags := 25, slot := 27, constantValue := 0 }, { name := "ROUND_UNNECESSARY", type := .int, accessFlags := 25, slot := 28, constantValue := 0 }, { name := "DOUBLE_10_POW", type := (.array .double), accessFlags := 26, slot := 29, constantValue := 0 }, { name := "FLOAT_10_POW", type := (.array .float), accessFlags := 26, slot := 30, constantValue := 0 }, { name := "LONG_TEN_POWERS_TABLE", type := (.array .long), accessFlags := 26, slot := 31, constantValue := 0 }, { name := "BIG_TEN_POWERS_TABLE", type := (.array (.object "java/math/BigInteger")), accessFlags := 74, slot := 32, constantValue := 0 }, { name := "BIG_TEN_POWERS_TABLE_INITLEN", type := .int, accessFlags := 26, slot := 33, constantValue := 0 }, { name := "BIG_TEN_POWERS_TABLE_MAX", type := .int, accessFlags := 26, slot := 34, constantValue := 0 }, { name := "THRESHOLDS_TABLE", type := (.array .long), accessFlags := 26, slot := 35, constantValue := 0 }, { name := "DIV_NUM_BASE", type := .long, accessFlags := 26, slot := 36, constantValue := 0 }, { name := "LONGLONG_TEN_POWERS_TABLE", type := (.array (.array .long)), accessFlags := 26, slot := 37, constantValue := 0 }, { name := "$assertionsDisabled", type := .boolean, accessFlags := 4120, slot := 38, constantValue := 0 }]
  methods := #[]
  instanceTypes := #[(.object "java/math/BigInteger"), .int, .int, (.object "java/lang/String"), .long]
  staticTypes := #[.double, .int, .int, .int, .int, .int, .int, .long, (.object "java/math/BigInteger"), .int, .long, (.array (.object "java/math/BigDecimal")), (.array (.object "java/math/BigDecimal")), .long, .long, (.object "java/math/BigDecimal"), (.object "java/math/BigDecimal"), (.object "java/math/BigDecimal"), (.object "java/math/BigDecimal"), (.object "java/math/BigDecimal"), (.object "java/math/BigDecimal"), .int, .int, .int, .int, .int, .int, .int, .int, (.array .double), (.array .float), (.array .long), (.array (.object "java/math/BigInteger")), .int, .int, (.array .long), .long, (.array (.array .long)), .boolean]
  resolved := Array.replicate 1637 none
  statics := some 0 }

def pool7 : Array CpInfo := pool [(2, .class_ 4), (1, u "java/lang/CharSequence"), (42, .class_ 48), (0, u "java/lang/CharSequence$1CodePointIterator"), (10, .class_ 60), (0, u "java/lang/CharSequence$1CharIterator"), (5, .class_ 67), (0, u "java/lang/Object")] 63

/-- java/lang/CharSequence -/
def k7 : Class := { plain "java/lang/CharSequence" (some 0) with
  accessFlags := 1537
  interfaces := #[]
  cf := some (fileOf pool7 2 #[.nestMembers #[47, 59]] #[] 1537 66 #[] #[])
  fields := #[]
  methods := #[]
  instanceTypes := #[]
  staticTypes := #[]
  resolved := Array.replicate 131 none
  statics := none }

def pool8 : Array CpInfo := pool [(1, .class_ 2), (0, u "java/lang/constant/Constable"), (0, .class_ 4), (0, u "java/lang/Object")] 6

/-- java/lang/constant/Constable -/
def k8 : Class := { plain "java/lang/constant/Constable" (some 0) with
  accessFlags := 1537
  interfaces := #[]
  cf := some (fileOf pool8 1 #[] #[] 1537 3 #[] #[])
  fields := #[]
  methods := #[]
  instanceTypes := #[]
  staticTypes := #[]
  resolved := Array.replicate 11 none
  statics := none }

def pool9 : Array CpInfo := pool [(1, .class_ 2), (0, u "java/lang/constant/ConstantDesc"), (0, .class_ 4), (0, u "java/lang/Object")] 32

/-- java/lang/constant/ConstantDesc -/
def k9 : Class := { plain "java/lang/constant/ConstantDesc" (some 0) with
  accessFlags := 1537
  interfaces := #[]
  cf := some (fileOf pool9 1 #[] #[] 1537 3 #[] #[])
  fields := #[]
  methods := #[]
  instanceTypes := #[]
  staticTypes := #[]
  resolved := Array.replicate 37 none
  statics := none }

def pool10 : Array CpInfo := pool [(1, .methodref 2 3), (0, .class_ 4), (0, .nameAndType 5 6), (0, u "java/lang/Object"), (0, u "<init>"), (0, u "()V"), (2, .fieldref 10 11), (0, .class_ 12), (0, .nameAndType 13 14), (0, u "java/lang/String"), (0, u "value"), (0, u "[B"), (0, .fieldref 10 16), (0, .nameAndType 17 18), (0, u "coder"), (0, u "B"), (2, u "hash"), (0, u "I"), (2, u "hashIsZero"), (0, u "Z"), (0, .methodref 10 28), (0, .nameAndType 5 29), (0, u "([CIILjava/lang/Void;)V"), (8, .fieldref 10 39), (0, .nameAndType 40 26), (0, u "COMPACT_STRINGS"), (1, .class_ 44), (1, u "java/lang/StringUTF16"), (0, u "compress"), (1, .methodref 42 48), (0, .nameAndType 49 50), (0, u "coderFromArrayLen"), (0, u "([BI)B"), (2, u "toBytes"), (53, .class_ 109), (1, u "java/lang/StringLatin1"), (67, .methodref 42 178), (0, .nameAndType 45 179), (0, u "([CII)[B"), (29, .methodref 10 210), (0, .nameAndType 5 211), (0, u "([BB)V"), (157, u "(C)Z"), (205, .class_ 576), (0, u "java/lang/CharSequence"), (22, u "CASE_INSENSITIVE_ORDER"), (0, u "Ljava/util/Comparator;"), (181, u "valueOf"), (0, u "(C)Ljava/lang/String;"), (226, u "([C)V"), (4, .methodref 107 1016), (0, .nameAndType 1017 369), (0, u "canEncode"), (0, .methodref 107 1019), (0, .nameAndType 53 1020), (0, u "(C)[B"), (80, u "serialPersistentFields"), (0, u "[Ljava/io/ObjectStreamField;"), (0, .class_ 1104), (0, u "java/lang/String$CaseInsensitiveComparator"), (1, .class_ 1107), (0, u "java/io/Serializable"), (0, .class_ 1109), (0, u "java/lang/Comparable"), (0, .class_ 1111), (0, u "java/lang/constant/Constable"), (0, .class_ 1113), (0, u "java/lang/constant/ConstantDesc"), (2, u "serialVersionUID"), (0, u "J"), (3, u "REPL"), (0, u "C"), (2, u "LATIN1"), (1, u "UTF16")] 323

def k10m0 : Method := { name := "<init>", desc := "()V", sig := { parameters := [], returnType := none }, accessFlags := 1, code := none }
def k10c1 : Code := { maxStack := 5, maxLocals := 2, code := jdk_42_method_3_code, exceptionTable := #[], attributes := #[] }
def k10m1 : Method := { name := "<init>", desc := "([C)V", sig := { parameters := [(.array .char)], returnType := none }, accessFlags := 1, code := some k10c1 }
def k10c2 : Code := { maxStack := 4, maxLocals := 1, code := jdk_42_method_139_code, exceptionTable := #[], attributes := #[] }
def k10m2 : Method := { name := "valueOf", desc := "(C)Ljava/lang/String;", sig := { parameters := [.char], returnType := some (.object "java/lang/String") }, accessFlags := 9, code := some k10c2 }
def k10c3 : Code := { maxStack := 4, maxLocals := 6, code := jdk_42_method_149_code, exceptionTable := #[], attributes := #[] }
def k10m3 : Method := { name := "<init>", desc := "([CIILjava/lang/Void;)V", sig := { parameters := [(.array .char), .int, .int, (.object "java/lang/Void")], returnType := none }, accessFlags := 2, code := some k10c3 }
def k10c4 : Code := { maxStack := 2, maxLocals := 3, code := jdk_42_method_151_code, exceptionTable := #[], attributes := #[] }
def k10m4 : Method := { name := "<init>", desc := "([BB)V", sig := { parameters := [(.array .byte), .byte], returnType := none }, accessFlags := 0, code := some k10c4 }
/-- java/lang/String -/
def k10 : Class := { plain "java/lang/String" (some 0) with
  accessFlags := 49
  interfaces := #[3, 5, 7, 8, 9]
  cf := some (fileOf pool10 10 #[.nestMembers #[1103]] #[{ accessFlags := 1, nameIndex := 5, descriptorIndex := 6, attributes := #[] }, { accessFlags := 1, nameIndex := 5, descriptorIndex := 1010, attributes := #[] }, { accessFlags := 9, nameIndex := 782, descriptorIndex := 783, attributes := #[] }, { accessFlags := 2, nameIndex := 5, descriptorIndex := 29, attributes := #[] }, { accessFlags := 0, nameIndex := 5, descriptorIndex := 211, attributes := #[] }] 49 2 #[1106, 1108, 575, 1110, 1112] #[{ accessFlags := 18, nameIndex := 13, descriptorIndex := 14, attributes := #[] }, { accessFlags := 18, nameIndex := 17, descriptorIndex := 18, attributes := #[] }, { accessFlags := 2, nameIndex := 21, descriptorIndex := 22, attributes := #[] }, { accessFlags := 2, nameIndex := 25, descriptorIndex := 26, attributes := #[] }, { accessFlags := 26, nameIndex := 1116, descriptorIndex := 1117, attributes := #[] }, { accessFlags := 24, nameIndex := 40, descriptorIndex := 26, attributes := #[] }, { accessFlags := 26, nameIndex := 1101, descriptorIndex := 1102, attributes := #[] }, { accessFlags := 26, nameIndex := 1121, descriptorIndex := 1122, attributes := #[] }, { accessFlags := 25, nameIndex := 599, descriptorIndex := 600, attributes := #[] }, { accessFlags := 24, nameIndex := 1125, descriptorIndex := 18, attributes := #[] }, { accessFlags := 24, nameIndex := 1127, descriptorIndex := 18, attributes := #[] }])
  fields := #[{ name := "value", type := (.array .byte), accessFlags := 18, slot := 0, constantValue := 0 }, { name := "coder", type := .byte, accessFlags := 18, slot := 1, constantValue := 0 }, { name := "hash", type := .int, accessFlags := 2, slot := 2, constantValue := 0 }, { name := "hashIsZero", type := .boolean, accessFlags := 2, slot := 3, constantValue := 0 }, { name := "serialVersionUID", type := .long, accessFlags := 26, slot := 0, constantValue := 0 }, { name := "COMPACT_STRINGS", type := .boolean, accessFlags := 24, slot := 1, constantValue := 0 }, { name := "serialPersistentFields", type := (.array (.object "java/io/ObjectStreamField")), accessFlags := 26, slot := 2, constantValue := 0 }, { name := "REPL", type := .char, accessFlags := 26, slot := 3, constantValue := 0 }, { name := "CASE_INSENSITIVE_ORDER", type := (.object "java/util/Comparator"), accessFlags := 25, slot := 4, constantValue := 0 }, { name := "LATIN1", type := .byte, accessFlags := 24, slot := 5, constantValue := 0 }, { name := "UTF16", type := .byte, accessFlags := 24, slot := 6, constantValue := 0 }]
  methods := #[k10m0, k10m1, k10m2, k10m3, k10m4]
  instanceTypes := #[(.array .byte), .byte, .int, .boolean]
  staticTypes := #[.long, .boolean, (.array (.object "java/io/ObjectStreamField")), .char, (.object "java/util/Comparator"), .byte, .byte]
  resolved := Array.replicate 1451 none
  statics := some 1 }

def pool11 : Array CpInfo := pool [(4, .class_ 6), (1, u "java/lang/Object"), (0, u "<init>"), (0, u "()V"), (5, .class_ 16), (1, u "java/lang/StringLatin1"), (73, u "canEncode"), (14, u "(C)Z"), (15, u "$assertionsDisabled"), (0, u "Z"), (98, .class_ 223), (1, u "java/lang/StringLatin1$LinesSpliterator"), (156, u "toBytes"), (1, u "(C)[B"), (7, .class_ 391), (0, u "java/lang/StringLatin1$CharsSpliterator")] 3

def k11m0 : Method := { name := "<init>", desc := "()V", sig := { parameters := [], returnType := none }, accessFlags := 0, code := none }
def k11c1 : Code := { maxStack := 2, maxLocals := 1, code := jdk_43_method_3_code, exceptionTable := #[], attributes := #[] }
def k11m1 : Method := { name := "canEncode", desc := "(C)Z", sig := { parameters := [.char], returnType := some .boolean }, accessFlags := 9, code := some k11c1 }
def k11c2 : Code := { maxStack := 4, maxLocals := 1, code := jdk_43_method_46_code, exceptionTable := #[], attributes := #[] }
def k11m2 : Method := { name := "toBytes", desc := "(C)[B", sig := { parameters := [.char], returnType := some (.array .byte) }, accessFlags := 9, code := some k11c2 }
/-- java/lang/StringLatin1 -/
def k11 : Class := { plain "java/lang/StringLatin1" (some 0) with
  accessFlags := 48
  interfaces := #[]
  cf := some (fileOf pool11 14 #[.nestMembers #[390, 221]] #[{ accessFlags := 0, nameIndex := 7, descriptorIndex := 8, attributes := #[] }, { accessFlags := 9, nameIndex := 90, descriptorIndex := 105, attributes := #[] }, { accessFlags := 9, nameIndex := 380, descriptorIndex := 382, attributes := #[] }] 48 4 #[] #[{ accessFlags := 4120, nameIndex := 121, descriptorIndex := 122, attributes := #[] }])
  fields := #[{ name := "$assertionsDisabled", type := .boolean, accessFlags := 4120, slot := 0, constantValue := 0 }]
  methods := #[k11m0, k11m1, k11m2]
  instanceTypes := #[]
  staticTypes := #[.boolean]
  resolved := Array.replicate 395 none
  statics := none }

def pool12 : Array CpInfo := pool [(2, .class_ 4), (1, u "java/lang/Enum"), (0, u "name"), (0, u "Ljava/lang/String;"), (0, .fieldref 2 8), (0, .nameAndType 9 10), (0, u "ordinal"), (0, u "I"), (1, .class_ 14), (1, u "java/lang/Object"), (4, u "hash"), (86, .class_ 108), (1, u "java/lang/Enum$EnumDesc"), (2, .class_ 112), (0, u "java/lang/constant/Constable"), (0, .class_ 114), (0, u "java/lang/Comparable"), (0, .class_ 116), (0, u "java/io/Serializable"), (9, u "()I")] 77

def k12c0 : Code := { maxStack := 1, maxLocals := 1, code := jdk_37_method_2_code, exceptionTable := #[], attributes := #[] }
def k12m0 : Method := { name := "ordinal", desc := "()I", sig := { parameters := [], returnType := some .int }, accessFlags := 17, code := some k12c0 }
/-- java/lang/Enum -/
def k12 : Class := { plain "java/lang/Enum" (some 0) with
  accessFlags := 1057
  interfaces := #[8, 5, 3]
  cf := some (fileOf pool12 2 #[.nestMembers #[106]] #[{ accessFlags := 17, nameIndex := 9, descriptorIndex := 126, attributes := #[] }] 1057 12 #[111, 113, 115] #[{ accessFlags := 18, nameIndex := 5, descriptorIndex := 6, attributes := #[] }, { accessFlags := 18, nameIndex := 9, descriptorIndex := 10, attributes := #[] }, { accessFlags := 2, nameIndex := 19, descriptorIndex := 10, attributes := #[] }])
  fields := #[{ name := "name", type := (.object "java/lang/String"), accessFlags := 18, slot := 0, constantValue := 0 }, { name := "ordinal", type := .int, accessFlags := 18, slot := 1, constantValue := 0 }, { name := "hash", type := .int, accessFlags := 2, slot := 2, constantValue := 0 }]
  methods := #[k12m0]
  instanceTypes := #[(.object "java/lang/String"), .int, .int]
  staticTypes := #[]
  resolved := Array.replicate 204 none
  statics := none }

def pool13 : Array CpInfo := pool [(1, .class_ 2), (0, u "com/example/ringfence/ringfence/gate/Measure"), (2, u "PENDING_VALUE"), (0, u "Lcom/example/ringfence/ringfence/gate/Measure;"), (2, u "DOWNSIDE"), (2, u "UPSIDE"), (2, u "EXPOSURE"), (2, u "DISPLACEMENT"), (2, u "$VALUES"), (0, u "[Lcom/example/ringfence/ringfence/gate/Measure;"), (6, .class_ 31), (1, u "java/lang/Enum"), (8, u "label"), (0, u "Ljava/lang/String;")] 35

/-- com/example/ringfence/ringfence/gate/Measure -/
def k13 : Class := { plain "com/example/ringfence/ringfence/gate/Measure" (some 12) with
  accessFlags := 16433
  interfaces := #[]
  cf := some (fileOf pool13 1 #[] #[] 16433 29 #[] #[{ accessFlags := 16409, nameIndex := 5, descriptorIndex := 6, attributes := #[] }, { accessFlags := 16409, nameIndex := 9, descriptorIndex := 6, attributes := #[] }, { accessFlags := 16409, nameIndex := 12, descriptorIndex := 6, attributes := #[] }, { accessFlags := 16409, nameIndex := 15, descriptorIndex := 6, attributes := #[] }, { accessFlags := 16409, nameIndex := 18, descriptorIndex := 6, attributes := #[] }, { accessFlags := 18, nameIndex := 40, descriptorIndex := 41, attributes := #[] }, { accessFlags := 4122, nameIndex := 21, descriptorIndex := 22, attributes := #[] }])
  fields := #[{ name := "PENDING_VALUE", type := (.object "com/example/ringfence/ringfence/gate/Measure"), accessFlags := 16409, slot := 0, constantValue := 0 }, { name := "DOWNSIDE", type := (.object "com/example/ringfence/ringfence/gate/Measure"), accessFlags := 16409, slot := 1, constantValue := 0 }, { name := "UPSIDE", type := (.object "com/example/ringfence/ringfence/gate/Measure"), accessFlags := 16409, slot := 2, constantValue := 0 }, { name := "EXPOSURE", type := (.object "com/example/ringfence/ringfence/gate/Measure"), accessFlags := 16409, slot := 3, constantValue := 0 }, { name := "DISPLACEMENT", type := (.object "com/example/ringfence/ringfence/gate/Measure"), accessFlags := 16409, slot := 4, constantValue := 0 }, { name := "label", type := (.object "java/lang/String"), accessFlags := 18, slot := 3, constantValue := 0 }, { name := "$VALUES", type := (.array (.object "com/example/ringfence/ringfence/gate/Measure")), accessFlags := 4122, slot := 5, constantValue := 0 }]
  methods := #[]
  instanceTypes := #[(.object "java/lang/String"), .int, .int, (.object "java/lang/String")]
  staticTypes := #[(.object "com/example/ringfence/ringfence/gate/Measure"), (.object "com/example/ringfence/ringfence/gate/Measure"), (.object "com/example/ringfence/ringfence/gate/Measure"), (.object "com/example/ringfence/ringfence/gate/Measure"), (.object "com/example/ringfence/ringfence/gate/Measure"), (.array (.object "com/example/ringfence/ringfence/gate/Measure"))]
  resolved := Array.replicate 77 none
  statics := some 2 }

def pool14 : Array CpInfo := pool [(8, .class_ 10), (1, u "com/example/ringfence/ringfence/gate/Measures$1"), (0, u "$SwitchMap$com$example$ringfence$ringfence$gate$Measure"), (0, u "[I"), (22, .class_ 36), (0, u "java/lang/Object"), (8, .class_ 46), (0, u "com/example/ringfence/ringfence/gate/Measures")] 2

/-- com/example/ringfence/ringfence/gate/Measures$1 -/
def k14 : Class := { plain "com/example/ringfence/ringfence/gate/Measures$1" (some 0) with
  accessFlags := 4128
  interfaces := #[]
  cf := some (fileOf pool14 8 #[.nestHost 45] #[] 4128 35 #[] #[{ accessFlags := 4120, nameIndex := 11, descriptorIndex := 12, attributes := #[] }])
  fields := #[{ name := "$SwitchMap$com$example$ringfence$ringfence$gate$Measure", type := (.array .int), accessFlags := 4120, slot := 0, constantValue := 0 }]
  methods := #[]
  instanceTypes := #[]
  staticTypes := #[(.array .int)]
  resolved := Array.replicate 49 none
  statics := some 3 }

def pool15 : Array CpInfo := pool [(6, .class_ 8), (1, u "java/lang/Object"), (0, u "<init>"), (0, u "()V"), (1, .class_ 14), (1, u "java/lang/StringUTF16"), (31, u "$assertionsDisabled"), (0, u "Z"), (13, u "HI_BYTE_SHIFT"), (0, u "I"), (2, u "LO_BYTE_SHIFT"), (49, .methodref 12 116), (0, .nameAndType 117 118), (0, u "compress"), (0, u "([CI[BII)I"), (3, u "([CII)[B"), (138, u "coderFromArrayLen"), (0, u "([BI)B"), (106, .class_ 371), (1, u "java/lang/StringUTF16$LinesSpliterator"), (58, u "MAX_LENGTH"), (196, .class_ 628), (0, u "java/lang/StringUTF16$CodePointsSpliterator"), (0, .class_ 630), (0, u "java/lang/StringUTF16$CharsSpliterator")] 4

def k15m0 : Method := { name := "<init>", desc := "()V", sig := { parameters := [], returnType := none }, accessFlags := 0, code := none }
def k15c1 : Code := { maxStack := 2, maxLocals := 2, code := jdk_52_method_15_code, exceptionTable := #[], attributes := #[] }
def k15m1 : Method := { name := "coderFromArrayLen", desc := "([BI)B", sig := { parameters := [(.array .byte), .int], returnType := some .byte }, accessFlags := 8, code := some k15c1 }
def k15c2 : Code := { maxStack := 5, maxLocals := 6, code := jdk_52_method_16_code, exceptionTable := #[], attributes := #[] }
def k15m2 : Method := { name := "compress", desc := "([CII)[B", sig := { parameters := [(.array .char), .int, .int], returnType := some (.array .byte) }, accessFlags := 9, code := some k15c2 }
def k15c3 : Code := { maxStack := 3, maxLocals := 7, code := jdk_52_method_21_code, exceptionTable := #[], attributes := #[] }
def k15m3 : Method := { name := "compress", desc := "([CI[BII)I", sig := { parameters := [(.array .char), .int, (.array .byte), .int, .int], returnType := some .int }, accessFlags := 9, code := some k15c3 }
/-- java/lang/StringUTF16 -/
def k15 : Class := { plain "java/lang/StringUTF16" (some 0) with
  accessFlags := 48
  interfaces := #[]
  cf := some (fileOf pool15 12 #[.nestMembers #[627, 629, 369]] #[{ accessFlags := 0, nameIndex := 9, descriptorIndex := 10, attributes := #[] }, { accessFlags := 8, nameIndex := 261, descriptorIndex := 262, attributes := #[] }, { accessFlags := 9, nameIndex := 117, descriptorIndex := 122, attributes := #[] }, { accessFlags := 9, nameIndex := 117, descriptorIndex := 118, attributes := #[] }] 48 6 #[] #[{ accessFlags := 26, nameIndex := 61, descriptorIndex := 62, attributes := #[] }, { accessFlags := 26, nameIndex := 65, descriptorIndex := 62, attributes := #[] }, { accessFlags := 24, nameIndex := 430, descriptorIndex := 62, attributes := #[] }, { accessFlags := 4120, nameIndex := 46, descriptorIndex := 47, attributes := #[] }])
  fields := #[{ name := "HI_BYTE_SHIFT", type := .int, accessFlags := 26, slot := 0, constantValue := 0 }, { name := "LO_BYTE_SHIFT", type := .int, accessFlags := 26, slot := 1, constantValue := 0 }, { name := "MAX_LENGTH", type := .int, accessFlags := 24, slot := 2, constantValue := 0 }, { name := "$assertionsDisabled", type := .boolean, accessFlags := 4120, slot := 3, constantValue := 0 }]
  methods := #[k15m0, k15m1, k15m2, k15m3]
  instanceTypes := #[]
  staticTypes := #[.int, .int, .int, .boolean]
  resolved := Array.replicate 635 none
  statics := none }

def pool16 : Array CpInfo := pool [(4, .class_ 6), (1, u "java/lang/Number"), (16, .class_ 25), (1, u "java/math/BigInteger"), (0, u "ZERO"), (0, u "Ljava/math/BigInteger;"), (2, u "mag"), (0, u "[I"), (2, u "signum"), (0, u "I"), (59, u "bitsPerDigit"), (0, u "[J"), (9, u "digitsPerInt"), (12, u "intRadix"), (60, u "SMALL_PRIME_PRODUCT"), (79, u "ONE"), (6, u "TWO"), (43, u "$assertionsDisabled"), (0, u "Z"), (36, u "posConst"), (0, u "[Ljava/math/BigInteger;"), (4, u "negConst"), (116, .class_ 474), (1, u "java/math/BigInteger$RecursiveOp"), (106, u "NEGATIVE_ONE"), (91, u "bnExpModThreshTable"), (72, u "lowestSetBitPlusTwo"), (2, u "bitLengthPlusOne"), (2, u "bitCountPlusOne"), (6, u "LOG_TWO"), (0, u "D"), (2, u "logCache"), (0, u "[D"), (13, u "NUM_ZEROS"), (2, u "ZEROS"), (0, u "Ljava/lang/String;"), (9, u "longRadix"), (5, u "digitsPerLong"), (22, u "powerCache"), (0, u "[[Ljava/math/BigInteger;"), (45, u "firstNonzeroIntNumPlusTwo"), (38, .class_ 909), (1, u "java/math/BigInteger$UnsafeHolder"), (141, u "TEN"), (106, u "serialPersistentFields"), (0, u "[Ljava/io/ObjectStreamField;"), (0, .class_ 1161), (0, u "java/lang/Comparable"), (0, u "LONG_MASK"), (0, u "J"), (1, u "MAX_MAG_LENGTH"), (0, u "PRIME_SEARCH_BIT_LENGTH_LIMIT"), (1, u "KARATSUBA_THRESHOLD"), (1, u "TOOM_COOK_THRESHOLD"), (1, u "KARATSUBA_SQUARE_THRESHOLD"), (1, u "TOOM_COOK_SQUARE_THRESHOLD"), (1, u "BURNIKEL_ZIEGLER_THRESHOLD"), (0, u "BURNIKEL_ZIEGLER_OFFSET"), (1, u "SCHOENHAGE_BASE_CONVERSION_THRESHOLD"), (1, u "MULTIPLY_SQUARE_THRESHOLD"), (0, u "MONTGOMERY_INTRINSIC_THRESHOLD"), (1, u "SMALL_PRIME_THRESHOLD"), (1, u "DEFAULT_PRIME_CERTAINTY"), (1, u "MAX_CONSTANT"), (3, u "serialVersionUID"), (338, .class_ 1532), (0, u "java/math/BigInteger$RecursiveOp$RecursiveSquare"), (0, .class_ 1534), (0, u "java/math/BigInteger$RecursiveOp$RecursiveMultiply")] 7

/-- java/math/BigInteger -/
def k16 : Class := { plain "java/math/BigInteger" (some 4) with
  accessFlags := 33
  interfaces := #[5]
  cf := some (fileOf pool16 23 #[.nestMembers #[907, 472, 1531, 1533]] #[] 33 4 #[1160] #[{ accessFlags := 16, nameIndex := 34, descriptorIndex := 35, attributes := #[] }, { accessFlags := 16, nameIndex := 30, descriptorIndex := 31, attributes := #[] }, { accessFlags := 2, nameIndex := 752, descriptorIndex := 35, attributes := #[] }, { accessFlags := 2, nameIndex := 749, descriptorIndex := 35, attributes := #[] }, { accessFlags := 2, nameIndex := 746, descriptorIndex := 35, attributes := #[] }, { accessFlags := 2, nameIndex := 868, descriptorIndex := 35, attributes := #[] }, { accessFlags := 24, nameIndex := 1162, descriptorIndex := 1163, attributes := #[] }, { accessFlags := 26, nameIndex := 1165, descriptorIndex := 35, attributes := #[] }, { accessFlags := 26, nameIndex := 1166, descriptorIndex := 35, attributes := #[] }, { accessFlags := 26, nameIndex := 1168, descriptorIndex := 35, attributes := #[] }, { accessFlags := 26, nameIndex := 1170, descriptorIndex := 35, attributes := #[] }, { accessFlags := 26, nameIndex := 1172, descriptorIndex := 35, attributes := #[] }, { accessFlags := 26, nameIndex := 1174, descriptorIndex := 35, attributes := #[] }, { accessFlags := 24, nameIndex := 1176, descriptorIndex := 35, attributes := #[] }, { accessFlags := 24, nameIndex := 1177, descriptorIndex := 35, attributes := #[] }, { accessFlags := 26, nameIndex := 1179, descriptorIndex := 35, attributes := #[] }, { accessFlags := 26, nameIndex := 1181, descriptorIndex := 35, attributes := #[] }, { accessFlags := 26, nameIndex := 1182, descriptorIndex := 35, attributes := #[] }, { accessFlags := 10, nameIndex := 95, descriptorIndex := 96, attributes := #[] }, { accessFlags := 26, nameIndex := 1184, descriptorIndex := 35, attributes := #[] }, { accessFlags := 26, nameIndex := 1186, descriptorIndex := 35, attributes := #[] }, { accessFlags := 26, nameIndex := 180, descriptorIndex := 27, attributes := #[] }, { accessFlags := 26, nameIndex := 1188, descriptorIndex := 35, attributes := #[] }, { accessFlags := 26, nameIndex := 349, descriptorIndex := 350, attributes := #[] }, { accessFlags := 26, nameIndex := 355, descriptorIndex := 350, attributes := #[] }, { accessFlags := 74, nameIndex := 821, descriptorIndex := 822, attributes := #[] }, { accessFlags := 26, nameIndex := 763, descriptorIndex := 764, attributes := #[] }, { accessFlags := 26, nameIndex := 759, descriptorIndex := 760, attributes := #[] }, { accessFlags := 25, nameIndex := 26, descriptorIndex := 27, attributes := #[] }, { accessFlags := 25, nameIndex := 260, descriptorIndex := 27, attributes := #[] }, { accessFlags := 25, nameIndex := 267, descriptorIndex := 27, attributes := #[] }, { accessFlags := 26, nameIndex := 581, descriptorIndex := 27, attributes := #[] }, { accessFlags := 25, nameIndex := 1051, descriptorIndex := 27, attributes := #[] }, { accessFlags := 8, nameIndex := 673, descriptorIndex := 31, attributes := #[] }, { accessFlags := 10, nameIndex := 778, descriptorIndex := 35, attributes := #[] }, { accessFlags := 26, nameIndex := 781, descriptorIndex := 782, attributes := #[] }, { accessFlags := 10, nameIndex := 798, descriptorIndex := 31, attributes := #[] }, { accessFlags := 10, nameIndex := 792, descriptorIndex := 350, attributes := #[] }, { accessFlags := 10, nameIndex := 106, descriptorIndex := 31, attributes := #[] }, { accessFlags := 10, nameIndex := 119, descriptorIndex := 31, attributes := #[] }, { accessFlags := 26, nameIndex := 1192, descriptorIndex := 1163, attributes := #[] }, { accessFlags := 26, nameIndex := 1158, descriptorIndex := 1159, attributes := #[] }, { accessFlags := 4120, nameIndex := 311, descriptorIndex := 312, attributes := #[] }])
  fields := #[{ name := "signum", type := .int, accessFlags := 16, slot := 0, constantValue := 0 }, { name := "mag", type := (.array .int), accessFlags := 16, slot := 1, constantValue := 0 }, { name := "bitCountPlusOne", type := .int, accessFlags := 2, slot := 2, constantValue := 0 }, { name := "bitLengthPlusOne", type := .int, accessFlags := 2, slot := 3, constantValue := 0 }, { name := "lowestSetBitPlusTwo", type := .int, accessFlags := 2, slot := 4, constantValue := 0 }, { name := "firstNonzeroIntNumPlusTwo", type := .int, accessFlags := 2, slot := 5, constantValue := 0 }, { name := "LONG_MASK", type := .long, accessFlags := 24, slot := 0, constantValue := 0 }, { name := "MAX_MAG_LENGTH", type := .int, accessFlags := 26, slot := 1, constantValue := 0 }, { name := "PRIME_SEARCH_BIT_LENGTH_LIMIT", type := .int, accessFlags := 26, slot := 2, constantValue := 0 }, { name := "KARATSUBA_THRESHOLD", type := .int, accessFlags := 26, slot := 3, constantValue := 0 }, { name := "TOOM_COOK_THRESHOLD", type := .int, accessFlags := 26, slot := 4, constantValue := 0 }, { name := "KARATSUBA_SQUARE_THRESHOLD", type := .int, accessFlags := 26, slot := 5, constantValue := 0 }, { name := "TOOM_COOK_SQUARE_THRESHOLD", type := .int, accessFlags := 26, slot := 6, constantValue := 0 }, { name := "BURNIKEL_ZIEGLER_THRESHOLD", type := .int, accessFlags := 24, slot := 7, constantValue := 0 }, { name := "BURNIKEL_ZIEGLER_OFFSET", type := .int, accessFlags := 24, slot := 8, constantValue := 0 }, { name := "SCHOENHAGE_BASE_CONVERSION_THRESHOLD", type := .int, accessFlags := 26, slot := 9, constantValue := 0 }, { name := "MULTIPLY_SQUARE_THRESHOLD", type := .int, accessFlags := 26, slot := 10, constantValue := 0 }, { name := "MONTGOMERY_INTRINSIC_THRESHOLD", type := .int, accessFlags := 26, slot := 11, constantValue := 0 }, { name := "bitsPerDigit", type := (.array .long), accessFlags := 10, slot := 12, constantValue := 0 }, { name := "SMALL_PRIME_THRESHOLD", type := .int, accessFlags := 26, slot := 13, constantValue := 0 }, { name := "DEFAULT_PRIME_CERTAINTY", type := .int, accessFlags := 26, slot := 14, constantValue := 0 }, { name := "SMALL_PRIME_PRODUCT", type := (.object "java/math/BigInteger"), accessFlags := 26, slot := 15, constantValue := 0 }, { name := "MAX_CONSTANT", type := .int, accessFlags := 26, slot := 16, constantValue := 0 }, { name := "posConst", type := (.array (.object "java/math/BigInteger")), accessFlags := 26, slot := 17, constantValue := 0 }, { name := "negConst", type := (.array (.object "java/math/BigInteger")), accessFlags := 26, slot := 18, constantValue := 0 }, { name := "powerCache", type := (.array (.array (.object "java/math/BigInteger"))), accessFlags := 74, slot := 19, constantValue := 0 }, { name := "logCache", type := (.array .double), accessFlags := 26, slot := 20, constantValue := 0 }, { name := "LOG_TWO", type := .double, accessFlags := 26, slot := 21, constantValue := 0 }, { name := "ZERO", type := (.object "java/math/BigInteger"), accessFlags := 25, slot := 22, constantValue := 0 }, { name := "ONE", type := (.object "java/math/BigInteger"), accessFlags := 25, slot := 23, constantValue := 0 }, { name := "TWO", type := (.object "java/math/BigInteger"), accessFlags := 25, slot := 24, constantValue := 0 }, { name := "NEGATIVE_ONE", type := (.object "java/math/BigInteger"), accessFlags := 26, slot := 25, constantValue := 0 }, { name := "TEN", type := (.object "java/math/BigInteger"), accessFlags := 25, slot := 26, constantValue := 0 }, { name := "bnExpModThreshTable", type := (.array .int), accessFlags := 8, slot := 27, constantValue := 0 }, { name := "NUM_ZEROS", type := .int, accessFlags := 10, slot := 28, constantValue := 0 }, { name := "ZEROS", type := (.object "java/lang/String"), accessFlags := 26, slot := 29, constantValue := 0 }, { name := "digitsPerLong", type := (.array .int), accessFlags := 10, slot := 30, constantValue := 0 }, { name := "longRadix", type := (.array (.object "java/math/BigInteger")), accessFlags := 10, slot := 31, constantValue := 0 }, { name := "digitsPerInt", type := (.array .int), accessFlags := 10, slot := 32, constantValue := 0 }, { name := "intRadix", type := (.array .int), accessFlags := 10, slot := 33, constantValue := 0 }, { name := "serialVersionUID", type := .long, accessFlags := 26, slot := 34, constantValue := 0 }, { name := "serialPersistentFields", type := (.array (.object "java/io/ObjectStreamField")), accessFlags := 26, slot := 35, constantValue := 0 }, { name := "$assertionsDisabled", type := .boolean, accessFlags := 4120, slot := 36, constantValue := 0 }]
  methods := #[]
  instanceTypes := #[.int, (.array .int), .int, .int, .int, .int]
  staticTypes := #[.long, .int, .int, .int, .int, .int, .int, .int, .int, .int, .int, .int, (.array .long), .int, .int, (.object "java/math/BigInteger"), .int, (.array (.object "java/math/BigInteger")), (.array (.object "java/math/BigInteger")), (.array (.array (.object "java/math/BigInteger"))), (.array .double), .double, (.object "java/math/BigInteger"), (.object "java/math/BigInteger"), (.object "java/math/BigInteger"), (.object "java/math/BigInteger"), (.object "java/math/BigInteger"), (.array .int), .int, (.object "java/lang/String"), (.array .int), (.array (.object "java/math/BigInteger")), (.array .int), (.array .int), .long, (.array (.object "java/io/ObjectStreamField")), .boolean]
  resolved := Array.replicate 1542 none
  statics := some 4 }

def pool17 : Array CpInfo := pool [(2, .class_ 4), (1, u "java/lang/Object"), (0, u "<init>"), (0, u "()V"), (17, .class_ 26), (1, u "jdk/internal/util/Preconditions"), (28, .class_ 56), (0, u "jdk/internal/util/Preconditions$4"), (57, .class_ 115), (0, u "jdk/internal/util/Preconditions$1"), (7, u "SIOOBE_FORMATTER"), (0, u "Ljava/util/function/BiFunction;"), (0, .class_ 126), (0, u "jdk/internal/util/Preconditions$2"), (3, u "AIOOBE_FORMATTER"), (0, .class_ 132), (0, u "jdk/internal/util/Preconditions$3"), (3, u "IOOBE_FORMATTER")] 57

def k17m0 : Method := { name := "<init>", desc := "()V", sig := { parameters := [], returnType := none }, accessFlags := 1, code := none }
/-- jdk/internal/util/Preconditions -/
def k17 : Class := { plain "jdk/internal/util/Preconditions" (some 0) with
  accessFlags := 33
  interfaces := #[]
  cf := some (fileOf pool17 24 #[.nestMembers #[55, 131, 125, 114]] #[{ accessFlags := 1, nameIndex := 5, descriptorIndex := 6, attributes := #[] }] 33 2 #[] #[{ accessFlags := 25, nameIndex := 123, descriptorIndex := 124, attributes := #[] }, { accessFlags := 25, nameIndex := 130, descriptorIndex := 124, attributes := #[] }, { accessFlags := 25, nameIndex := 136, descriptorIndex := 124, attributes := #[] }])
  fields := #[{ name := "SIOOBE_FORMATTER", type := (.object "java/util/function/BiFunction"), accessFlags := 25, slot := 0, constantValue := 0 }, { name := "AIOOBE_FORMATTER", type := (.object "java/util/function/BiFunction"), accessFlags := 25, slot := 1, constantValue := 0 }, { name := "IOOBE_FORMATTER", type := (.object "java/util/function/BiFunction"), accessFlags := 25, slot := 2, constantValue := 0 }]
  methods := #[k17m0]
  instanceTypes := #[]
  staticTypes := #[(.object "java/util/function/BiFunction"), (.object "java/util/function/BiFunction"), (.object "java/util/function/BiFunction")]
  resolved := Array.replicate 194 none
  statics := some 5 }

def pool18 : Array CpInfo := pool [(9, u "<init>"), (6, .class_ 18), (1, u "java/lang/Object"), (0, u "()V"), (1, .class_ 23), (1, u "jdk/internal/util/ArraysSupport"), (0, u "LOG2_ARRAY_LONG_INDEX_SCALE"), (0, u "I"), (2, u "U"), (0, u "Ljdk/internal/misc/Unsafe;"), (8, u "BIG_ENDIAN"), (0, u "Z"), (8, u "LOG2_BYTE_BIT_SIZE"), (4, u "LOG2_ARRAY_INT_INDEX_SCALE"), (54, u "JLA"), (0, u "Ljdk/internal/access/JavaLangAccess;"), (11, u "LOG2_ARRAY_BOOLEAN_INDEX_SCALE"), (9, u "LOG2_ARRAY_BYTE_INDEX_SCALE"), (5, u "LOG2_ARRAY_CHAR_INDEX_SCALE"), (5, u "LOG2_ARRAY_SHORT_INDEX_SCALE"), (18, u "LOG2_ARRAY_FLOAT_INDEX_SCALE"), (24, u "LOG2_ARRAY_DOUBLE_INDEX_SCALE"), (89, u "T_BOOLEAN"), (2, u "T_CHAR"), (1, u "T_FLOAT"), (1, u "T_DOUBLE"), (1, u "T_BYTE"), (1, u "T_SHORT"), (1, u "T_INT"), (1, u "T_LONG"), (1, u "SOFT_MAX_ARRAY_LENGTH")] 83

def k18m0 : Method := { name := "<init>", desc := "()V", sig := { parameters := [], returnType := none }, accessFlags := 2, code := none }
/-- jdk/internal/util/ArraysSupport -/
def k18 : Class := { plain "jdk/internal/util/ArraysSupport" (some 0) with
  accessFlags := 33
  interfaces := #[]
  cf := some (fileOf pool18 21 #[] #[{ accessFlags := 2, nameIndex := 9, descriptorIndex := 19, attributes := #[] }] 33 16 #[] #[{ accessFlags := 24, nameIndex := 28, descriptorIndex := 29, attributes := #[] }, { accessFlags := 26, nameIndex := 38, descriptorIndex := 39, attributes := #[] }, { accessFlags := 25, nameIndex := 121, descriptorIndex := 25, attributes := #[] }, { accessFlags := 25, nameIndex := 131, descriptorIndex := 25, attributes := #[] }, { accessFlags := 25, nameIndex := 137, descriptorIndex := 25, attributes := #[] }, { accessFlags := 25, nameIndex := 143, descriptorIndex := 25, attributes := #[] }, { accessFlags := 25, nameIndex := 53, descriptorIndex := 25, attributes := #[] }, { accessFlags := 25, nameIndex := 24, descriptorIndex := 25, attributes := #[] }, { accessFlags := 25, nameIndex := 162, descriptorIndex := 25, attributes := #[] }, { accessFlags := 25, nameIndex := 187, descriptorIndex := 25, attributes := #[] }, { accessFlags := 26, nameIndex := 48, descriptorIndex := 25, attributes := #[] }, { accessFlags := 25, nameIndex := 277, descriptorIndex := 25, attributes := #[] }, { accessFlags := 25, nameIndex := 280, descriptorIndex := 25, attributes := #[] }, { accessFlags := 25, nameIndex := 282, descriptorIndex := 25, attributes := #[] }, { accessFlags := 25, nameIndex := 284, descriptorIndex := 25, attributes := #[] }, { accessFlags := 25, nameIndex := 286, descriptorIndex := 25, attributes := #[] }, { accessFlags := 25, nameIndex := 288, descriptorIndex := 25, attributes := #[] }, { accessFlags := 25, nameIndex := 290, descriptorIndex := 25, attributes := #[] }, { accessFlags := 25, nameIndex := 292, descriptorIndex := 25, attributes := #[] }, { accessFlags := 26, nameIndex := 108, descriptorIndex := 109, attributes := #[] }, { accessFlags := 25, nameIndex := 294, descriptorIndex := 25, attributes := #[] }])
  fields := #[{ name := "U", type := (.object "jdk/internal/misc/Unsafe"), accessFlags := 24, slot := 0, constantValue := 0 }, { name := "BIG_ENDIAN", type := .boolean, accessFlags := 26, slot := 1, constantValue := 0 }, { name := "LOG2_ARRAY_BOOLEAN_INDEX_SCALE", type := .int, accessFlags := 25, slot := 2, constantValue := 0 }, { name := "LOG2_ARRAY_BYTE_INDEX_SCALE", type := .int, accessFlags := 25, slot := 3, constantValue := 0 }, { name := "LOG2_ARRAY_CHAR_INDEX_SCALE", type := .int, accessFlags := 25, slot := 4, constantValue := 0 }, { name := "LOG2_ARRAY_SHORT_INDEX_SCALE", type := .int, accessFlags := 25, slot := 5, constantValue := 0 }, { name := "LOG2_ARRAY_INT_INDEX_SCALE", type := .int, accessFlags := 25, slot := 6, constantValue := 0 }, { name := "LOG2_ARRAY_LONG_INDEX_SCALE", type := .int, accessFlags := 25, slot := 7, constantValue := 0 }, { name := "LOG2_ARRAY_FLOAT_INDEX_SCALE", type := .int, accessFlags := 25, slot := 8, constantValue := 0 }, { name := "LOG2_ARRAY_DOUBLE_INDEX_SCALE", type := .int, accessFlags := 25, slot := 9, constantValue := 0 }, { name := "LOG2_BYTE_BIT_SIZE", type := .int, accessFlags := 26, slot := 10, constantValue := 0 }, { name := "T_BOOLEAN", type := .int, accessFlags := 25, slot := 11, constantValue := 0 }, { name := "T_CHAR", type := .int, accessFlags := 25, slot := 12, constantValue := 0 }, { name := "T_FLOAT", type := .int, accessFlags := 25, slot := 13, constantValue := 0 }, { name := "T_DOUBLE", type := .int, accessFlags := 25, slot := 14, constantValue := 0 }, { name := "T_BYTE", type := .int, accessFlags := 25, slot := 15, constantValue := 0 }, { name := "T_SHORT", type := .int, accessFlags := 25, slot := 16, constantValue := 0 }, { name := "T_INT", type := .int, accessFlags := 25, slot := 17, constantValue := 0 }, { name := "T_LONG", type := .int, accessFlags := 25, slot := 18, constantValue := 0 }, { name := "JLA", type := (.object "jdk/internal/access/JavaLangAccess"), accessFlags := 26, slot := 19, constantValue := 0 }, { name := "SOFT_MAX_ARRAY_LENGTH", type := .int, accessFlags := 25, slot := 20, constantValue := 0 }]
  methods := #[k18m0]
  instanceTypes := #[]
  staticTypes := #[(.object "jdk/internal/misc/Unsafe"), .boolean, .int, .int, .int, .int, .int, .int, .int, .int, .int, .int, .int, .int, .int, .int, .int, .int, .int, (.object "jdk/internal/access/JavaLangAccess"), .int]
  resolved := Array.replicate 378 none
  statics := none }

def pool19 : Array CpInfo := pool [(1, u "java/lang/Cloneable"), (0, .class_ 1), (0, u "java/lang/Object"), (0, .class_ 3)] 3

/-- java/lang/Cloneable -/
def k19 : Class := { plain "java/lang/Cloneable" (some 0) with
  accessFlags := 1537
  interfaces := #[]
  cf := some (fileOf pool19 2 #[] #[] 1537 4 #[] #[])
  fields := #[]
  methods := #[]
  instanceTypes := #[]
  staticTypes := #[]
  resolved := Array.replicate 8 none
  statics := none }

/-- the primitive byte -/
def k20 : Class := { plain "byte" none with kind := .primitive 'B', accessFlags := 0x411 }
/-- [B -/
def k21 : Class := { plain "[B" (some 0) with kind := .array 20 .byte, interfaces := #[19, 3], accessFlags := 1041 }

/-- the primitive char -/
def k22 : Class := { plain "char" none with kind := .primitive 'C', accessFlags := 0x411 }
/-- [C -/
def k23 : Class := { plain "[C" (some 0) with kind := .array 22 .char, interfaces := #[19, 3], accessFlags := 1041 }

/-- the primitive int -/
def k24 : Class := { plain "int" none with kind := .primitive 'I', accessFlags := 0x411 }
/-- [I -/
def k25 : Class := { plain "[I" (some 0) with kind := .array 24 .int, interfaces := #[19, 3], accessFlags := 1041 }

def heap : Heap := #[{ cls := 6, slots := #[.double 0, .int 0, .int 0, .int 0, .int 0, .int 0, .int 0, .long 0, .null, .int 0, .long 0, .null, .null, .long 0, .long 0, .ref 8, .null, .null, .null, .null, .null, .int 0, .int 0, .int 0, .int 0, .int 0, .int 0, .int 0, .int 0, .null, .null, .null, .null, .int 0, .int 0, .null, .long 0, .null, .int 0], vm := .statics 6 },
  { cls := 10, slots := #[.long 0, .int 1, .null, .int 0, .null, .int 0, .int 0], vm := .statics 10 },
  { cls := 13, slots := #[.null, .ref 9, .ref 10, .ref 11, .null, .null], vm := .statics 13 },
  { cls := 14, slots := #[.ref 12], vm := .statics 14 },
  { cls := 16, slots := #[.long 0, .int 0, .int 0, .int 0, .int 0, .int 0, .int 0, .int 0, .int 0, .int 0, .int 0, .int 0, .null, .int 0, .int 0, .null, .int 0, .null, .null, .null, .null, .double 0, .ref 7, .null, .null, .null, .null, .null, .int 0, .null, .null, .null, .null, .null, .long 0, .null, .int 0], vm := .statics 16 },
  { cls := 17, slots := #[.null, .null, .null], vm := .statics 17 },
  { cls := 25, slots := #[], vm := .none },
  { cls := 16, slots := #[.int 0, .ref 6, .int 0, .int 0, .int 0, .int 0], vm := .none },
  { cls := 6, slots := #[.ref 7, .int 0, .int 1, .null, .long 0], vm := .none },
  { cls := 13, slots := #[.null, .int 1, .int 0, .null], vm := .none },
  { cls := 13, slots := #[.null, .int 2, .int 0, .null], vm := .none },
  { cls := 13, slots := #[.null, .int 3, .int 0, .null], vm := .none },
  { cls := 25, slots := #[.int 1, .int 2, .int 3, .int 4, .int 5], vm := .none }]
def classes : Array Class := #[k0, k1, k2, k3, k4, k5, k6, k7, k8, k9, k10, k11, k12, k13, k14, k15, k16, k17, k18, k19, k20, k21, k22, k23, k24, k25]
def interned : List (Array UInt16 × Addr) := []
def slotsUsed : Nat := 121
def theMethod : MethodId := ⟨1, 1⟩
def args0 : Array Value := #[.int 5, .int 5, .int 5, .int 5]
def aboutOver (below : List Frame) : State where
  vm := { classes := classes, interned := interned.toArray }
  heap := heap
  slotsUsed := slotsUsed
  threads := #[{ frames := .invoking theMethod args0 :: below }]
def below0 : List Frame := [.native { method := ⟨0, 0⟩, args := #[] }]
def about1 : State := aboutOver below0
def p0 : Program := .bare "" "" ""
def e0 : Env := launch0.env 0 0 0
theorem w_frames : about1.frames = Frame.invoking theMethod args0 :: below0 := rfl
set_option maxRecDepth 65536 in
theorem w_args : argsFit about1.vm theMethod args0 = true := by decide +kernel
set_option maxRecDepth 65536 in
theorem w_heap : heapFits about1 = true := by decide +kernel
set_option maxRecDepth 65536 in
theorem w_runnable : about1.curStatus? = some .runnable := by decide +kernel
set_option maxRecDepth 65536 in
theorem w_alone : about1.alone = true := by decide +kernel
set_option maxRecDepth 65536 in
theorem w_named : about1.methodNamed? x = some theMethod := by decide +kernel
set_option maxRecDepth 65536 in
theorem w_hears : about1.hears theMethod below0 = true := by decide +kernel
set_option maxRecDepth 65536 in
theorem w_ripe : about1.ripe theMethod args0 below0 = true := by decide +kernel
theorem w_running : about1.status = .running := rfl
set_option maxRecDepth 65536 in
theorem w_room : about1.hasRoom e0.platform room_1 = true :=
  launch0.hasRoom_least _ room_1 (by decide +kernel) (by decide +kernel) (by decide +kernel) (by decide +kernel) (by decide +kernel) (by decide +kernel)
theorem allAtoms_all (ts : List Jvm.Cond) (a : Array Jvm.Value) (st : Jvm.State) : (allAtoms ts).before a st = ts.all (fun c => c.before a st) := by
  induction ts with
  | nil => rfl
  | cons c t ih =>
    show (Jvm.Cond.and c (allAtoms t)).before a st = _
    rw [Jvm.Cond.before_and, ih, List.all_cons]
def words1 : List Jvm.Cond := Jvm.Cond.code x code maxLocals ret :: tables_1
/-- a 'code' word, met by the world's own term for the bytes: nothing is compared byte by byte -/
theorem code_word {y : MethodName} {bytes : ByteArray} {mx : Nat} {rt : Option FieldType} {a : Array Value} {s : State} {m : MethodId} {meth : Method} {c : Code} (h1 : s.methodNamed? y = some m) (h2 : s.vm.method? m = some meth) (h3 : meth.code = some c) (h4 : c.code = bytes)
    (h5 : (c.maxLocals == mx && c.exceptionTable.isEmpty && decide (c.maxStack ≤ mostOperands) && decide (meth.sig.returnType = rt) && !meth.locks && decide (parseMethodDescriptor y.desc = some meth.sig)) = true) : (Jvm.Cond.code y bytes mx rt).before a s = true := by
  simp only [Bool.and_eq_true, beq_iff_eq, Bool.not_eq_true', decide_eq_true_eq] at h5
  obtain ⟨⟨⟨⟨⟨g1, g2⟩, g3⟩, g4⟩, g5⟩, g6⟩ := h5
  simp [Cond.before, Cond.holds, Cond.value, h1, h2, h3, h4, g1, g2, g3, g4, g5, g6]
def isCode : Jvm.Cond → Bool
  | .code _ _ _ _ => true
  | _ => false
theorem all_split {L : List Jvm.Cond} {P : Jvm.Cond → Bool} (h1 : L.all (fun c => isCode c || P c) = true) (h2 : ∀ c ∈ L.filter isCode, P c = true) : L.all P = true := by
  refine List.all_eq_true.mpr fun c hc => ?_
  have h := List.all_eq_true.mp h1 c hc
  rcases Bool.eq_false_or_eq_true (isCode c) with hi | hi
  · exact h2 c (List.mem_filter.mpr ⟨hc, hi⟩)
  · simpa [hi] using h
set_option maxRecDepth 65536 in
theorem w_c0 : (Jvm.Cond.code x code maxLocals ret).before args0 about1 = true := code_word (m := ⟨1, 1⟩) (meth := k1m1) (c := k1c1) (by decide +kernel) rfl rfl rfl (by decide +kernel)
set_option maxRecDepth 65536 in
theorem w_c1 : (Jvm.Cond.code ({ cls := "com/example/ringfence/ringfence/gate/Measures", name := "<init>", desc := "(Lcom/example/ringfence/ringfence/gate/Pool;)V" } : Jvm.MethodName) prog_36_method_1_code (2 : Nat) (Option.none : Option Jvm.ClassFile.FieldType)).before args0 about1 = true := code_word (m := ⟨2, 0⟩) (meth := k2m0) (c := k2c0) (by decide +kernel) rfl rfl rfl (by decide +kernel)
set_option maxRecDepth 65536 in
theorem w_c2 : (Jvm.Cond.code ({ cls := "java/lang/Object", name := "<init>", desc := "()V" } : Jvm.MethodName) object_method_1_code (1 : Nat) (Option.none : Option Jvm.ClassFile.FieldType)).before args0 about1 = true := code_word (m := ⟨0, 0⟩) (meth := k0m0) (c := k0c0) (by decide +kernel) rfl rfl rfl (by decide +kernel)
set_option maxRecDepth 65536 in
theorem w_c3 : (Jvm.Cond.code ({ cls := "java/lang/String", name := "valueOf", desc := "(C)Ljava/lang/String;" } : Jvm.MethodName) jdk_42_method_139_code (1 : Nat) (Option.some (Jvm.ClassFile.FieldType.object "java/lang/String"))).before args0 about1 = true := code_word (m := ⟨10, 2⟩) (meth := k10m2) (c := k10c2) (by decide +kernel) rfl rfl rfl (by decide +kernel)
set_option maxRecDepth 65536 in
theorem w_c4 : (Jvm.Cond.code ({ cls := "java/lang/StringLatin1", name := "canEncode", desc := "(C)Z" } : Jvm.MethodName) jdk_43_method_3_code (1 : Nat) (Option.some Jvm.ClassFile.FieldType.boolean)).before args0 about1 = true := code_word (m := ⟨11, 1⟩) (meth := k11m1) (c := k11c1) (by decide +kernel) rfl rfl rfl (by decide +kernel)
set_option maxRecDepth 65536 in
theorem w_c5 : (Jvm.Cond.code ({ cls := "java/lang/StringLatin1", name := "toBytes", desc := "(C)[B" } : Jvm.MethodName) jdk_43_method_46_code (1 : Nat) (Option.some (Jvm.ClassFile.FieldType.array Jvm.ClassFile.FieldType.byte))).before args0 about1 = true := code_word (m := ⟨11, 2⟩) (meth := k11m2) (c := k11c2) (by decide +kernel) rfl rfl rfl (by decide +kernel)
set_option maxRecDepth 65536 in
theorem w_c6 : (Jvm.Cond.code ({ cls := "java/lang/String", name := "<init>", desc := "([BB)V" } : Jvm.MethodName) jdk_42_method_151_code (3 : Nat) (Option.none : Option Jvm.ClassFile.FieldType)).before args0 about1 = true := code_word (m := ⟨10, 4⟩) (meth := k10m4) (c := k10c4) (by decide +kernel) rfl rfl rfl (by decide +kernel)
set_option maxRecDepth 65536 in
theorem w_c7 : (Jvm.Cond.code ({ cls := "com/example/ringfence/ringfence/gate/Measures", name := "setUnrated", desc := "(Ljava/lang/String;)V" } : Jvm.MethodName) prog_36_method_5_code (2 : Nat) (Option.none : Option Jvm.ClassFile.FieldType)).before args0 about1 = true := code_word (m := ⟨2, 3⟩) (meth := k2m3) (c := k2c3) (by decide +kernel) rfl rfl rfl (by decide +kernel)
set_option maxRecDepth 65536 in
theorem w_c8 : (Jvm.Cond.code ({ cls := "com/example/ringfence/ringfence/gate/Measures", name := "clear", desc := "()V" } : Jvm.MethodName) prog_36_method_7_code (1 : Nat) (Option.none : Option Jvm.ClassFile.FieldType)).before args0 about1 = true := code_word (m := ⟨2, 4⟩) (meth := k2m4) (c := k2c4) (by decide +kernel) rfl rfl rfl (by decide +kernel)
set_option maxRecDepth 65536 in
theorem w_c9 : (Jvm.Cond.code ({ cls := "com/example/ringfence/ringfence/gate/Measures", name := "unrated", desc := "()Ljava/lang/String;" } : Jvm.MethodName) prog_36_method_4_code (1 : Nat) (Option.some (Jvm.ClassFile.FieldType.object "java/lang/String"))).before args0 about1 = true := code_word (m := ⟨2, 2⟩) (meth := k2m2) (c := k2c2) (by decide +kernel) rfl rfl rfl (by decide +kernel)
set_option maxRecDepth 65536 in
theorem w_c10 : (Jvm.Cond.code ({ cls := "com/example/ringfence/ringfence/gate/Measures", name := "value", desc := "(Lcom/example/ringfence/ringfence/gate/Measure;)Ljava/math/BigDecimal;" } : Jvm.MethodName) prog_36_method_3_code (2 : Nat) (Option.some (Jvm.ClassFile.FieldType.object "java/math/BigDecimal"))).before args0 about1 = true := code_word (m := ⟨2, 1⟩) (meth := k2m1) (c := k2c1) (by decide +kernel) rfl rfl rfl (by decide +kernel)
set_option maxRecDepth 65536 in
theorem w_c11 : (Jvm.Cond.code ({ cls := "java/lang/Enum", name := "ordinal", desc := "()I" } : Jvm.MethodName) jdk_37_method_2_code (1 : Nat) (Option.some Jvm.ClassFile.FieldType.int)).before args0 about1 = true := code_word (m := ⟨12, 0⟩) (meth := k12m0) (c := k12c0) (by decide +kernel) rfl rfl rfl (by decide +kernel)
set_option maxRecDepth 65536 in
theorem w_c12 : (Jvm.Cond.code ({ cls := "java/lang/String", name := "<init>", desc := "([C)V" } : Jvm.MethodName) jdk_42_method_3_code (2 : Nat) (Option.none : Option Jvm.ClassFile.FieldType)).before args0 about1 = true := code_word (m := ⟨10, 1⟩) (meth := k10m1) (c := k10c1) (by decide +kernel) rfl rfl rfl (by decide +kernel)
set_option maxRecDepth 65536 in
theorem w_c13 : (Jvm.Cond.code ({ cls := "java/lang/String", name := "<init>", desc := "([CIILjava/lang/Void;)V" } : Jvm.MethodName) jdk_42_method_149_code (6 : Nat) (Option.none : Option Jvm.ClassFile.FieldType)).before args0 about1 = true := code_word (m := ⟨10, 3⟩) (meth := k10m3) (c := k10c3) (by decide +kernel) rfl rfl rfl (by decide +kernel)
set_option maxRecDepth 65536 in
theorem w_c14 : (Jvm.Cond.code ({ cls := "java/lang/StringUTF16", name := "compress", desc := "([CII)[B" } : Jvm.MethodName) jdk_52_method_16_code (6 : Nat) (Option.some (Jvm.ClassFile.FieldType.array Jvm.ClassFile.FieldType.byte))).before args0 about1 = true := code_word (m := ⟨15, 2⟩) (meth := k15m2) (c := k15c2) (by decide +kernel) rfl rfl rfl (by decide +kernel)
set_option maxRecDepth 65536 in
theorem w_c15 : (Jvm.Cond.code ({ cls := "java/lang/StringUTF16", name := "compress", desc := "([CI[BII)I" } : Jvm.MethodName) jdk_52_method_21_code (7 : Nat) (Option.some Jvm.ClassFile.FieldType.int)).before args0 about1 = true := code_word (m := ⟨15, 3⟩) (meth := k15m3) (c := k15c3) (by decide +kernel) rfl rfl rfl (by decide +kernel)
set_option maxRecDepth 65536 in
theorem w_c16 : (Jvm.Cond.code ({ cls := "java/lang/StringUTF16", name := "coderFromArrayLen", desc := "([BI)B" } : Jvm.MethodName) jdk_52_method_15_code (2 : Nat) (Option.some Jvm.ClassFile.FieldType.byte)).before args0 about1 = true := code_word (m := ⟨15, 1⟩) (meth := k15m1) (c := k15c1) (by decide +kernel) rfl rfl rfl (by decide +kernel)
def codes1 : List Jvm.Cond := [Jvm.Cond.code x code maxLocals ret, Jvm.Cond.code ({ cls := "com/example/ringfence/ringfence/gate/Measures", name := "<init>", desc := "(Lcom/example/ringfence/ringfence/gate/Pool;)V" } : Jvm.MethodName) prog_36_method_1_code (2 : Nat) (Option.none : Option Jvm.ClassFile.FieldType), Jvm.Cond.code ({ cls := "java/lang/Object", name := "<init>", desc := "()V" } : Jvm.MethodName) object_method_1_code (1 : Nat) (Option.none : Option Jvm.ClassFile.FieldType), Jvm.Cond.code ({ cls := "java/lang/String", name := "valueOf", desc := "(C)Ljava/lang/String;" } : Jvm.MethodName) jdk_42_method_139_code (1 : Nat) (Option.some (Jvm.ClassFile.FieldType.object "java/lang/String")), Jvm.Cond.code ({ cls := "java/lang/StringLatin1", name := "canEncode", desc := "(C)Z" } : Jvm.MethodName) jdk_43_method_3_code (1 : Nat) (Option.some Jvm.ClassFile.FieldType.boolean), Jvm.Cond.code ({ cls := "java/lang/StringLatin1", name := "toBytes", desc := "(C)[B" } : Jvm.MethodName) jdk_43_method_46_code (1 : Nat) (Option.some (Jvm.ClassFile.FieldType.array Jvm.ClassFile.FieldType.byte)), Jvm.Cond.code ({ cls := "java/lang/String", name := "<init>", desc := "([BB)V" } : Jvm.MethodName) jdk_42_method_151_code (3 : Nat) (Option.none : Option Jvm.ClassFile.FieldType), Jvm.Cond.code ({ cls := "com/example/ringfence/ringfence/gate/Measures", name := "setUnrated", desc := "(Ljava/lang/String;)V" } : Jvm.MethodName) prog_36_method_5_code (2 : Nat) (Option.none : Option Jvm.ClassFile.FieldType), Jvm.Cond.code ({ cls := "com/example/ringfence/ringfence/gate/Measures", name := "clear", desc := "()V" } : Jvm.MethodName) prog_36_method_7_code (1 : Nat) (Option.none : Option Jvm.ClassFile.FieldType), Jvm.Cond.code ({ cls := "com/example/ringfence/ringfence/gate/Measures", name := "unrated", desc := "()Ljava/lang/String;" } : Jvm.MethodName) prog_36_method_4_code (1 : Nat) (Option.some (Jvm.ClassFile.FieldType.object "java/lang/String")), Jvm.Cond.code ({ cls := "com/example/ringfence/ringfence/gate/Measures", name := "value", desc := "(Lcom/example/ringfence/ringfence/gate/Measure;)Ljava/math/BigDecimal;" } : Jvm.MethodName) prog_36_method_3_code (2 : Nat) (Option.some (Jvm.ClassFile.FieldType.object "java/math/BigDecimal")), Jvm.Cond.code ({ cls := "java/lang/Enum", name := "ordinal", desc := "()I" } : Jvm.MethodName) jdk_37_method_2_code (1 : Nat) (Option.some Jvm.ClassFile.FieldType.int), Jvm.Cond.code ({ cls := "java/lang/String", name := "<init>", desc := "([C)V" } : Jvm.MethodName) jdk_42_method_3_code (2 : Nat) (Option.none : Option Jvm.ClassFile.FieldType), Jvm.Cond.code ({ cls := "java/lang/String", name := "<init>", desc := "([CIILjava/lang/Void;)V" } : Jvm.MethodName) jdk_42_method_149_code (6 : Nat) (Option.none : Option Jvm.ClassFile.FieldType), Jvm.Cond.code ({ cls := "java/lang/StringUTF16", name := "compress", desc := "([CII)[B" } : Jvm.MethodName) jdk_52_method_16_code (6 : Nat) (Option.some (Jvm.ClassFile.FieldType.array Jvm.ClassFile.FieldType.byte)), Jvm.Cond.code ({ cls := "java/lang/StringUTF16", name := "compress", desc := "([CI[BII)I" } : Jvm.MethodName) jdk_52_method_21_code (7 : Nat) (Option.some Jvm.ClassFile.FieldType.int), Jvm.Cond.code ({ cls := "java/lang/StringUTF16", name := "coderFromArrayLen", desc := "([BI)B" } : Jvm.MethodName) jdk_52_method_15_code (2 : Nat) (Option.some Jvm.ClassFile.FieldType.byte)]
set_option maxRecDepth 65536 in
theorem codes_eq : words1.filter isCode = codes1 := rfl
theorem w_codes : ∀ c ∈ words1.filter isCode, c.before args0 about1 = true := by
  rw [codes_eq]
  intro c hc
  simp only [codes1, List.mem_cons, List.not_mem_nil, or_false] at hc
  rcases hc with rfl | rfl | rfl | rfl | rfl | rfl | rfl | rfl | rfl | rfl | rfl | rfl | rfl | rfl | rfl | rfl | rfl
  · exact w_c0
  · exact w_c1
  · exact w_c2
  · exact w_c3
  · exact w_c4
  · exact w_c5
  · exact w_c6
  · exact w_c7
  · exact w_c8
  · exact w_c9
  · exact w_c10
  · exact w_c11
  · exact w_c12
  · exact w_c13
  · exact w_c14
  · exact w_c15
  · exact w_c16
set_option maxRecDepth 65536 in
theorem w_t1 : (words1.take 24).all (fun c => isCode c || c.before args0 about1) = true := by decide +kernel
set_option maxRecDepth 65536 in
theorem w_t2 : ((words1.drop 24).take 24).all (fun c => isCode c || c.before args0 about1) = true := by decide +kernel
set_option maxRecDepth 65536 in
theorem w_t3 : (((words1.drop 24).drop 24).take 24).all (fun c => isCode c || c.before args0 about1) = true := by decide +kernel
set_option maxRecDepth 65536 in
theorem w_t4 : ((((words1.drop 24).drop 24).drop 24).take 24).all (fun c => isCode c || c.before args0 about1) = true := by decide +kernel
set_option maxRecDepth 65536 in
theorem w_t5 : ((((words1.drop 24).drop 24).drop 24).drop 24).all (fun c => isCode c || c.before args0 about1) = true := by decide +kernel
theorem w_tables : (allAtoms (Jvm.Cond.code x code maxLocals ret :: tables_1)).before args0 about1 = true := by
  rw [allAtoms_all]
  show words1.all (fun c => c.before args0 about1) = true
  refine all_split ?_ w_codes
  rw [← List.take_append_drop 24 words1, List.all_append, w_t1, ← List.take_append_drop 24 (words1.drop 24), List.all_append, w_t2, ← List.take_append_drop 24 ((words1.drop 24).drop 24), List.all_append, w_t3, ← List.take_append_drop 24 (((words1.drop 24).drop 24).drop 24), List.all_append, w_t4, w_t5]
  rfl
set_option maxRecDepth 65536 in
theorem w_rest : rest_1_c.before args0 about1 = true := by decide +kernel
set_option maxRecDepth 65536 in
theorem w_case : (Jvm.Cond.and given_1 narrow_1).before args0 about1 = true := by decide +kernel
theorem w_applies : (headSpec (Jvm.Cond.code x code maxLocals ret :: tables_1) room_1).applies x e0.platform about1 = true :=
  (Spec.applies_iff w_frames).mpr ⟨w_running, w_runnable, w_alone, w_named, w_hears, w_ripe, w_room, w_tables⟩
theorem atStart : AtStart classFile x code maxLocals ret World_1 tables_1 room_1 Calls_1 rest_1 Pre_1 launch0 p0 e0 about1 theMethod args0 below0 :=
  ⟨lists_1, trivial, launch0.admits_env _ _ _, launch0.least_env, fairChoices_fair.cas, fairChoices_fair.clock, w_frames, w_args, w_heap, w_applies, trivial, w_rest, w_case⟩
end start1
theorem witness_1 : WitnessClaimed_1 := ⟨start1.p0, start1.e0, start1.about1, start1.theMethod, start1.args0, start1.below0, start1.atStart⟩
end Jvm.Pilot.@@N@@
