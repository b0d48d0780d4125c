import JvmDerived
import JvmDerived.Pilot.@@N@@Statement
import JvmDerived.Pilot.@@N@@Code
set_option linter.unusedVariables false
set_option linter.unusedSimpArgs false
namespace Jvm.RoadKit
open Sem ClassFile Op Lib Jvm.Stand Jvm.Free Jvm.LawKit
section Own
variable {p : Program} {l : Launch} {e : Env} {R : Room} {s : State} {m : MethodId} {args : Array Value} {below : List Frame} {meth : Method} {c : Code} {T : State} {locs : List Loc} {cells slots : Nat}
theorem retI (X : Stand p l e R s m args below meth c T locs cells slots) (hx : p.tables.exec = Jvm.exec) {pc : Nat} {Ls : Array Slot} {z : Int32} {rest : List Value} (hret : meth.sig.returnType = some .int) (hd : decode c.code pc = .ok (.ireturn, 1)) {fs : List Frame}
    (hl : ∀ (f : JFrame) (acts : List Action), f.method = m → f.locked = none → f.entered = [] → (doReturn e (T.setTop f) acts (some (.int z))).1 = T.setFrames fs) : Steps p.tables e below (T.setTop (mkF m pc Ls (.int z :: rest))) (T.setFrames fs) :=
  retOut X hx hret rfl (Or.inl ⟨rfl, Or.inl rfl, _, rfl⟩) hd hl
variable {Q : Option Value → Heap → List Loc → Prop} {kc ks : Nat} {S S' : State}
section H
variable {Z : State} {EL : List (String × Nat)} {QH : Option Value → Heap → List Loc → (Addr → Prop) → Prop} {a0 : Array Value} {h : Heap} {vm0 : Vm}
/-- a callee that may intern, at a site: what is Safe there goes in, what is Safe at its end comes out -/
theorem backOfY {y : MethodName} {bytes : ByteArray} {maxL : Nat} {ret : Option FieldType} {rm : Room} {len W : Nat} {as' : Array Value} {sf : List Addr}
    (hM : MetFree l y (head1 [Cond.code y bytes maxL ret] rm) (fun a U => a = as' ∧ Z.Warmed39 U.vm ∧ U.heap = h ∧ CHv Z EL U.vm h ∧ ∀ x ∈ sf, Safe Z EL U.vm h x) (fun _ _ _ _ _ => True) (fun _ U o U' => ∃ v L, o = .returned v ∧ QH v U'.heap L (Safe Z EL U'.vm U'.heap) ∧ CHr Z EL U.vm U.heap U'.vm U'.heap ∧ ReturnedEndW U o U' L rm.cells rm.slots))
    (hZ : Z.Warmed39 vm0) (wc : (Cond.code y bytes maxL ret).before a0 Z = true) (wz : (Cond.initialized y.cls).before a0 Z = true) (hf : rm.frames + 1 ≤ R.frames) (hl : W + (maxL + 11) + rm.locals ≤ R.locals) (hEL : EW Z a0 EL) (H : CHv Z EL vm0 h) (hs : ∀ x ∈ sf, Safe Z EL vm0 h x) (hlt : ∀ x ∈ sf, x < h.size) :
    BackS l R p e below (s.setVm vm0) args y len W (fun A a => a = as' ∧ A.U.heap = h ∧ A.cells + rm.cells ≤ R.cells ∧ A.slots + rm.slots ≤ R.slots)
      (fun A _ v B => ∃ L, QH v B.U.heap L (Safe Z EL B.U.vm B.U.heap) ∧ B.locs = A.locs ++ L ∧ B.cells = A.cells + rm.cells ∧ B.slots = A.slots + rm.slots ∧ CHr Z EL vm0 h B.U.vm B.U.heap) := by
  refine BackS.of_freeW (bytes := bytes) (maxL := maxL) (ret := ret) (E := fun _ first o t L k n => k = rm.cells ∧ n = rm.slots ∧ (∃ v, o = .returned v ∧ QH v t.heap L (Safe Z EL t.vm t.heap)) ∧ CHr Z EL first.vm first.heap t.vm t.heap) hM hf hl ?_ ?_ (fun _ _ _ _ _ _ _ _ _ => trivial) ?_ ?_
  · intro m meth c A a Y hp
    have hU : Z.Warmed39 A.U.vm := wtrans (s := s.setVm vm0) hZ Y.warmed
    exact ⟨by show (Cond.and _ .tt).before a A.U = true; rw [Cond.before_and, mv hU wc]; rfl, mv hU wc, mv hU wz, hp.2.2.1, hp.2.2.2⟩
  · intro m meth c A a g mk Y hp
    have q := CHv.at Y hZ hEL H
    exact ⟨hp.1, wtrans (s := s.setVm vm0) hZ Y.warmed, hp.2.1, q.1, fun x hx => q.safe (hlt x hx) (hs x hx)⟩
  · rintro _ _ _ _ ⟨v, L, h1, h2, h3, h4⟩
    exact ⟨L, _, _, h4, rfl, rfl, ⟨v, h1, h2⟩, h3⟩
  · rintro m meth c A a g mk v t L k n Y hp - - ⟨e1, e2, ⟨v', e3, e4⟩, e5⟩
    cases e3; subst e1 e2
    refine ⟨L, e4, rfl, rfl, rfl, (CHv.at Y hZ hEL H).trans ?_⟩
    rw [← hp.2.1]; exact e5
end H
theorem own_len {Z : State} {args : Array Value} {t : Term} {a : Addr} {c : Cell} {ty : FieldType} {z : Int32} (ev : t.eval args Z none [] Z = some (.ref a)) (A : Arr Z Z.heap a c ty) (h : (Cond.eq (.length t) (.int z)).value args Z none Z [] = some true) : c.slots.size < 2 ^ 31 ∧ c.slots.size.toInt32 = z := by
  have ha := A.fin (U := Z) (Vm.Alike.refl _)
  by_cases q : c.slots.size < 2 ^ 31
  · exact ⟨q, gotT (Cond.eq_ints (len_f ev ha q) (Term.int_eval z)) h⟩
  · simp [Cond.value, Term.eval, ev, ha, q] at h
theorem own_narref {t : FieldType} {w : Value} (h : w.isRef = true) : narrow t w = w := by
  rcases XT.refc h with rfl | ⟨r, rfl⟩ <;> cases t <;> rfl
theorem own_fitsref {t : FieldType} {w : Value} (ht : t.isReference = true) (h : w.isRef = true) : fits t w = true := by
  rcases XT.refc h with rfl | ⟨r, rfl⟩ <;> cases t <;> first | rfl | (cases ht)
theorem nar_c (x : Int32) : nar .char x.toUInt32.toUInt16.toUInt32.toInt32 = x.toUInt32.toUInt16.toUInt32.toInt32 := by
  have := XT.narrow_c x
  simpa [narrow, nar] using this
theorem nar_b (x : Int32) : nar .byte x.toInt8.toInt32 = x.toInt8.toInt32 := by
  have := XT.narrow_b x
  simpa [narrow, nar] using this
theorem nar_ite {P : Prop} [Decidable P] : nar .boolean (if P then (1 : Int32) else 0) = (if P then (1 : Int32) else 0) := by split <;> decide
theorem nar_ite' {P : Prop} [Decidable P] : nar .boolean (if P then (0 : Int32) else 1) = (if P then (0 : Int32) else 1) := by split <;> decide
theorem narrow_nar {t : FieldType} {z : Int32} (ht : t = .boolean ∨ t = .byte ∨ t = .char ∨ t = .short) (h : nar t z = z) : narrow t (.int z) = .int z := by
  have hn : narrow t (.int z) = .int (nar t z) := by rcases ht with rfl | rfl | rfl | rfl <;> rfl
  rw [hn, h]
end Own
/-- the run that stands in S ends as E says -/
def Runs (p : Program) (e : Env) (below : List Frame) (E : State → Outcome → Prop) (S : State) : Prop :=
  ∃ s₂ o, Steps p.tables e below S s₂ ∧ s₂.status = .running ∧ Ended s₂ below o ∧ E s₂ o
theorem Runs.by {p : Program} {e : Env} {below : List Frame} {E : State → Outcome → Prop} {S S' : State} (k : Runs p e below E S') (st : ∀ t, Steps p.tables e below S' t → Steps p.tables e below S t) : Runs p e below E S := by
  obtain ⟨s₂, o, h1, h2⟩ := k
  exact ⟨s₂, o, st _ h1, h2⟩
theorem Runs.tr {p : Program} {e : Env} {below : List Frame} {E : State → Outcome → Prop} {S S' : State} (k : Runs p e below E S') (st : Steps p.tables e below S S') : Runs p e below E S := by
  obtain ⟨s₂, o, h1, h2⟩ := k
  exact ⟨s₂, o, st.trans h1, h2⟩
def EndN (s : State) (Q : Option Value → Heap → List Loc → Prop) (kc ks : Nat) : State → Outcome → Prop := fun s₂ o => ∃ v L, o = .returned v ∧ Q v s₂.heap L ∧ FrameEnd s o s₂ L kc ks
def EndH (s Z : State) (EL : List (String × Nat)) (Q : Option Value → Heap → List Loc → (Addr → Prop) → Prop) (kc ks : Nat) : State → Outcome → Prop := fun s₂ o => ∃ v L, o = .returned v ∧ Q v s₂.heap L (Safe Z EL s₂.vm s₂.heap) ∧ CHr Z EL s.vm s.heap s₂.vm s₂.heap ∧ ReturnedEndW s o s₂ L kc ks
section W
variable {p : Program} {l : Launch} {e : Env} {Rm : Room} {s : State} {m : MethodId} {args : Array Value} {below : List Frame} {meth : Method} {c : Code} {T : State} {locs : List Loc} {cells slots : Nat} {E : State → Outcome → Prop} {pc pc' : Nat} {Ls : Array Slot} {st : List Value}
theorem w_done (X : Stand p l e Rm s m args below meth c T locs cells slots) (hlk : meth.locks = false) {Q : Option Value → Heap → List Loc → Prop} {kc ks : Nat} {h : Heap} {v : Option Value} {g : JFrame} (eT : T.heap = h) (hv : meth.sig.returnType = none → v = none)
    (hr : ∀ fs, (∀ (f : JFrame) (acts : List Action), f.method = m → f.locked = none → f.entered = [] → (doReturn e (T.setTop f) acts v).1 = T.setFrames fs) → Steps p.tables e below (T.setTop g) (T.setFrames fs)) (hc : cells ≤ kc) (hn : slots ≤ ks) (hQ : Q v h locs) : Runs p e below (EndN s Q kc ks) (T.setTop g) := by
  obtain ⟨fs, h1, hrun, hended, hW, hsame⟩ := X.leave hv hlk
  subst eT
  exact ⟨_, _, hr fs h1, hrun, hended, v, locs, rfl, hQ, ⟨_, rfl⟩, hW, hsame.mono hc hn⟩
theorem w_doneH {vm₁ : Vm} (X : Stand p l e Rm (s.setVm vm₁) m args below meth c T locs cells slots) (hlk : meth.locks = false) {Z : State} {a0 : Array Value} {EL : List (String × Nat)} {Q : Option Value → Heap → List Loc → (Addr → Prop) → Prop} {kc ks k0 : Nat} {h h0 : Heap} {v : Option Value} {g : JFrame} (eT : T.heap = h) (hh : s.heap = h0) (hZ : Z.Warmed39 vm₁) (hEL : EW Z a0 EL) (hS : s.Since vm₁ k0) (hk : k0 ≤ h.size) (C : CHr Z EL s.vm h0 vm₁ h) (hv : meth.sig.returnType = none → v = none)
    (hr : ∀ fs, (∀ (f : JFrame) (acts : List Action), f.method = m → f.locked = none → f.entered = [] → (doReturn e (T.setTop f) acts v).1 = T.setFrames fs) → Steps p.tables e below (T.setTop g) (T.setFrames fs)) (hc : cells ≤ kc) (hn : slots ≤ ks) (hQ : (∀ x, x < h.size → Safe Z EL vm₁ h x → Safe Z EL T.vm h x) → Q v h locs (Safe Z EL T.vm h)) : Runs p e below (EndH s Z EL Q kc ks) (T.setTop g) := by
  subst eT hh
  obtain ⟨fs, h1, hrun, hended, q1, q2, q3, q4⟩ := X.leaveW hS hk hv hlk
  have A := CHv.at X hZ hEL C.1
  exact ⟨_, _, hr fs h1, hrun, hended, v, locs, rfl, hQ (fun x hx S => A.safe hx S), C.trans A, q1, q2, q3, q4.mono hc hn⟩
theorem w_aload (X : Stand p l e Rm s m args below meth c T locs cells slots) (hx : p.tables.exec = Jvm.exec) {k : Nat} {v : Value} (hd : decode c.code pc = .ok (.aload k, 2)) (hl : Ls[k]? = some (.val v)) (hv : v.isRef = true) (hp : pc + 2 = pc') (K : Runs p e below E (T.setTop (mkF m pc' Ls (v :: st)))) : Runs p e below E (T.setTop (mkF m pc Ls st)) := by
  subst hp; exact K.by fun _ k => XS.aload X.here hx rfl hd hl hv k
theorem w_aloadN (X : Stand p l e Rm s m args below meth c T locs cells slots) (hx : p.tables.exec = Jvm.exec) {k : Fin 4} {v : Value} (hd : decode c.code pc = .ok (.aload_n k, 1)) (hl : Ls[k.val]? = some (.val v)) (hv : v.isRef = true) (hp : pc + 1 = pc') (K : Runs p e below E (T.setTop (mkF m pc' Ls (v :: st)))) : Runs p e below E (T.setTop (mkF m pc Ls st)) := by
  subst hp; exact K.by fun _ k => XS.aloadN X.here hx rfl hd hl hv k
theorem w_iload (X : Stand p l e Rm s m args below meth c T locs cells slots) (hx : p.tables.exec = Jvm.exec) {k : Nat} {v : Int32} (hd : decode c.code pc = .ok (.iload k, 2)) (hl : Ls[k]? = some (.val (.int v))) (hp : pc + 2 = pc') (K : Runs p e below E (T.setTop (mkF m pc' Ls (.int v :: st)))) : Runs p e below E (T.setTop (mkF m pc Ls st)) := by
  subst hp; exact K.by fun _ k => XS.iload X.here hx rfl hd hl k
theorem w_iloadN (X : Stand p l e Rm s m args below meth c T locs cells slots) (hx : p.tables.exec = Jvm.exec) {k : Fin 4} {v : Int32} (hd : decode c.code pc = .ok (.iload_n k, 1)) (hl : Ls[k.val]? = some (.val (.int v))) (hp : pc + 1 = pc') (K : Runs p e below E (T.setTop (mkF m pc' Ls (.int v :: st)))) : Runs p e below E (T.setTop (mkF m pc Ls st)) := by
  subst hp; exact K.by fun _ k => XS.iloadN X.here hx rfl hd hl k
theorem w_istore (X : Stand p l e Rm s m args below meth c T locs cells slots) (hx : p.tables.exec = Jvm.exec) {k : Nat} {x : Int32} {L' : Array Slot} (hd : decode c.code pc = .ok (.istore k, 2)) (hl : storeLocals Ls k (.int x) = some L') (hp : pc + 2 = pc') (K : Runs p e below E (T.setTop (mkF m pc' L' st))) : Runs p e below E (T.setTop (mkF m pc Ls (.int x :: st))) := by
  subst hp; exact K.by fun _ k => XS.istore X.here hx rfl hd rfl hl k
theorem w_astore (X : Stand p l e Rm s m args below meth c T locs cells slots) (hx : p.tables.exec = Jvm.exec) {k : Nat} {x : Value} {L' : Array Slot} (hd : decode c.code pc = .ok (.astore k, 2)) (hv : x.isRef = true) (hl : storeLocals Ls k x = some L') (hp : pc + 2 = pc') (K : Runs p e below E (T.setTop (mkF m pc' L' st))) : Runs p e below E (T.setTop (mkF m pc Ls (x :: st))) := by
  subst hp; exact K.by fun _ k => XS.astore X.here hx rfl hd rfl hv hl k
theorem w_iconst (X : Stand p l e Rm s m args below meth c T locs cells slots) (hx : p.tables.exec = Jvm.exec) {i : Int} {v : Int32} (hd : decode c.code pc = .ok (.iconst i, 1)) (hv : Int32.ofInt i = v) (hp : pc + 1 = pc') (K : Runs p e below E (T.setTop (mkF m pc' Ls (.int v :: st)))) : Runs p e below E (T.setTop (mkF m pc Ls st)) := by
  subst hp; exact K.by fun _ k => XT.iconstV X.here hx rfl v hd hv k
theorem w_bipush (X : Stand p l e Rm s m args below meth c T locs cells slots) (hx : p.tables.exec = Jvm.exec) {i : Int} {v : Int32} (hd : decode c.code pc = .ok (.bipush i, 2)) (hv : (Int8.ofInt i).toInt32 = v) (hp : pc + 2 = pc') (K : Runs p e below E (T.setTop (mkF m pc' Ls (.int v :: st)))) : Runs p e below E (T.setTop (mkF m pc Ls st)) := by
  subst hp; exact K.by fun _ k => XT.bipushV X.here hx rfl v hd hv k
theorem w_sipush (X : Stand p l e Rm s m args below meth c T locs cells slots) (hx : p.tables.exec = Jvm.exec) {i : Int} {v : Int32} (hd : decode c.code pc = .ok (.sipush i, 3)) (hv : (Int16.ofInt i).toInt32 = v) (hp : pc + 3 = pc') (K : Runs p e below E (T.setTop (mkF m pc' Ls (.int v :: st)))) : Runs p e below E (T.setTop (mkF m pc Ls st)) := by
  subst hp; exact K.by fun _ k => XT.sipushV X.here hx rfl v hd hv k
theorem w_null (X : Stand p l e Rm s m args below meth c T locs cells slots) (hx : p.tables.exec = Jvm.exec)  (hd : decode c.code pc = .ok (.aconst_null, 1))  (hp : pc + 1 = pc') (K : Runs p e below E (T.setTop (mkF m pc' Ls (.null :: st)))) : Runs p e below E (T.setTop (mkF m pc Ls st)) := by
  subst hp; exact K.by fun _ k => XS.aconstNull X.here hx rfl hd k
theorem w_iand (X : Stand p l e Rm s m args below meth c T locs cells slots) (hx : p.tables.exec = Jvm.exec) {x y : Int32} (hd : decode c.code pc = .ok (.iand, 1))  (hp : pc + 1 = pc') (K : Runs p e below E (T.setTop (mkF m pc' Ls (.int (x &&& y) :: st)))) : Runs p e below E (T.setTop (mkF m pc Ls (.int y :: .int x :: st))) := by
  subst hp; exact K.by fun _ k => XS.iand X.here hx rfl hd rfl k
theorem w_i2c (X : Stand p l e Rm s m args below meth c T locs cells slots) (hx : p.tables.exec = Jvm.exec) {x : Int32} (hd : decode c.code pc = .ok (.i2c, 1))  (hp : pc + 1 = pc') (K : Runs p e below E (T.setTop (mkF m pc' Ls (.int (x.toUInt32.toUInt16.toUInt32.toInt32) :: st)))) : Runs p e below E (T.setTop (mkF m pc Ls (.int x :: st))) := by
  subst hp; exact K.by fun _ k => XS.i2c X.here hx rfl hd rfl k
theorem w_iushr (X : Stand p l e Rm s m args below meth c T locs cells slots) (hx : p.tables.exec = Jvm.exec) {x y : Int32} (hd : decode c.code pc = .ok (.iushr, 1))  (hp : pc + 1 = pc') (K : Runs p e below E (T.setTop (mkF m pc' Ls (.int ((x.toUInt32 >>> (y &&& 31).toUInt32).toInt32) :: st)))) : Runs p e below E (T.setTop (mkF m pc Ls (.int y :: .int x :: st))) := by
  subst hp; exact K.by fun _ k => XS.iushr X.here hx rfl hd rfl k
theorem w_dup (X : Stand p l e Rm s m args below meth c T locs cells slots) (hx : p.tables.exec = Jvm.exec) {x : Value} (hd : decode c.code pc = .ok (.dup, 1)) (hc : x.category = 1) (hp : pc + 1 = pc') (K : Runs p e below E (T.setTop (mkF m pc' Ls (x :: x :: st)))) : Runs p e below E (T.setTop (mkF m pc Ls (x :: st))) := by
  subst hp; exact K.by fun _ k => XS.dup X.here hx rfl hd rfl hc k
theorem w_goto (X : Stand p l e Rm s m args below meth c T locs cells slots) (hx : p.tables.exec = Jvm.exec) {o : Int} (hd : decode c.code pc = .ok (.goto o, 3))  (ho : 0 ≤ (pc : Int) + o) (hp : ((pc : Int) + o).toNat = pc') (K : Runs p e below E (T.setTop (mkF m pc' Ls st))) : Runs p e below E (T.setTop (mkF m pc Ls st)) := by
  exact K.by fun _ k => XS.goto X.here hx rfl rfl hd ho hp k
theorem w_ifY (X : Stand p l e Rm s m args below meth c T locs cells slots) (hx : p.tables.exec = Jvm.exec) {cd : ClassFile.Cond} {x : Int32} {o : Int} (hd : decode c.code pc = .ok (.ifCond cd o, 3)) (hc : if_icmp.holds cd x 0 = true) (ho : 0 ≤ (pc : Int) + o) (hp : ((pc : Int) + o).toNat = pc') (K : Runs p e below E (T.setTop (mkF m pc' Ls st))) : Runs p e below E (T.setTop (mkF m pc Ls (.int x :: st))) := by
  exact K.by fun _ k => XS.ifYes X.here hx rfl rfl hd rfl ((if0 _ _).trans hc) ho hp k
theorem w_ifN (X : Stand p l e Rm s m args below meth c T locs cells slots) (hx : p.tables.exec = Jvm.exec) {cd : ClassFile.Cond} {x : Int32} {o : Int} (hd : decode c.code pc = .ok (.ifCond cd o, 3)) (hc : if_icmp.holds cd x 0 = false) (hp : pc + 3 = pc') (K : Runs p e below E (T.setTop (mkF m pc' Ls st))) : Runs p e below E (T.setTop (mkF m pc Ls (.int x :: st))) := by
  subst hp; exact K.by fun _ k => XS.ifNo X.here hx rfl hd rfl ((if0 _ _).trans hc) k
theorem w_icY (X : Stand p l e Rm s m args below meth c T locs cells slots) (hx : p.tables.exec = Jvm.exec) {cd : ClassFile.Cond} {x y : Int32} {o : Int} (hd : decode c.code pc = .ok (.if_icmp cd o, 3)) (hc : if_icmp.holds cd x y = true) (ho : 0 ≤ (pc : Int) + o) (hp : ((pc : Int) + o).toNat = pc') (K : Runs p e below E (T.setTop (mkF m pc' Ls st))) : Runs p e below E (T.setTop (mkF m pc Ls (.int y :: .int x :: st))) := by
  exact K.by fun _ k => XS.icmpYes X.here hx rfl rfl hd rfl hc ho hp k
theorem w_icN (X : Stand p l e Rm s m args below meth c T locs cells slots) (hx : p.tables.exec = Jvm.exec) {cd : ClassFile.Cond} {x y : Int32} {o : Int} (hd : decode c.code pc = .ok (.if_icmp cd o, 3)) (hc : if_icmp.holds cd x y = false) (hp : pc + 3 = pc') (K : Runs p e below E (T.setTop (mkF m pc' Ls st))) : Runs p e below E (T.setTop (mkF m pc Ls (.int y :: .int x :: st))) := by
  subst hp; exact K.by fun _ k => XS.icmpNo X.here hx rfl hd rfl hc k
theorem w_ifnonnullY (X : Stand p l e Rm s m args below meth c T locs cells slots) (hx : p.tables.exec = Jvm.exec) {b : Addr} {o : Int} (hd : decode c.code pc = .ok (.ifnonnull o, 3))  (ho : 0 ≤ (pc : Int) + o) (hp : ((pc : Int) + o).toNat = pc') (K : Runs p e below E (T.setTop (mkF m pc' Ls st))) : Runs p e below E (T.setTop (mkF m pc Ls (.ref b :: st))) := by
  exact K.by fun _ k => XS.ifnonnullYes X.here hx rfl rfl hd rfl ho hp k
theorem w_ifnonnullN (X : Stand p l e Rm s m args below meth c T locs cells slots) (hx : p.tables.exec = Jvm.exec) {o : Int} (hd : decode c.code pc = .ok (.ifnonnull o, 3))  (hp : pc + 3 = pc') (K : Runs p e below E (T.setTop (mkF m pc' Ls st))) : Runs p e below E (T.setTop (mkF m pc Ls (.null :: st))) := by
  subst hp; exact K.by fun _ k => XS.ifnonnullNo X.here hx rfl hd rfl k
theorem w_getF (X : Stand p l e Rm s m args below meth c T locs cells slots) (hx : p.tables.exec = Jvm.exec) {Z : State} {a0 : Array Value} {h : Heap} {own R0 O n d : String} (host : String) {index : Nat} {a : Addr} {v : Value} (hZ : Z.Warmed39 s.vm) (hown : s.vm.findClass own = some m.cls) (w : (Cond.fieldLink own index R0 n d).before a0 Z = true ∨ (Cond.fieldLinkNest own index R0 n d host).before a0 Z = true) (via : Via Z R0 O n d) (eT : T.heap = h) (F : Fld Z h a O n d v) (hd : decode c.code pc = .ok (.getfield index, 3)) (hp : pc + 3 = pc') (K : ∀ T' : State, Stand p l e Rm s m args below meth c T' locs cells slots → T'.heap = h → Runs p e below E (T'.setTop (mkF m pc' Ls (v :: st)))) : Runs p e below E (T.setTop (mkF m pc Ls (.ref a :: st))) := by
  subst hp
  obtain ⟨T1, X1, e1, st1⟩ := getF X hx hZ hown (host := host) w via eT F (g := mkF m pc Ls (.ref a :: st)) rfl rfl hd
  exact (K T1 X1 e1).by st1
theorem w_getS (X : Stand p l e Rm s m args below meth c T locs cells slots) (hx : p.tables.exec = Jvm.exec) {Z : State} {a0 : Array Value} {h : Heap} {own R0 O n d : String} (host : String) {index : Nat} {v : Value} (hZ : Z.Warmed39 s.vm) (hown : s.vm.findClass own = some m.cls) (w : (Cond.fieldLink own index R0 n d).before a0 Z = true ∨ (Cond.fieldLinkNest own index R0 n d host).before a0 Z = true) (via : Via Z R0 O n d) (eT : T.heap = h) (F : Sta Z h O n d v) (hd : decode c.code pc = .ok (.getstatic index, 3)) (hp : pc + 3 = pc') (K : ∀ T' : State, Stand p l e Rm s m args below meth c T' locs cells slots → T'.heap = h → Runs p e below E (T'.setTop (mkF m pc' Ls (v :: st)))) : Runs p e below E (T.setTop (mkF m pc Ls st)) := by
  subst hp
  obtain ⟨T1, X1, e1, st1⟩ := getS2 X hx hZ hown (host := host) w via eT F (g := mkF m pc Ls st) rfl hd
  exact (K T1 X1 e1).by st1
theorem w_putF (X : Stand p l e Rm s m args below meth c T locs cells slots) (hx : p.tables.exec = Jvm.exec) {Z : State} {a0 : Array Value} {h : Heap} {own R0 O n d C : String} (host : String) {index kk : Nat} {ty : FieldType} {a : Addr} {v old : Value} (hZ : Z.Warmed39 s.vm) (hown : s.vm.findClass own = some m.cls) (w : (Cond.fieldLink own index R0 n d).before a0 Z = true ∨ (Cond.fieldLinkNest own index R0 n d host).before a0 Z = true) (via : Via Z R0 O n d) (eT : T.heap = h) (F : Fld Z h a O n d old) (Ex : Exa Z h a C) (Ly : (Cond.lays C O n d).before a0 Z = true ∨ ((Cond.laysFinal C O n d).before a0 Z = true ∧ own = O ∧ meth.name = "<init>")) (wi : (Cond.instantiable C kk).before a0 Z = true) (hty : parseFieldDescriptor d = some ty) (hn : narrow ty v = v) (hf : fits ty v = true) (hd : decode c.code pc = .ok (.putfield index, 3)) (hp : pc + 3 = pc') (K : ∀ (T' : State) (h' : Heap), Stand p l e Rm s m args below meth c T' (locs ++ [⟨a, slotOf Z O n d⟩]) cells slots → T'.heap = h' → Wr h h' a (slotOf Z O n d) v → Runs p e below E (T'.setTop (mkF m pc' Ls st))) : Runs p e below E (T.setTop (mkF m pc Ls (v :: .ref a :: st))) := by
  subst hp
  obtain ⟨T1, h1, X1, e1, W1, st1⟩ := putF X hx hZ hown (host := host) w via eT F Ex Ly wi hty hn hf (g := mkF m pc Ls (v :: .ref a :: st)) rfl rfl hd
  exact (K T1 h1 X1 e1 W1).by st1
theorem w_putFN (X : Stand p l e Rm s m args below meth c T locs cells slots) (hx : p.tables.exec = Jvm.exec) {Z : State} {a0 : Array Value} {h : Heap} {own R0 O n d C : String} {index kk : Nat} {ty : FieldType} {a : Addr} {v v' old : Value} (hZ : Z.Warmed39 s.vm) (hown : s.vm.findClass own = some m.cls) (w : (Cond.fieldLink own index R0 n d).before a0 Z = true) (via : Via Z R0 O n d) (eT : T.heap = h) (F : Fld Z h a O n d old) (Ex : Exa Z h a C) (Ly : (Cond.lays C O n d).before a0 Z = true ∨ ((Cond.laysFinal C O n d).before a0 Z = true ∧ own = O ∧ meth.name = "<init>")) (wi : (Cond.instantiable C kk).before a0 Z = true) (hty : parseFieldDescriptor d = some ty) (hn : narrow ty v = v') (hf : fits ty v' = true) (hd : decode c.code pc = .ok (.putfield index, 3)) (hp : pc + 3 = pc') (K : ∀ (T' : State) (h' : Heap), Stand p l e Rm s m args below meth c T' (locs ++ [⟨a, slotOf Z O n d⟩]) cells slots → T'.heap = h' → Wr h h' a (slotOf Z O n d) v' → Runs p e below E (T'.setTop (mkF m pc' Ls st))) : Runs p e below E (T.setTop (mkF m pc Ls (v :: .ref a :: st))) := by
  subst hp
  obtain ⟨T1, h1, X1, e1, W1, st1⟩ := putFN X hx hZ hown w via eT F Ex Ly wi hty hn hf (g := mkF m pc Ls (v :: .ref a :: st)) rfl rfl hd
  exact (K T1 h1 X1 e1 W1).by st1
theorem w_new (X : Stand p l e Rm s m args below meth c T locs cells slots) (hx : p.tables.exec = Jvm.exec) {Z : State} {a0 : Array Value} {h : Heap} {own C : String} {index n : Nat} (hZ : Z.Warmed39 s.vm) (hown : s.vm.findClass own = some m.cls) (w : (Cond.classLink own index C).before a0 Z = true) (wi : (Cond.instantiable C n).before a0 Z = true) (wz : (Cond.initialized C).before a0 Z = true) (eT : T.heap = h) (hd : decode c.code pc = .ok (.new index, 3)) (hc : cells + 1 ≤ Rm.cells) (hl : slots + n ≤ Rm.slots) (hp : pc + 3 = pc') (K : ∀ (T' : State) (h' : Heap) (b : Addr), Stand p l e Rm s m args below meth c T' locs (cells + 1) (slots + n) → T'.heap = h' → Ext h h' → b = h.size → Exa Z h' b C → (∀ {O nm d : String} {ty : FieldType}, Laid Z a0 C O nm d → parseFieldDescriptor d = some ty → Fld Z h' b O nm d (defaultValue ty)) → Runs p e below E (T'.setTop (mkF m pc' Ls (.ref b :: st)))) : Runs p e below E (T.setTop (mkF m pc Ls st)) := by
  subst hp
  obtain ⟨T1, h1, X1, e1, E1, A1, D1, -, st1⟩ := newO X hx hZ hown w wi wz eT (g := mkF m pc Ls st) rfl hd hc hl
  exact (K T1 h1 _ X1 e1 E1 rfl A1 D1).by st1
theorem w_newP (X : Stand p l e Rm s m args below meth c T locs cells slots) (hx : p.tables.exec = Jvm.exec) {Z : State} {a0 : Array Value} {h : Heap} (aty : ArrayType) (ty : FieldType) {n : Int32} (cap : Nat) (hty : newarray.typeOf aty = ty) (hZ : Z.Warmed39 s.vm) (w : (Cond.arrayClass ty).before a0 Z = true) (eT : T.heap = h) (hd : decode c.code pc = .ok (.newarray aty, 2)) (hn : ¬ n < 0) (hcap : n.toNatClampNeg ≤ cap) (hb : cap * 8 ≤ 536870912) (hc : cells + 1 ≤ Rm.cells) (hl : slots + cap ≤ Rm.slots) (hp : pc + 2 = pc') (K : ∀ (T' : State) (h' : Heap) (k : ClassId) (b : Addr), Stand p l e Rm s m args below meth c T' locs (cells + 1) (slots + cap) → T'.heap = h' → Ext h h' → b = h.size → Arr Z h' b (newA k ty n) ty → Runs p e below E (T'.setTop (mkF m pc' Ls (.ref b :: st)))) : Runs p e below E (T.setTop (mkF m pc Ls (.int n :: st))) := by
  subst hp
  subst hty
  obtain ⟨T1, h1, k1, X1, e1, E1, A1, st1⟩ := newP X hx hZ w eT (g := mkF m pc Ls (.int n :: st)) rfl hd rfl hn hcap hb hc hl
  exact (K T1 h1 k1 _ X1 e1 E1 rfl A1).by st1
theorem w_stC (X : Stand p l e Rm s m args below meth c T locs cells slots) (hx : p.tables.exec = Jvm.exec) {Z : State} {h : Heap} {a : Addr} {cl : Cell} {j : Int32} {x : Int32} (hZ : Z.Warmed39 s.vm) (eT : T.heap = h) (A : Arr Z h a cl .char) (hj : ¬ (j < 0 ∨ cl.slots.size ≤ j.toNatClampNeg)) (hd : decode c.code pc = .ok (.castore, 1)) (hp : pc + 1 = pc') (K : ∀ (T' : State) (h' : Heap), Stand p l e Rm s m args below meth c T' (locs ++ [⟨a, j.toNatClampNeg⟩]) cells slots → T'.heap = h' → Wr h h' a j.toNatClampNeg (.int (nar .char x)) → Runs p e below E (T'.setTop (mkF m pc' Ls st))) : Runs p e below E (T.setTop (mkF m pc Ls (.int x :: .int j :: .ref a :: st))) := by
  subst hp
  obtain ⟨T1, h1, X1, e1, W1, st1⟩ := stC X hx hZ eT A (j := j) hj (g := mkF m pc Ls (.int x :: .int j :: .ref a :: st)) rfl rfl hd
  exact (K T1 h1 X1 e1 W1).by st1
theorem w_aaload (X : Stand p l e Rm s m args below meth c T locs cells slots) (hx : p.tables.exec = Jvm.exec) {Z : State} {h : Heap} {a : Addr} {cl : Cell} {ty : FieldType} {j : Int32} {v : Value} (hZ : Z.Warmed39 s.vm) (eT : T.heap = h) (A : Arr Z h a cl ty) (hty : ty.isReference = true) (hj : ¬ (j < 0 ∨ cl.slots.size ≤ j.toNatClampNeg)) (hv : cl.slots[j.toNatClampNeg]? = some v) (hd : decode c.code pc = .ok (.aaload, 1)) (hp : pc + 1 = pc') (K : Runs p e below E (T.setTop (mkF m pc' Ls (v :: st)))) : Runs p e below E (T.setTop (mkF m pc Ls (.int j :: .ref a :: st))) := by
  subst hp
  exact K.by fun t k => X.aaload hx (j := j) (v := v) (by rw [eT]; exact A.1) (State.isArrayOf_alike hZ.alike A.2.1) hty A.2.2 hj hv (g := mkF m pc Ls (.int j :: .ref a :: st)) rfl rfl hd t k
theorem w_alen (X : Stand p l e Rm s m args below meth c T locs cells slots) (hx : p.tables.exec = Jvm.exec) {Z : State} {h : Heap} {a : Addr} {k : ClassId} {ty : FieldType} {z : Int32} {vs : List Value} {dv : Value} (hZ : Z.Warmed39 s.vm) (eT : T.heap = h) (F : Arv Z h a k ty z vs dv) (hd : decode c.code pc = .ok (.arraylength, 1)) (hp : pc + 1 = pc') (K : Runs p e below E (T.setTop (mkF m pc' Ls (.int z :: st)))) : Runs p e below E (T.setTop (mkF m pc Ls (.ref a :: st))) := by
  subst hp
  obtain ⟨cl, A, q, S, N, H, G⟩ := F
  rw [← len_of S N] at K
  exact K.by fun t k => X.arraylength hx (by rw [eT]; exact A.1) (State.isArrayOf_alike hZ.alike A.2.1) (g := mkF m pc Ls (.ref a :: st)) rfl rfl hd t k
theorem w_initO (X : Stand p l e Rm s m args below meth c T locs cells slots) (hx : p.tables.exec = Jvm.exec) {Z : State} {a0 : Array Value} {h : Heap} {own : String} {index : Nat} {a : Addr} (W : Nat) (hZ : Z.Warmed39 s.vm) (hown : s.vm.findClass own = some m.cls) (w1 : (Cond.methodLink own index Lib.objectInit).before a0 Z = true) (w2 : (Cond.instanceMethod Lib.objectInit).before a0 Z = true) (w3 : (Cond.code Lib.objectInit ⟨#[0xb1]⟩ 1 none).before a0 Z = true) (eT : T.heap = h) (hsz : Ls.size = c.maxLocals) (hd : decode c.code pc = .ok (.invokespecial index, 3)) (hf : 1 ≤ Rm.frames) (hW : (st.map fun v => v.category).sum ≤ W) (hl : W + 12 ≤ Rm.locals) (hp : pc + 3 = pc') (K : ∀ T' : State, Stand p l e Rm s m args below meth c T' locs cells slots → T'.heap = h → Runs p e below E (T'.setTop (mkF m pc' Ls st))) : Runs p e below E (T.setTop (mkF m pc Ls (.ref a :: st))) := by
  subst hp
  obtain ⟨T1, X1, e1, st1⟩ := initO X hx hZ hown w1 w2 w3 eT (g := mkF m pc Ls (.ref a :: st)) rfl hsz rfl hd hf (W := W) (by show 2 * 0 + _ ≤ _; omega) hl
  exact (K T1 X1 e1).by st1
theorem w_static (X : Stand p l e Rm s m args below meth c T locs cells slots) (hx : p.tables.exec = Jvm.exec) {stk : List Value} {own : String} {index : Nat} {y : MethodName} {bytes : ByteArray} {maxL : Nat} {ret : Option FieldType} {W : Nat} {Pre : Pt → Array Value → Prop} {Post : Pt → Array Value → Option Value → Pt → Prop} (hown : s.vm.findClass own = some m.cls) (hlink : (Cond.methodLink own index y).before args s = true) (hstat : (Cond.static y).before args s = true) (hinit : (Cond.initialized y.cls).before args s = true) (hcode : (Cond.code y bytes maxL ret).before args s = true) (hy : y.cls ≠ "java/lang/invoke/MethodHandle" ∧ y.cls ≠ "java/lang/invoke/VarHandle") (hK : Back l Rm p e below s args y 3 W Pre Post) (hsz : Ls.size = c.maxLocals) (argsL : List Value) (hlen : ∀ sig, parseMethodDescriptor y.desc = some sig → argsL.length = sig.parameters.length) (hst : stk = argsL.reverse ++ st) (hW : (st.map fun v => v.category).sum ≤ W) (hd : decode c.code pc = .ok (.invokestatic index, 3)) (hpre : ∀ vm₁, s.WarmedH vm₁ → Pre ⟨T.setVm vm₁, locs, cells, slots⟩ argsL.toArray) (hp : pc + 3 = pc') (K : ∀ (v : Option Value) (vm₁ : Vm) (B : Pt), Stand p l e Rm s m args below meth c B.U B.locs B.cells B.slots → Post ⟨T.setVm vm₁, locs, cells, slots⟩ argsL.toArray v B → Runs p e below E (B.U.setTop (mkF m pc' Ls (v.toList ++ st)))) : Runs p e below E (T.setTop (mkF m pc Ls stk)) := by
  subst hp
  obtain ⟨v1, vm1, B1, -, X1, q1, st1⟩ := Jvm.LawKit.callS X hx hown hlink hstat hinit hcode hy hK (g := mkF m pc Ls stk) rfl hsz (argsL := argsL) (rest := st) hlen hst (by show 2 * 0 + _ ≤ _; omega) hd hpre
  exact (K v1 vm1 B1 X1 q1).by st1
theorem w_special (X : Stand p l e Rm s m args below meth c T locs cells slots) (hx : p.tables.exec = Jvm.exec) {stk : List Value} {own : String} {index : Nat} {y : MethodName} {bytes : ByteArray} {maxL : Nat} {a : Addr} {W : Nat} {Pre : Pt → Array Value → Prop} {Post : Pt → Array Value → Option Value → Pt → Prop} (hy1 : y.name = "<init>") (hown : s.vm.findClass own = some m.cls) (hlink : (Cond.methodLink own index y).before args s = true) (hinst : (Cond.instanceMethod y).before args s = true) (hcode : (Cond.code y bytes maxL none).before args s = true) (hy : y.cls ≠ "java/lang/invoke/MethodHandle" ∧ y.cls ≠ "java/lang/invoke/VarHandle") (hK : Back l Rm p e below s args y 3 W Pre Post) (hsz : Ls.size = c.maxLocals) (argsL : List Value) (hlen : ∀ sig, parseMethodDescriptor y.desc = some sig → argsL.length = sig.parameters.length) (hst : stk = argsL.reverse ++ .ref a :: st) (hW : (st.map fun v => v.category).sum ≤ W) (hd : decode c.code pc = .ok (.invokespecial index, 3)) (hpre : ∀ vm₁, s.WarmedH vm₁ → Pre ⟨T.setVm vm₁, locs, cells, slots⟩ (.ref a :: argsL).toArray) (hp : pc + 3 = pc') (K : ∀ (v : Option Value) (vm₁ : Vm) (B : Pt), Stand p l e Rm s m args below meth c B.U B.locs B.cells B.slots → Post ⟨T.setVm vm₁, locs, cells, slots⟩ (.ref a :: argsL).toArray v B → Runs p e below E (B.U.setTop (mkF m pc' Ls (v.toList ++ st)))) : Runs p e below E (T.setTop (mkF m pc Ls stk)) := by
  subst hp
  obtain ⟨v1, vm1, B1, -, X1, q1, st1⟩ := X.specialBack hx hy1 hown hlink hinst hcode hy hK (g := mkF m pc Ls stk) rfl hsz (Steps.refl _) (a := a) (argsL := argsL) (rest := st) hlen hst (by show 2 * 0 + _ ≤ _; omega) hd hpre
  exact (K v1 vm1 B1 X1 q1).tr st1
theorem w_virtual (X : Stand p l e Rm s m args below meth c T locs cells slots) (hx : p.tables.exec = Jvm.exec) {stk : List Value} {own C : String} {index : Nat} {y z : MethodName} {b : Addr} {cB : ClassId} {W : Nat} {Pre : Pt → Array Value → Prop} {Post : Pt → Array Value → Option Value → Pt → Prop} (hown : s.vm.findClass own = some m.cls) (hlink : (Cond.methodLink own index y).before args s = true) (hdecl : (Cond.declares y).before args s = true) (hnf : NotFace s y) (hsel : (Cond.selects C y z).before args s = true) (hinst : (Cond.instanceMethod z).before args s = true) (hy : y.cls ≠ "java/lang/invoke/MethodHandle" ∧ y.cls ≠ "java/lang/invoke/VarHandle") (hK : Back l Rm p e below s args z 3 W Pre Post) (hcB : s.vm.findClass C = some cB) (hrecv : IsOf cB T b) (hsz : Ls.size = c.maxLocals) (argsL : List Value) (hlen : ∀ sig, parseMethodDescriptor y.desc = some sig → argsL.length = sig.parameters.length) (hst : stk = argsL.reverse ++ .ref b :: st) (hW : (st.map fun v => v.category).sum ≤ W) (hd : decode c.code pc = .ok (.invokevirtual index, 3)) (hpre : ∀ vm₁, s.WarmedH vm₁ → Pre ⟨T.setVm vm₁, locs, cells, slots⟩ (.ref b :: argsL).toArray) (hp : pc + 3 = pc') (K : ∀ (v : Option Value) (vm₁ : Vm) (B : Pt), Stand p l e Rm s m args below meth c B.U B.locs B.cells B.slots → Post ⟨T.setVm vm₁, locs, cells, slots⟩ (.ref b :: argsL).toArray v B → Runs p e below E (B.U.setTop (mkF m pc' Ls (v.toList ++ st)))) : Runs p e below E (T.setTop (mkF m pc Ls stk)) := by
  subst hp
  obtain ⟨v1, vm1, B1, -, X1, q1, st1⟩ := X.virtualBack hx hown hlink hdecl hnf hsel hinst hy hK hcB hrecv (g := mkF m pc Ls stk) rfl hsz (Steps.refl _) (argsL := argsL) (rest := st) hlen hst (by show 2 * 0 + _ ≤ _; omega) hd hpre
  exact (K v1 vm1 B1 X1 q1).tr st1
theorem w_specialS (X : Stand p l e Rm s m args below meth c T locs cells slots) (hx : p.tables.exec = Jvm.exec) {stk : List Value} {own : String} {index : Nat} {y : MethodName} {bytes : ByteArray} {maxL : Nat} {a : Addr} {W : Nat} {Pre : Pt → Array Value → Prop} {Post : Pt → Array Value → Option Value → Pt → Prop} (hy1 : y.name = "<init>") (hown : s.vm.findClass own = some m.cls) (hlink : (Cond.methodLink own index y).before args s = true) (hinst : (Cond.instanceMethod y).before args s = true) (hcode : (Cond.code y bytes maxL none).before args s = true) (hy : y.cls ≠ "java/lang/invoke/MethodHandle" ∧ y.cls ≠ "java/lang/invoke/VarHandle") (hK : BackS l Rm p e below s args y 3 W Pre Post) (hsz : Ls.size = c.maxLocals) (argsL : List Value) (hlen : ∀ sig, parseMethodDescriptor y.desc = some sig → argsL.length = sig.parameters.length) (hst : stk = argsL.reverse ++ .ref a :: st) (hW : (st.map fun v => v.category).sum ≤ W) (hd : decode c.code pc = .ok (.invokespecial index, 3)) (hpre : ∀ vm₁, s.WarmedH vm₁ → Pre ⟨T.setVm vm₁, locs, cells, slots⟩ (.ref a :: argsL).toArray) (hp : pc + 3 = pc') (K : ∀ (v : Option Value) (vm₁ : Vm) (B : Pt), Stand p l e Rm (s.setVm B.U.vm) m args below meth c B.U B.locs B.cells B.slots → s.Since B.U.vm B.U.heap.size → T.heap.size ≤ B.U.heap.size → Post ⟨T.setVm vm₁, locs, cells, slots⟩ (.ref a :: argsL).toArray v B → Runs p e below E (B.U.setTop (mkF m pc' Ls (v.toList ++ st)))) : Runs p e below E (T.setTop (mkF m pc Ls stk)) := by
  subst hp
  obtain ⟨v1, vm1, B1, -, X1, s1, g1, q1, st1⟩ := X.specialBackS hx hy1 hown hlink hinst hcode hy hK (g := mkF m pc Ls stk) rfl hsz (Steps.refl _) (a := a) (argsL := argsL) (rest := st) hlen hst (by show 2 * 0 + _ ≤ _; omega) hd hpre
  exact (K v1 vm1 B1 X1 s1 g1 q1).tr st1
end W

/-- a body's contract, and how a walk shows it -/
abbrev MetN (l : Launch) (Z : State) (y : MethodName) (bytes : ByteArray) (maxL : Nat) (ret : Option FieldType) (ws : List Cond) (rm : Room) (as' : Array Value) (h : Heap) (Q : Option Value → Heap → List Loc → Prop) : Prop :=
  MetFree l y (head1 (Cond.code y bytes maxL ret :: ws) rm) (fun a U => a = as' ∧ Z.Warmed39 U.vm ∧ U.heap = h) (fun _ _ _ _ _ => True) (fun _ U o U' => ∃ v L, o = .returned v ∧ Q v U'.heap L ∧ FrameEnd U o U' L rm.cells rm.slots)
theorem MetN.of {l : Launch} {Z : State} {y : MethodName} {bytes : ByteArray} {maxL : Nat} {ret : Option FieldType} {ws : List Cond} {rm : Room} {as' : Array Value} {h : Heap} {Q : Option Value → Heap → List Loc → Prop} (hp : plainFor y = true)
    (H : ∀ (p : Program) (e : Env) (s : State) (m : MethodId) (below : List Frame) (meth : Method) (c : Code) (s₁ : State), meth.sig.returnType = ret → p.tables.exec = Jvm.exec → c.code = bytes → c.maxLocals = maxL → s.vm.findClass y.cls = some m.cls → meth.name = y.name → meth.locks = false → Z.Warmed39 s.vm → Stand p l e rm s m as' below meth c s₁ [] 0 0 → s₁.heap = h → Runs p e below (EndN s Q rm.cells rm.slots) (s₁.setTop (entryFrame m as' maxL))) :
    MetN l Z y bytes maxL ret ws rm as' h Q := by
  refine MetFree.of_bodySF hp hisR ?_
  intro p e s m args below meth c s₁ Bd hml hP hK
  obtain ⟨rfl, hZ, hh⟩ := hP
  exact H p e s m below meth c s₁ Bd.returns Bd.exec Bd.bytes hml (findClass_of_methodNamed Bd.named) (name_of_methodNamed Bd.named Bd.method).1 Bd.notSynchronized hZ (Stand.of_body Bd) (by rw [← hh, Bd.state]; rfl)
abbrev MetH (l : Launch) (Z : State) (EL : List (String × Nat)) (y : MethodName) (bytes : ByteArray) (maxL : Nat) (ret : Option FieldType) (ws : List Cond) (rm : Room) (as' : Array Value) (h : Heap) (Q : Option Value → Heap → List Loc → (Addr → Prop) → Prop) (sf : List Addr) : Prop :=
  MetFree l y (head1 (Cond.code y bytes maxL ret :: ws) rm) (fun a U => a = as' ∧ Z.Warmed39 U.vm ∧ U.heap = h ∧ CHv Z EL U.vm h ∧ ∀ x ∈ sf, Safe Z EL U.vm h x) (fun _ _ _ _ _ => True) (fun _ U o U' => ∃ v L, o = .returned v ∧ Q v U'.heap L (Safe Z EL U'.vm U'.heap) ∧ CHr Z EL U.vm U.heap U'.vm U'.heap ∧ ReturnedEndW U o U' L rm.cells rm.slots)
theorem MetH.of {l : Launch} {Z : State} {EL : List (String × Nat)} {y : MethodName} {bytes : ByteArray} {maxL : Nat} {ret : Option FieldType} {ws : List Cond} {rm : Room} {as' : Array Value} {h : Heap} {Q : Option Value → Heap → List Loc → (Addr → Prop) → Prop} {sf : List Addr} (hp : plainFor y = true)
    (H : ∀ (p : Program) (e : Env) (s : State) (m : MethodId) (below : List Frame) (meth : Method) (c : Code) (s₁ : State), meth.sig.returnType = ret → p.tables.exec = Jvm.exec → c.code = bytes → c.maxLocals = maxL → s.vm.findClass y.cls = some m.cls → meth.name = y.name → meth.locks = false → Z.Warmed39 s.vm → Stand p l e rm (s.setVm s.vm) m as' below meth c s₁ [] 0 0 → s₁.heap = h → s.heap = h → CHv Z EL s.vm h → (∀ x ∈ sf, Safe Z EL s.vm h x) → s.Since s.vm h.size → CHr Z EL s.vm h s.vm h → Runs p e below (EndH s Z EL Q rm.cells rm.slots) (s₁.setTop (entryFrame m as' maxL))) :
    MetH l Z EL y bytes maxL ret ws rm as' h Q sf := by
  refine MetFree.of_bodySF hp hisR ?_
  intro p e s m args below meth c s₁ Bd hml hP hK
  obtain ⟨rfl, hZ, hh, hH, hsf⟩ := hP
  exact H p e s m below meth c s₁ Bd.returns Bd.exec Bd.bytes hml (findClass_of_methodNamed Bd.named) (name_of_methodNamed Bd.named Bd.method).1 Bd.notSynchronized hZ (Stand.of_body Bd) (by rw [← hh, Bd.state]; rfl) hh hH hsf ((State.WarmedH.refl s).since _) (CHr.refl hH)
end Jvm.RoadKit
/- laws to paste: Road.backV (cut by pick.py; bodies as the Statement names them) -/
namespace Jvm.Pilot.@@N@@
namespace StrChars
open Jvm Sem ClassFile Op Lib Jvm.Stand Jvm.Free.XT Jvm.Free.ALB Jvm.Free.JM Jvm.Free
open Jvm.Lib.Cold (StaticIs)
/-- a char array whose places are chars -/
def Ch (a : Addr) (A : Cell) (U : State) : Prop := Arr .char a A U ∧ Typed .char A
theorem Ch.mv {a : Addr} {A : Cell} {U U' : State} (h : Ch a A U) (hal : U.vm.Alike U'.vm) (hh : U'.heap = U.heap) : Ch a A U' := ⟨h.1.mv hal hh, h.2⟩
theorem Ch.keep {a : Addr} {A : Cell} {U U' : State} (h : Ch a A U) (hal : U.vm.Alike U'.vm) (hk : U'.heap[a]? = some A) : Ch a A U' := ⟨h.1.keep hal hk, h.2⟩
/-- what place i of a char[]'s cell holds -/
def cv (A : Cell) (i : Nat) : Int32 := match A.slots[i]? with | some (.int x) => x | _ => 0
theorem Ch.get {a : Addr} {A : Cell} {U : State} (h : Ch a A U) {i : Nat} (hi : i < A.slots.size) : A.slots[i]? = some (.int (cv A i)) := by
  have e := Array.getElem?_eq_getElem hi
  have f := h.2 i _ e
  unfold cv; rw [e]
  generalize A.slots[i] = v at f
  cases v <;> simp [fits] at f ⊢
/-- the byte that i2b leaves of a char -/
def lo8 (x : Int32) : Int32 := x.toInt8.toInt32
theorem fits_lo8 (y : Int32) : fits .byte (.int (lo8 y)) = true := by
  have h1 := y.toInt8.le_toInt
  have h2 := y.toInt8.toInt_lt
  simp only [lo8, fits, Bool.and_eq_true, decide_eq_true_eq, Int32.le_iff_toInt_le, Int8.toInt_toInt32, show (-128 : Int32).toInt = -128 from by decide, show (127 : Int32).toInt = 127 from by decide]
  omega
/-- A' is A but that each place j of lo .. hi - 1 holds f j -/
def Laid (A A' : Cell) (lo hi : Nat) (f : Nat → Value) : Prop := A'.cls = A.cls ∧ A'.vm = A.vm ∧ A'.slots.size = A.slots.size ∧ ∀ i, A'.slots[i]? = if lo ≤ i ∧ i < hi then some (f i) else A.slots[i]?
theorem Laid.zero (A : Cell) (lo : Nat) (f : Nat → Value) : Laid A A lo (lo + 0) f := ⟨rfl, rfl, rfl, fun i => by rw [if_neg (by omega)]⟩
theorem Laid.step {A Ak : Cell} {lo k : Nat} {f : Nat → Value} {v : Value} (h : Laid A Ak lo k f) (hlo : lo ≤ k) (hk : k < Ak.slots.size) (hv : v = f k) : Laid A (Ak.setSlot k v) lo (k + 1) f := by
  refine ⟨h.1, h.2.1, by simpa [Cell.setSlot] using h.2.2.1, fun i => ?_⟩
  by_cases e : k = i
  · subst e; rw [Cell.slots_setSlot_self v hk, if_pos (by omega), hv]
  · rw [Cell.slots_setSlot_ne v e, h.2.2.2 i]
    by_cases q : lo ≤ i ∧ i < k
    · rw [if_pos q, if_pos (by omega)]
    · rw [if_neg q, if_neg (by omega)]
def U16 : String := "java/lang/StringUTF16"
namespace Cmp5
def yN : MethodName := ⟨"java/lang/StringUTF16", "compress", "([CI[BII)I"⟩
abbrev yB : ByteArray := jdk_52_method_21_code
theorem d0 : decode yB 0 = .ok (.iconst 0, 1) := by decide +kernel
theorem d1 : decode yB 1 = .ok (.istore 5, 2) := by decide +kernel
theorem d3 : decode yB 3 = .ok (.iload 5, 2) := by decide +kernel
theorem d5 : decode yB 5 = .ok (.iload 4, 2) := by decide +kernel
theorem d7 : decode yB 7 = .ok (.if_icmp (.ge) 37, 3) := by decide +kernel
theorem d10 : decode yB 10 = .ok (.aload_n 0, 1) := by decide +kernel
theorem d11 : decode yB 11 = .ok (.iload_n 1, 1) := by decide +kernel
theorem d12 : decode yB 12 = .ok (.caload, 1) := by decide +kernel
theorem d13 : decode yB 13 = .ok (.istore 6, 2) := by decide +kernel
theorem d15 : decode yB 15 = .ok (.iload 6, 2) := by decide +kernel
theorem d17 : decode yB 17 = .ok (.sipush 255, 3) := by decide +kernel
theorem d20 : decode yB 20 = .ok (.if_icmp (.le) 6, 3) := by decide +kernel
theorem d26 : decode yB 26 = .ok (.aload_n 2, 1) := by decide +kernel
theorem d27 : decode yB 27 = .ok (.iload_n 3, 1) := by decide +kernel
theorem d28 : decode yB 28 = .ok (.iload 6, 2) := by decide +kernel
theorem d30 : decode yB 30 = .ok (.i2b, 1) := by decide +kernel
theorem d31 : decode yB 31 = .ok (.bastore, 1) := by decide +kernel
theorem d32 : decode yB 32 = .ok (.iinc 1 1, 3) := by decide +kernel
theorem d35 : decode yB 35 = .ok (.iinc 3 1, 3) := by decide +kernel
theorem d38 : decode yB 38 = .ok (.iinc 5 1, 3) := by decide +kernel
theorem d41 : decode yB 41 = .ok (.goto (-38), 3) := by decide +kernel
theorem d44 : decode yB 44 = .ok (.iload 4, 2) := by decide +kernel
theorem d46 : decode yB 46 = .ok (.ireturn, 1) := by decide +kernel
def site : List Cond := []
def tab : Cond := tabOf yN yB 7 (some .int) site
def P (b : Addr) (A : Cell) (d : Addr) (B : Cell) (o q len : Nat) (args : Array Value) (s : State) : Prop := args = #[.ref b, .int (Int32.ofNat o), .ref d, .int (Int32.ofNat q), .int (Int32.ofNat len)] ∧ Ch b A s ∧ Arr .byte d B s ∧ b ≠ d ∧ o + len ≤ A.slots.size ∧ q + len ≤ B.slots.size ∧ ∀ i, i < len → ¬ 255 < cv A (o + i)
def E (b : Addr) (A : Cell) (d : Addr) (B : Cell) (o q len : Nat) (r : Option Value) (s u : State) : Prop := r = some (.int (Int32.ofNat len)) ∧ ∃ B', Put d B' s u ∧ Laid B B' q (q + len) (fun j => Value.int (lo8 (cv A (o + (j - q)))))
/-- no char of the range above 255: len; the places written hold each char's low byte -/
theorem law (l : Launch) (b : Addr) (A : Cell) (d : Addr) (B : Cell) (o q len : Nat) : Law l yN 5 5 0 0 yB 7 (some .int) site (P b A d B o q len) (E b A d B o q len) (copyLocs d q len) 0 0 := by
  refine Law.of_walk (plainFor_of_name (by decide +kernel)) (by decide +kernel) (by decide +kernel) (by decide) (fun _ _ h => by rw [h.1]; rfl) (fun _ U U' hal hh h => ⟨h.1, h.2.1.mv hal hh, h.2.2.1.mv hal hh, h.2.2.2⟩) (fun r U U' V V' h1 hal h2 h => ⟨h.1, h.2.elim fun B' q => ⟨B', q.1.mv h1 h2, q.2⟩⟩) ?_
  intro p e s m args below meth c s₁ X0 hexec hbytes hml hret hlk hnm hown hh0 W hP
  obtain ⟨rfl, hA, hB, hne, l1, l2, hp⟩ := hP
  have c1 : Steps p.tables e below (s₁.setTop (entryFrame m #[.ref b, .int (Int32.ofNat o), .ref d, .int (Int32.ofNat q), .int (Int32.ofNat len)] 7)) (s₁.setTop (mkF m 0 #[.val (.ref b), .val (.int (Int32.ofNat o)), .val (.ref d), .val (.int (Int32.ofNat q)), .val (.int (Int32.ofNat len)), .unset, .unset] [])) := entry rfl
  have hA0 := hA.1.mv X0.warmed.alike hh0
  have hB0 := hB.mv X0.warmed.alike hh0
  have a31 := hA.1.2.2.2
  have c2 : Steps p.tables e below (s₁.setTop (entryFrame m #[.ref b, .int (Int32.ofNat o), .ref d, .int (Int32.ofNat q), .int (Int32.ofNat len)] 7)) (s₁.setTop (mkF m 3 #[.val (.ref b), .val (.int (Int32.ofNat o)), .val (.ref d), .val (.int (Int32.ofNat q)), .val (.int (Int32.ofNat len)), .val (.int 0), .unset] [])) := c1.trans (by
    refine iconstV X0.here hexec rfl 0 (hb hbytes d0) (by decide) ?_
    refine XS.istore X0.here hexec rfl (hb hbytes d1) rfl rfl ?_
    exact Steps.refl _)
  have loop : ∀ (r i : Nat), i + r = len → ∀ (z : Slot), (z = .unset ∨ ∃ w, z = .val w ∧ w.category = 1) → ∀ (Tl : State) (Bk : Cell), Stand p l e { frames := 0, locals := 0, cells := 0, slots := 0 } s m #[.ref b, .int (Int32.ofNat o), .ref d, .int (Int32.ofNat q), .int (Int32.ofNat len)] below meth c Tl ([] ++ copyLocs d q i) 0 0 → Put d Bk s₁ Tl → Laid B Bk q (q + i) (fun j => Value.int (lo8 (cv A (o + (j - q))))) →
      Steps p.tables e below (s₁.setTop (entryFrame m #[.ref b, .int (Int32.ofNat o), .ref d, .int (Int32.ofNat q), .int (Int32.ofNat len)] 7)) (Tl.setTop (mkF m 3 #[.val (.ref b), .val (.int (Int32.ofNat (o + i))), .val (.ref d), .val (.int (Int32.ofNat (q + i))), .val (.int (Int32.ofNat len)), .val (.int (Int32.ofNat i)), z] [])) → ∃ (T' : State) (B' : Cell) (z' : Slot), Stand p l e { frames := 0, locals := 0, cells := 0, slots := 0 } s m #[.ref b, .int (Int32.ofNat o), .ref d, .int (Int32.ofNat q), .int (Int32.ofNat len)] below meth c T' ([] ++ copyLocs d q len) 0 0 ∧ Put d B' s₁ T' ∧ Laid B B' q (q + len) (fun j => Value.int (lo8 (cv A (o + (j - q))))) ∧
      Steps p.tables e below (s₁.setTop (entryFrame m #[.ref b, .int (Int32.ofNat o), .ref d, .int (Int32.ofNat q), .int (Int32.ofNat len)] 7)) (T'.setTop (mkF m 3 #[.val (.ref b), .val (.int (Int32.ofNat (o + len))), .val (.ref d), .val (.int (Int32.ofNat (q + len))), .val (.int (Int32.ofNat len)), .val (.int (Int32.ofNat len)), z'] [])) := by
    intro r
    induction r with
    | zero =>
      intro i hi z hz Tl Bk Xl pl fl cl
      have hil : i = len := by omega
      rw [hil] at Xl fl cl
      exact ⟨Tl, Bk, z, Xl, pl, fl, cl⟩
    | succ r ih =>
      intro i hi z hz Tl Bk Xl pl fl cl
      have all := X0.warmed.alike.symm.trans Xl.warmed.alike
      have hAl := hA0.keep all (pl.other hne hA0.1)
      have hBk := hB0.like all pl.1 fl.1 fl.2.1 fl.2.2.1
      have hlt : q + i < Bk.slots.size := by rw [fl.2.2.1]; omega
      have c3 : Steps p.tables e below (s₁.setTop (entryFrame m #[.ref b, .int (Int32.ofNat o), .ref d, .int (Int32.ofNat q), .int (Int32.ofNat len)] 7)) (Tl.setTop (mkF m 12 #[.val (.ref b), .val (.int (Int32.ofNat (o + i))), .val (.ref d), .val (.int (Int32.ofNat (q + i))), .val (.int (Int32.ofNat len)), .val (.int (Int32.ofNat i)), z] [.int (Int32.ofNat (o + i)), .ref b])) := cl.trans (by
        refine XS.iload Xl.here hexec rfl (hb hbytes d3) rfl ?_
        refine XS.iload Xl.here hexec rfl (hb hbytes d5) rfl ?_
        refine XS.icmpNo Xl.here hexec rfl (hb hbytes d7) rfl (ii_ge_f (lt32 (by omega) (by omega))) ?_
        refine XS.aloadN Xl.here hexec rfl (hb hbytes d10) rfl rfl ?_
        refine XS.iloadN Xl.here hexec rfl (hb hbytes d11) rfl ?_
        exact Steps.refl _)
      have c4 : Steps p.tables e below (s₁.setTop (entryFrame m #[.ref b, .int (Int32.ofNat o), .ref d, .int (Int32.ofNat q), .int (Int32.ofNat len)] 7)) (Tl.setTop (mkF m 13 #[.val (.ref b), .val (.int (Int32.ofNat (o + i))), .val (.ref d), .val (.int (Int32.ofNat (q + i))), .val (.int (Int32.ofNat len)), .val (.int (Int32.ofNat i)), z] [.int (cv A (o + i))])) := c3.trans (by
        refine Xl.aget hexec hAl rfl (hA.get (i := o + i) (by omega)) rfl rfl (hb hbytes d12) ?_
        exact Steps.refl _)
      have c5 : Steps p.tables e below (s₁.setTop (entryFrame m #[.ref b, .int (Int32.ofNat o), .ref d, .int (Int32.ofNat q), .int (Int32.ofNat len)] 7)) (Tl.setTop (mkF m 15 #[.val (.ref b), .val (.int (Int32.ofNat (o + i))), .val (.ref d), .val (.int (Int32.ofNat (q + i))), .val (.int (Int32.ofNat len)), .val (.int (Int32.ofNat i)), .val (.int (cv A (o + i)))] [])) := c4.trans (by
        refine XS.istoreS Xl.here hexec rfl (hb hbytes d13) rfl rfl hz ?_
        exact Steps.refl _)
      have c6 : Steps p.tables e below (s₁.setTop (entryFrame m #[.ref b, .int (Int32.ofNat o), .ref d, .int (Int32.ofNat q), .int (Int32.ofNat len)] 7)) (Tl.setTop (mkF m 31 #[.val (.ref b), .val (.int (Int32.ofNat (o + i))), .val (.ref d), .val (.int (Int32.ofNat (q + i))), .val (.int (Int32.ofNat len)), .val (.int (Int32.ofNat i)), .val (.int (cv A (o + i)))] [.int (lo8 (cv A (o + i))), .int (Int32.ofNat (q + i)), .ref d])) := c5.trans (by
        refine XS.iload Xl.here hexec rfl (hb hbytes d15) rfl ?_
        refine sipushV Xl.here hexec rfl 255 (hb hbytes d17) (by decide) ?_
        refine XS.icmpYes Xl.here hexec rfl (pc0 := 20) rfl (hb hbytes d20) rfl (ii_le_t (hp i (by omega))) (by decide) rfl ?_
        refine XS.aloadN Xl.here hexec rfl (hb hbytes d26) rfl rfl ?_
        refine XS.iloadN Xl.here hexec rfl (hb hbytes d27) rfl ?_
        refine XS.iload Xl.here hexec rfl (hb hbytes d28) rfl ?_
        refine i2b Xl.here hexec rfl (hb hbytes d30) rfl ?_
        exact Steps.refl _)
      obtain ⟨T7, X7, p7, st7⟩ := Xl.aput hexec hBk rfl hlt rfl (fits_lo8 (cv A (o + i))) (g := (mkF m 31 #[.val (.ref b), .val (.int (Int32.ofNat (o + i))), .val (.ref d), .val (.int (Int32.ofNat (q + i))), .val (.int (Int32.ofNat len)), .val (.int (Int32.ofNat i)), .val (.int (cv A (o + i)))] [.int (lo8 (cv A (o + i))), .int (Int32.ofNat (q + i)), .ref d])) rfl (rest := []) rfl (hb hbytes d31)
      have c8 : Steps p.tables e below (s₁.setTop (entryFrame m #[.ref b, .int (Int32.ofNat o), .ref d, .int (Int32.ofNat q), .int (Int32.ofNat len)] 7)) (T7.setTop (mkF m 32 #[.val (.ref b), .val (.int (Int32.ofNat (o + i))), .val (.ref d), .val (.int (Int32.ofNat (q + i))), .val (.int (Int32.ofNat len)), .val (.int (Int32.ofNat i)), .val (.int (cv A (o + i)))] [])) := c6.trans (st7 _ (Steps.refl _))
      have c9 : Steps p.tables e below (s₁.setTop (entryFrame m #[.ref b, .int (Int32.ofNat o), .ref d, .int (Int32.ofNat q), .int (Int32.ofNat len)] 7)) (T7.setTop (mkF m 3 #[.val (.ref b), .val (.int (Int32.ofNat (o + i) + 1)), .val (.ref d), .val (.int (Int32.ofNat (q + i) + 1)), .val (.int (Int32.ofNat len)), .val (.int (Int32.ofNat i + 1)), .val (.int (cv A (o + i)))] [])) := c8.trans (by
        refine iincV X7.here hexec rfl 1 (hb hbytes d32) (by decide) rfl rfl ?_
        refine iincV X7.here hexec rfl 1 (hb hbytes d35) (by decide) rfl rfl ?_
        refine iincV X7.here hexec rfl 1 (hb hbytes d38) (by decide) rfl rfl ?_
        refine XS.goto X7.here hexec rfl (pc0 := 41) rfl (hb hbytes d41) (by decide) rfl ?_
        exact Steps.refl _)
      have c10 : Steps p.tables e below (s₁.setTop (entryFrame m #[.ref b, .int (Int32.ofNat o), .ref d, .int (Int32.ofNat q), .int (Int32.ofNat len)] 7)) (T7.setTop (mkF m 3 #[.val (.ref b), .val (.int (Int32.ofNat (o + (i + 1)))), .val (.ref d), .val (.int (Int32.ofNat (q + (i + 1)))), .val (.int (Int32.ofNat len)), .val (.int (Int32.ofNat (i + 1))), .val (.int (cv A (o + i)))] [])) := by
        have := c9
        rw [succ32, succ32, succ32] at this
        exact this
      exact ih (i + 1) (by omega) _ (Or.inr ⟨_, rfl, rfl⟩) T7 _ (by rw [copyLocs_step, ← List.append_assoc]; exact X7) (pl.trans p7) (fl.step (by omega) hlt (by simp)) c10
  obtain ⟨T9, B9, z9, X9, p9, f9, g9⟩ := loop len 0 (by omega) .unset (Or.inl rfl) s₁ B (by simpa [copyLocs] using X0) ⟨hB0.1, fun _ _ => rfl, rfl⟩ (Laid.zero _ _ _) c2
  have c11 : Steps p.tables e below (s₁.setTop (entryFrame m #[.ref b, .int (Int32.ofNat o), .ref d, .int (Int32.ofNat q), .int (Int32.ofNat len)] 7)) (T9.setTop (mkF m 46 #[.val (.ref b), .val (.int (Int32.ofNat (o + len))), .val (.ref d), .val (.int (Int32.ofNat (q + len))), .val (.int (Int32.ofNat len)), .val (.int (Int32.ofNat len)), z9] [.int (Int32.ofNat len)])) := g9.trans (by
    refine XS.iload X9.here hexec rfl (hb hbytes d3) rfl ?_
    refine XS.iload X9.here hexec rfl (hb hbytes d5) rfl ?_
    refine XS.icmpYes X9.here hexec rfl (pc0 := 7) rfl (hb hbytes d7) rfl (ii_ge_t (nlt32 (by omega) (Nat.le_refl _))) (by decide) rfl ?_
    refine XS.iload X9.here hexec rfl (hb hbytes d44) rfl ?_
    exact Steps.refl _)
  exact ⟨T9, some (.int (Int32.ofNat len)), _, _, _, X9, by simp, rfl, rfl, (fun h => by cases h), ⟨rfl, B9, p9.from hh0, f9⟩, fun fs hl => c11.trans (X9.ireturnOut hexec hret rfl (Or.inl rfl) (hb hbytes d46) hl)⟩
end Cmp5
namespace Cmp3
def yN : MethodName := ⟨"java/lang/StringUTF16", "compress", "([CII)[B"⟩
abbrev yB : ByteArray := jdk_52_method_16_code
theorem d0 : decode yB 0 = .ok (.iload_n 2, 1) := by decide +kernel
theorem d1 : decode yB 1 = .ok (.newarray .byte, 2) := by decide +kernel
theorem d3 : decode yB 3 = .ok (.astore_n 3, 1) := by decide +kernel
theorem d4 : decode yB 4 = .ok (.aload_n 0, 1) := by decide +kernel
theorem d5 : decode yB 5 = .ok (.iload_n 1, 1) := by decide +kernel
theorem d6 : decode yB 6 = .ok (.aload_n 3, 1) := by decide +kernel
theorem d7 : decode yB 7 = .ok (.iconst 0, 1) := by decide +kernel
theorem d8 : decode yB 8 = .ok (.iload_n 2, 1) := by decide +kernel
theorem d9 : decode yB 9 = .ok (.invokestatic 115, 3) := by decide +kernel
theorem d12 : decode yB 12 = .ok (.istore 4, 2) := by decide +kernel
theorem d14 : decode yB 14 = .ok (.iload 4, 2) := by decide +kernel
theorem d16 : decode yB 16 = .ok (.iload_n 2, 1) := by decide +kernel
theorem d17 : decode yB 17 = .ok (.if_icmp (.eq) 40, 3) := by decide +kernel
theorem d57 : decode yB 57 = .ok (.aload_n 3, 1) := by decide +kernel
theorem d58 : decode yB 58 = .ok (.areturn, 1) := by decide +kernel
def site : List Cond := [.arrayClass .byte, Cmp5.tab] ++ staticW U16 115 Cmp5.yN
def tab : Cond := tabOf yN yB 6 (some (.array .byte)) site
def P (b : Addr) (A : Cell) (o len : Nat) (args : Array Value) (s : State) : Prop := args = #[.ref b, .int (Int32.ofNat o), .int (Int32.ofNat len)] ∧ Ch b A s ∧ o + len ≤ A.slots.size ∧ len ≤ 536870912 ∧ ∀ i, i < len → ¬ 255 < cv A (o + i)
def E (b : Addr) (A : Cell) (o len : Nat) (r : Option Value) (s u : State) : Prop := NewArr .byte "[B" len (fun j => .int (lo8 (cv A (o + j)))) r s u ∧ u.heap.size = s.heap.size + 1
/-- no char of the range above 255: a new byte[] of their low bytes -/
theorem law (l : Launch) (b : Addr) (A : Cell) (o len : Nat) : Law l yN 3 3 1 18 yB 6 (some (.array .byte)) site (P b A o len) (E b A o len) [] 1 len := by
  refine Law.of_walk (plainFor_of_name (by decide +kernel)) (by decide +kernel) (by decide +kernel) (by decide) (fun _ _ h => by rw [h.1]; rfl) (fun _ U U' hal hh h => ⟨h.1, h.2.1.mv hal hh, h.2.2⟩) (fun r U U' V V' h1 hal h2 h => ⟨NewArr.mv r U U' V V' h1 hal h2 h.1, by rw [h1, h2]; exact h.2⟩) ?_
  intro p e s m args below meth c s₁ X0 hexec hbytes hml hret hlk hnm hown hh0 W hP
  obtain ⟨rfl, hA, l1, l2, hp⟩ := hP
  have a31 := hA.1.2.2.2
  have c1 : Steps p.tables e below (s₁.setTop (entryFrame m #[.ref b, .int (Int32.ofNat o), .int (Int32.ofNat len)] 6)) (s₁.setTop (mkF m 0 #[.val (.ref b), .val (.int (Int32.ofNat o)), .val (.int (Int32.ofNat len)), .unset, .unset, .unset] [])) := entry rfl
  have c2 : Steps p.tables e below (s₁.setTop (entryFrame m #[.ref b, .int (Int32.ofNat o), .int (Int32.ofNat len)] 6)) (s₁.setTop (mkF m 1 #[.val (.ref b), .val (.int (Int32.ofNat o)), .val (.int (Int32.ofNat len)), .unset, .unset, .unset] [.int (Int32.ofNat len)])) := c1.trans (by
    refine XS.iloadN X0.here hexec rfl (hb hbytes d0) rfl ?_
    exact Steps.refl _)
  obtain ⟨T3, B3, X3, ba3, bs3, bv3, bh3, bf3, st3⟩ := X0.anew hexec (atype := .byte) (wk W (.arrayClass .byte)) rfl (by show len * 1 ≤ _; omega) (by omega) (g := (mkF m 1 #[.val (.ref b), .val (.int (Int32.ofNat o)), .val (.int (Int32.ofNat len)), .unset, .unset, .unset] [.int (Int32.ofNat len)])) rfl (hb hbytes d1) (rest := []) rfl (Nat.le_refl _) (by show 0 + len ≤ len; omega)
  rw [hh0] at ba3 st3
  have kp3 : XT.Kept s T3 := (XT.Kept.of_eq hh0).push bh3
  have hA3 := hA.keep X3.warmed.alike (kp3 _ _ hA.1.1)
  have hne : b ≠ s.heap.size := hA.1.ne
  have c4 : Steps p.tables e below (s₁.setTop (entryFrame m #[.ref b, .int (Int32.ofNat o), .int (Int32.ofNat len)] 6)) (T3.setTop (mkF m 3 #[.val (.ref b), .val (.int (Int32.ofNat o)), .val (.int (Int32.ofNat len)), .unset, .unset, .unset] [.ref s.heap.size])) := c2.trans (st3 _ (Steps.refl _))
  have c5 : Steps p.tables e below (s₁.setTop (entryFrame m #[.ref b, .int (Int32.ofNat o), .int (Int32.ofNat len)] 6)) (T3.setTop (mkF m 9 #[.val (.ref b), .val (.int (Int32.ofNat o)), .val (.int (Int32.ofNat len)), .val (.ref s.heap.size), .unset, .unset] [.int (Int32.ofNat len), .int 0, .ref s.heap.size, .int (Int32.ofNat o), .ref b])) := c4.trans (by
    refine XS.astoreN X3.here hexec rfl (hb hbytes d3) rfl rfl rfl ?_
    refine XS.aloadN X3.here hexec rfl (hb hbytes d4) rfl rfl ?_
    refine XS.iloadN X3.here hexec rfl (hb hbytes d5) rfl ?_
    refine XS.aloadN X3.here hexec rfl (hb hbytes d6) rfl rfl ?_
    refine iconstV X3.here hexec rfl 0 (hb hbytes d7) (by decide) ?_
    refine XS.iloadN X3.here hexec rfl (hb hbytes d8) rfl ?_
    exact Steps.refl _)
  obtain ⟨v6, T6, X6, E6, g6⟩ := X3.callS hexec (Cmp5.law l b A s.heap.size B3 o 0 len) hown (wks W (staticW U16 115 Cmp5.yN)) (wk W Cmp5.tab) (W := 0) (Nat.le_of_ble_eq_true rfl) (Nat.le_of_ble_eq_true rfl) (Nat.le_refl _) (by show 0 + len + 0 ≤ len; omega) (g := (mkF m 9 #[.val (.ref b), .val (.int (Int32.ofNat o)), .val (.int (Int32.ofNat len)), .val (.ref s.heap.size), .unset, .unset] [.int (Int32.ofNat len), .int (Int32.ofNat 0), .ref s.heap.size, .int (Int32.ofNat o), .ref b])) rfl (by rw [hml]; rfl) c5 (argsL := [.ref b, .int (Int32.ofNat o), .ref s.heap.size, .int (Int32.ofNat 0), .int (Int32.ofNat len)]) (rest := []) rfl rfl (by show 2 * 0 + 0 ≤ _; decide) (hb hbytes d9) (⟨rfl, hA3, ba3, hne, l1, by rw [bs3]; simp, hp⟩)
  obtain ⟨rfl, B6, p6, f6⟩ := E6
  have c7 : Steps p.tables e below (s₁.setTop (entryFrame m #[.ref b, .int (Int32.ofNat o), .int (Int32.ofNat len)] 6)) (T6.setTop (mkF m 12 #[.val (.ref b), .val (.int (Int32.ofNat o)), .val (.int (Int32.ofNat len)), .val (.ref s.heap.size), .unset, .unset] [.int (Int32.ofNat len)])) := g6
  have c8 : Steps p.tables e below (s₁.setTop (entryFrame m #[.ref b, .int (Int32.ofNat o), .int (Int32.ofNat len)] 6)) (T6.setTop (mkF m 58 #[.val (.ref b), .val (.int (Int32.ofNat o)), .val (.int (Int32.ofNat len)), .val (.ref s.heap.size), .val (.int (Int32.ofNat len)), .unset] [.ref s.heap.size])) := c7.trans (by
    refine XS.istore X6.here hexec rfl (hb hbytes d12) rfl rfl ?_
    refine XS.iload X6.here hexec rfl (hb hbytes d14) rfl ?_
    refine XS.iloadN X6.here hexec rfl (hb hbytes d16) rfl ?_
    refine XS.icmpYes X6.here hexec rfl (pc0 := 17) rfl (hb hbytes d17) rfl (ii_eq_t rfl) (by decide) rfl ?_
    refine XS.aloadN X6.here hexec rfl (hb hbytes d57) rfl rfl ?_
    exact Steps.refl _)
  have X8 := X6.wide (L' := []) (cells' := 1) (slots' := len) (fun x hx hlt => by
    simp only [List.nil_append, copyLocs, List.mem_map, List.mem_range] at hx
    obtain ⟨i, -, rfl⟩ := hx
    exact absurd hlt (Nat.lt_irrefl _)) (Nat.le_refl _) (by omega)
  exact ⟨T6, some (.ref s.heap.size), _, _, _, X8, rfl, rfl, rfl, (fun h => by cases h), ⟨⟨rfl, B6, ba3.like (X3.warmed.alike.symm.trans X6.warmed.alike) p6.1 f6.1 f6.2.1 f6.2.2.1, f6.2.1.trans bv3, by rw [X6.warmed.alike.findClass, f6.1]; exact bf3, by rw [f6.2.2.1, bs3]; simp, fun j hj => by rw [f6.2.2.2 j, if_pos (by omega)]; rfl, kp3.put p6 (Nat.le_refl _)⟩, by rw [p6.2.2, bh3, hh0]; simp⟩, fun fs hl => c8.trans (X8.areturnOut hexec rfl hret rfl (hb hbytes d58) hl)⟩
end Cmp3
namespace CodL
def yN : MethodName := ⟨"java/lang/StringUTF16", "coderFromArrayLen", "([BI)B"⟩
abbrev yB : ByteArray := jdk_52_method_15_code
theorem d0 : decode yB 0 = .ok (.iload_n 1, 1) := by decide +kernel
theorem d1 : decode yB 1 = .ok (.aload_n 0, 1) := by decide +kernel
theorem d2 : decode yB 2 = .ok (.arraylength, 1) := by decide +kernel
theorem d3 : decode yB 3 = .ok (.isub, 1) := by decide +kernel
theorem d4 : decode yB 4 = .ok (.bipush 31, 2) := by decide +kernel
theorem d6 : decode yB 6 = .ok (.iushr, 1) := by decide +kernel
theorem d7 : decode yB 7 = .ok (.i2b, 1) := by decide +kernel
theorem d8 : decode yB 8 = .ok (.ireturn, 1) := by decide +kernel
def site : List Cond := []
def tab : Cond := tabOf yN yB 2 (some .byte) site
def P (d : Addr) (B : Cell) (args : Array Value) (s : State) : Prop := args = #[.ref d, .int (Int32.ofNat B.slots.size)] ∧ Arr .byte d B s
def E (r : Option Value) (s u : State) : Prop := XT.PureE (some (.int 0)) r s u
/-- an array as long as the number of chars: LATIN1 -/
theorem law (l : Launch) (d : Addr) (B : Cell) : Law l yN 2 2 0 0 yB 2 (some .byte) site (P d B) E [] 0 0 := by
  refine Law.of_walk (plainFor_of_name (by decide +kernel)) (by decide +kernel) (by decide +kernel) (by decide) (fun _ _ h => by rw [h.1]; rfl) (fun _ U U' hal hh h => ⟨h.1, h.2.mv hal hh⟩) (fun r U U' V V' h1 hal h2 h => XT.PureE.mv r U U' V V' h1 hal h2 h) ?_
  intro p e s m args below meth c s₁ X0 hexec hbytes hml hret hlk hnm hown hh0 W hP
  obtain ⟨rfl, hB⟩ := hP
  have hB0 := hB.mv X0.warmed.alike hh0
  have c1 : Steps p.tables e below (s₁.setTop (entryFrame m #[.ref d, .int (Int32.ofNat B.slots.size)] 2)) (s₁.setTop (mkF m 0 #[.val (.ref d), .val (.int (Int32.ofNat B.slots.size))] [])) := entry rfl
  have c2 : Steps p.tables e below (s₁.setTop (entryFrame m #[.ref d, .int (Int32.ofNat B.slots.size)] 2)) (s₁.setTop (mkF m 2 #[.val (.ref d), .val (.int (Int32.ofNat B.slots.size))] [.ref d, .int (Int32.ofNat B.slots.size)])) := c1.trans (by
    refine XS.iloadN X0.here hexec rfl (hb hbytes d0) rfl ?_
    refine XS.aloadN X0.here hexec rfl (hb hbytes d1) rfl rfl ?_
    exact Steps.refl _)
  have c3 : Steps p.tables e below (s₁.setTop (entryFrame m #[.ref d, .int (Int32.ofNat B.slots.size)] 2)) (s₁.setTop (mkF m 8 #[.val (.ref d), .val (.int (Int32.ofNat B.slots.size))] [.int (lo8 (ushr (Int32.ofNat B.slots.size - Int32.ofNat B.slots.size) 31))])) := c2.trans (by
    refine X0.alen hexec hB0 rfl rfl (hb hbytes d2) ?_
    refine XS.isub X0.here hexec rfl (hb hbytes d3) rfl ?_
    refine bipushV X0.here hexec rfl 31 (hb hbytes d4) (by decide) ?_
    refine iushr X0.here hexec rfl (hb hbytes d6) rfl ?_
    refine i2b X0.here hexec rfl (hb hbytes d7) rfl ?_
    exact Steps.refl _)
  have e0 : lo8 (ushr (Int32.ofNat B.slots.size - Int32.ofNat B.slots.size) 31) = 0 := by rw [Int32.sub_self]; decide
  rw [e0] at c3
  exact ⟨s₁, some (.int 0), _, _, _, X0, rfl, rfl, rfl, (fun h => by cases h), ⟨rfl, hh0⟩, fun fs hl => c3.trans (X0.ireturnOut hexec hret rfl (Or.inr (Or.inr (Or.inl rfl))) (hb hbytes d8) hl)⟩
end CodL
/-- the String at a is Latin-1 over a new byte[] (the heap's one new cell): the low bytes of the len chars of A from o on; every cell but a is kept -/
def Got (a : Addr) (D : Cell) (fV fC : Field) (A : Cell) (o len : Nat) (r : Option Value) (s u : State) : Prop := r = none ∧ ∃ D' V : Cell, Blank "java/lang/String" a D' u ∧ Same D D' [fV.slot, fC.slot] ∧ D'.slots[fV.slot]? = some (.ref s.heap.size) ∧ D'.slots[fC.slot]? = some (.int 0) ∧ Arr .byte s.heap.size V u ∧ V.vm = .none ∧ u.vm.findClass "[B" = some V.cls ∧ V.slots.size = len ∧ (∀ j, j < len → V.slots[j]? = some (.int (lo8 (cv A (o + j))))) ∧ (∀ (y : Addr) (c : Cell), y ≠ a → s.heap[y]? = some c → u.heap[y]? = some c) ∧ u.heap.size = s.heap.size + 1
theorem Got.mv {a : Addr} {D A : Cell} {fV fC : Field} {o len : Nat} : ∀ r (U U' V V' : State), U'.heap = U.heap → V.vm.Alike V'.vm → V'.heap = V.heap → Got a D fV fC A o len r U V → Got a D fV fC A o len r U' V' :=
  fun r U U' V V' h1 hal h2 ⟨e0, D', X, a1, a2, a3, a4, a5, a6, a7, a8, a9, a10, a11⟩ => ⟨e0, D', X, a1.mv hal h2, a2, by rw [h1]; exact a3, a4, by rw [h1]; exact a5.mv hal h2, a6, by rw [hal.findClass]; exact a7, a8, a9, by rw [h1, h2]; exact a10, by rw [h1, h2]; exact a11⟩
namespace New4
def yN : MethodName := ⟨"java/lang/String", "<init>", "([CIILjava/lang/Void;)V"⟩
abbrev yB : ByteArray := jdk_42_method_149_code
theorem d0 : decode yB 0 = .ok (.aload_n 0, 1) := by decide +kernel
theorem d1 : decode yB 1 = .ok (.invokespecial 1, 3) := by decide +kernel
theorem d4 : decode yB 4 = .ok (.iload_n 3, 1) := by decide +kernel
theorem d5 : decode yB 5 = .ok (.ifCond (.ne) 22, 3) := by decide +kernel
theorem d27 : decode yB 27 = .ok (.getstatic 38, 3) := by decide +kernel
theorem d30 : decode yB 30 = .ok (.ifCond (.eq) 28, 3) := by decide +kernel
theorem d33 : decode yB 33 = .ok (.aload_n 1, 1) := by decide +kernel
theorem d34 : decode yB 34 = .ok (.iload_n 2, 1) := by decide +kernel
theorem d35 : decode yB 35 = .ok (.iload_n 3, 1) := by decide +kernel
theorem d36 : decode yB 36 = .ok (.invokestatic 177, 3) := by decide +kernel
theorem d39 : decode yB 39 = .ok (.astore 5, 2) := by decide +kernel
theorem d41 : decode yB 41 = .ok (.aload_n 0, 1) := by decide +kernel
theorem d42 : decode yB 42 = .ok (.aload 5, 2) := by decide +kernel
theorem d44 : decode yB 44 = .ok (.iload_n 3, 1) := by decide +kernel
theorem d45 : decode yB 45 = .ok (.invokestatic 47, 3) := by decide +kernel
theorem d48 : decode yB 48 = .ok (.putfield 15, 3) := by decide +kernel
theorem d51 : decode yB 51 = .ok (.aload_n 0, 1) := by decide +kernel
theorem d52 : decode yB 52 = .ok (.aload 5, 2) := by decide +kernel
theorem d54 : decode yB 54 = .ok (.putfield 9, 3) := by decide +kernel
theorem d57 : decode yB 57 = .ok (.return_, 1) := by decide +kernel
def site : List Cond := [.fieldLink "java/lang/String" 38 "java/lang/String" "COMPACT_STRINGS" "Z", Cmp3.tab, CodL.tab, .laysFinal "java/lang/String" "java/lang/String" "value" "[B", .fieldLink "java/lang/String" 9 "java/lang/String" "value" "[B", .laysFinal "java/lang/String" "java/lang/String" "coder" "B", .fieldLink "java/lang/String" 15 "java/lang/String" "coder" "B"] ++ objW "java/lang/String" 1 ++ staticW "java/lang/String" 177 Cmp3.yN ++ staticW "java/lang/String" 47 CodL.yN
def tab : Cond := tabOf yN yB 6 none site
def P (a : Addr) (D : Cell) (fV fC : Field) (b : Addr) (A : Cell) (z : Int32) (o len : Nat) (args : Array Value) (s : State) : Prop := args = #[.ref a, .ref b, .int (Int32.ofNat o), .int (Int32.ofNat len), .null] ∧ Blank "java/lang/String" a D s ∧ Found "java/lang/String" "value" "[B" fV s ∧ Found "java/lang/String" "coder" "B" fC s ∧ Ch b A s ∧ StaticIs s "java/lang/String" "COMPACT_STRINGS" "Z" (.int z) ∧ ¬ z = 0 ∧ 0 < len ∧ o + len ≤ A.slots.size ∧ len ≤ 536870912 ∧ ∀ i, i < len → ¬ 255 < cv A (o + i)
def E (a : Addr) (D : Cell) (fV fC : Field) (A : Cell) (o len : Nat) (r : Option Value) (s u : State) : Prop := Got a D fV fC A o len r s u
/-- len > 0, no char of the range above 255: a Latin-1 String of their low bytes -/
theorem law (l : Launch) (a : Addr) (D : Cell) (fV fC : Field) (b : Addr) (A : Cell) (z : Int32) (o len : Nat) : Law l yN 5 4 2 35 yB 6 none site (P a D fV fC b A z o len) (E a D fV fC A o len) [⟨a, fC.slot⟩, ⟨a, fV.slot⟩] 1 len := by
  refine Law.of_walk (plainFor_of_name (by decide +kernel)) (by decide +kernel) (by decide +kernel) (by decide) (fun _ _ h => by rw [h.1]; rfl) (fun _ U U' hal hh h => ⟨h.1, h.2.1.mv hal hh, h.2.2.1.al hal, h.2.2.2.1.al hal, h.2.2.2.2.1.mv hal hh, h.2.2.2.2.2.1.there hal hh, h.2.2.2.2.2.2⟩) (fun r U U' V V' h1 hal h2 h => Got.mv r U U' V V' h1 hal h2 h) ?_
  intro p e s m args below meth c s₁ X0 hexec hbytes hml hret hlk hnm hown hh0 W hP
  obtain ⟨rfl, hB, f1, f2, hA, s1, hz, l0, l1, l2, hp⟩ := hP
  have a31 := hA.1.2.2.2
  have c1 : Steps p.tables e below (s₁.setTop (entryFrame m #[.ref a, .ref b, .int (Int32.ofNat o), .int (Int32.ofNat len), .null] 6)) (s₁.setTop (mkF m 0 #[.val (.ref a), .val (.ref b), .val (.int (Int32.ofNat o)), .val (.int (Int32.ofNat len)), .val .null, .unset] [])) := entry rfl
  have c2 : Steps p.tables e below (s₁.setTop (entryFrame m #[.ref a, .ref b, .int (Int32.ofNat o), .int (Int32.ofNat len), .null] 6)) (s₁.setTop (mkF m 1 #[.val (.ref a), .val (.ref b), .val (.int (Int32.ofNat o)), .val (.int (Int32.ofNat len)), .val .null, .unset] [.ref a])) := c1.trans (by
    refine XS.aloadN X0.here hexec rfl (hb hbytes d0) rfl rfl ?_
    exact Steps.refl _)
  obtain ⟨T3, X3, q3, st3⟩ := X0.oinit hexec hown (wks W (objW "java/lang/String" 1)) (g := (mkF m 1 #[.val (.ref a), .val (.ref b), .val (.int (Int32.ofNat o)), .val (.int (Int32.ofNat len)), .val .null, .unset] [.ref a])) rfl (by rw [hml]; rfl) (rest := []) rfl (hb hbytes d1) (W := 0) (by show 2 * 0 + 0 ≤ _; decide) (Nat.le_of_ble_eq_true rfl) (Nat.le_of_ble_eq_true rfl)
  have hh3 := q3.trans hh0
  have c4 : Steps p.tables e below (s₁.setTop (entryFrame m #[.ref a, .ref b, .int (Int32.ofNat o), .int (Int32.ofNat len), .null] 6)) (T3.setTop (mkF m 27 #[.val (.ref a), .val (.ref b), .val (.int (Int32.ofNat o)), .val (.int (Int32.ofNat len)), .val .null, .unset] [])) := (c2.trans (st3 _ (Steps.refl _))).trans (by
    refine XS.iloadN X3.here hexec rfl (hb hbytes d4) rfl ?_
    refine XS.ifYes X3.here hexec rfl (pc0 := 5) rfl (hb hbytes d5) rfl (i0_ne_t (nz32 (by omega) l0)) (by decide) rfl ?_
    exact Steps.refl _)
  obtain ⟨T5, X5, q5, st5⟩ := X3.sget hexec hown (wk W (.fieldLink "java/lang/String" 38 "java/lang/String" "COMPACT_STRINGS" "Z")) s1 (fun _ _ h => by rw [hh3]; exact h) (g := (mkF m 27 #[.val (.ref a), .val (.ref b), .val (.int (Int32.ofNat o)), .val (.int (Int32.ofNat len)), .val .null, .unset] [])) rfl (hb hbytes d27)
  have hh5 := q5.trans hh3
  have c6 : Steps p.tables e below (s₁.setTop (entryFrame m #[.ref a, .ref b, .int (Int32.ofNat o), .int (Int32.ofNat len), .null] 6)) (T5.setTop (mkF m 30 #[.val (.ref a), .val (.ref b), .val (.int (Int32.ofNat o)), .val (.int (Int32.ofNat len)), .val .null, .unset] [.int z])) := c4.trans (st5 _ (Steps.refl _))
  have c7 : Steps p.tables e below (s₁.setTop (entryFrame m #[.ref a, .ref b, .int (Int32.ofNat o), .int (Int32.ofNat len), .null] 6)) (T5.setTop (mkF m 36 #[.val (.ref a), .val (.ref b), .val (.int (Int32.ofNat o)), .val (.int (Int32.ofNat len)), .val .null, .unset] [.int (Int32.ofNat len), .int (Int32.ofNat o), .ref b])) := c6.trans (by
    refine XS.ifNo X5.here hexec rfl (hb hbytes d30) rfl (i0_eq_f hz) ?_
    refine XS.aloadN X5.here hexec rfl (hb hbytes d33) rfl rfl ?_
    refine XS.iloadN X5.here hexec rfl (hb hbytes d34) rfl ?_
    refine XS.iloadN X5.here hexec rfl (hb hbytes d35) rfl ?_
    exact Steps.refl _)
  obtain ⟨v8, T8, X8, E8, g8⟩ := X5.callS hexec (Cmp3.law l b A o len) hown (wks W (staticW "java/lang/String" 177 Cmp3.yN)) (wk W Cmp3.tab) (W := 0) (Nat.le_of_ble_eq_true rfl) (Nat.le_of_ble_eq_true rfl) (Nat.le_refl _) (by show 0 + len ≤ len; omega) (g := (mkF m 36 #[.val (.ref a), .val (.ref b), .val (.int (Int32.ofNat o)), .val (.int (Int32.ofNat len)), .val .null, .unset] [.int (Int32.ofNat len), .int (Int32.ofNat o), .ref b])) rfl (by rw [hml]; rfl) c7 (argsL := [.ref b, .int (Int32.ofNat o), .int (Int32.ofNat len)]) (rest := []) rfl rfl (by show 2 * 0 + 0 ≤ _; decide) (hb hbytes d36) (⟨rfl, hA.mv X5.warmed.alike hh5, l1, l2, hp⟩)
  obtain ⟨e8, z8⟩ := E8
  obtain ⟨rfl, N, n1, n2, n3, n4, n5, n6⟩ := NewArr.mv _ T5 s _ _ hh5.symm (Vm.Alike.refl _) rfl e8
  rw [hh5] at z8
  have hB1 := hB.keep X8.warmed.alike (n6 _ _ hB.1)
  have hne : s.heap.size ≠ a := (Nat.ne_of_lt (Array.getElem?_eq_some_iff.mp hB.1).1).symm
  have c9 : Steps p.tables e below (s₁.setTop (entryFrame m #[.ref a, .ref b, .int (Int32.ofNat o), .int (Int32.ofNat len), .null] 6)) (T8.setTop (mkF m 39 #[.val (.ref a), .val (.ref b), .val (.int (Int32.ofNat o)), .val (.int (Int32.ofNat len)), .val .null, .unset] [.ref s.heap.size])) := g8
  have c10 : Steps p.tables e below (s₁.setTop (entryFrame m #[.ref a, .ref b, .int (Int32.ofNat o), .int (Int32.ofNat len), .null] 6)) (T8.setTop (mkF m 45 #[.val (.ref a), .val (.ref b), .val (.int (Int32.ofNat o)), .val (.int (Int32.ofNat len)), .val .null, .val (.ref s.heap.size)] [.int (Int32.ofNat N.slots.size), .ref s.heap.size, .ref a])) := by
    have hc : Steps p.tables e below (s₁.setTop (entryFrame m #[.ref a, .ref b, .int (Int32.ofNat o), .int (Int32.ofNat len), .null] 6)) (T8.setTop (mkF m 45 #[.val (.ref a), .val (.ref b), .val (.int (Int32.ofNat o)), .val (.int (Int32.ofNat len)), .val .null, .val (.ref s.heap.size)] [.int (Int32.ofNat len), .ref s.heap.size, .ref a])) := c9.trans (by
      refine XS.astore X8.here hexec rfl (hb hbytes d39) rfl rfl rfl ?_
      refine XS.aloadN X8.here hexec rfl (hb hbytes d41) rfl rfl ?_
      refine XS.aload X8.here hexec rfl (hb hbytes d42) rfl rfl ?_
      refine XS.iloadN X8.here hexec rfl (hb hbytes d44) rfl ?_
      exact Steps.refl _)
    rw [n4]; exact hc
  obtain ⟨v11, T11, X11, E11, g11⟩ := X8.callS hexec (CodL.law l s.heap.size N) hown (wks W (staticW "java/lang/String" 47 CodL.yN)) (wk W CodL.tab) (W := 1) (Nat.le_of_ble_eq_true rfl) (Nat.le_of_ble_eq_true rfl) (Nat.le_refl _) (by show 0 + len + 0 ≤ len; omega) (g := (mkF m 45 #[.val (.ref a), .val (.ref b), .val (.int (Int32.ofNat o)), .val (.int (Int32.ofNat len)), .val .null, .val (.ref s.heap.size)] [.int (Int32.ofNat N.slots.size), .ref s.heap.size, .ref a])) rfl (by rw [hml]; rfl) c10 (argsL := [.ref s.heap.size, .int (Int32.ofNat N.slots.size)]) (rest := [.ref a]) rfl rfl (by show 2 * 0 + (1 + 0) ≤ _; decide) (hb hbytes d45) (⟨rfl, n1⟩)
  obtain ⟨rfl, q11⟩ := E11
  have hB11 := hB1.mv (X8.warmed.alike.symm.trans X11.warmed.alike) q11
  have c12 : Steps p.tables e below (s₁.setTop (entryFrame m #[.ref a, .ref b, .int (Int32.ofNat o), .int (Int32.ofNat len), .null] 6)) (T11.setTop (mkF m 48 #[.val (.ref a), .val (.ref b), .val (.int (Int32.ofNat o)), .val (.int (Int32.ofNat len)), .val .null, .val (.ref s.heap.size)] [.int 0, .ref a])) := g11
  obtain ⟨T13, X13, p13, bl13, sl13, st13⟩ := X11.finit hexec hown (wk W (.fieldLink "java/lang/String" 15 "java/lang/String" "coder" "B")) (Or.inr ⟨_, (wk W (.laysFinal "java/lang/String" "java/lang/String" "coder" "B"))⟩) (Or.inl ⟨rfl, hnm⟩) f2 (Or.inl rfl) hB11 (t := .byte) (by decide +kernel) rfl (g := (mkF m 48 #[.val (.ref a), .val (.ref b), .val (.int (Int32.ofNat o)), .val (.int (Int32.ofNat len)), .val .null, .val (.ref s.heap.size)] [.int 0, .ref a])) rfl (rest := []) rfl (hb hbytes d48)
  have c14 : Steps p.tables e below (s₁.setTop (entryFrame m #[.ref a, .ref b, .int (Int32.ofNat o), .int (Int32.ofNat len), .null] 6)) (T13.setTop (mkF m 54 #[.val (.ref a), .val (.ref b), .val (.int (Int32.ofNat o)), .val (.int (Int32.ofNat len)), .val .null, .val (.ref s.heap.size)] [.ref s.heap.size, .ref a])) := (c12.trans (st13 _ (Steps.refl _))).trans (by
    refine XS.aloadN X13.here hexec rfl (hb hbytes d51) rfl rfl ?_
    refine XS.aload X13.here hexec rfl (hb hbytes d52) rfl rfl ?_
    exact Steps.refl _)
  obtain ⟨T15, X15, p15, bl15, sl15, st15⟩ := X13.finit hexec hown (wk W (.fieldLink "java/lang/String" 9 "java/lang/String" "value" "[B")) (Or.inr ⟨_, (wk W (.laysFinal "java/lang/String" "java/lang/String" "value" "[B"))⟩) (Or.inl ⟨rfl, hnm⟩) f1 (Or.inl rfl) bl13 (t := (.array .byte)) (by decide +kernel) rfl (g := (mkF m 54 #[.val (.ref a), .val (.ref b), .val (.int (Int32.ofNat o)), .val (.int (Int32.ofNat len)), .val .null, .val (.ref s.heap.size)] [.ref s.heap.size, .ref a])) rfl (rest := []) rfl (hb hbytes d54)
  have c16 : Steps p.tables e below (s₁.setTop (entryFrame m #[.ref a, .ref b, .int (Int32.ofNat o), .int (Int32.ofNat len), .null] 6)) (T15.setTop (mkF m 57 #[.val (.ref a), .val (.ref b), .val (.int (Int32.ofNat o)), .val (.int (Int32.ofNat len)), .val .null, .val (.ref s.heap.size)] [])) := c14.trans (st15 _ (Steps.refl _))
  have ap := apart (Or.inr ⟨_, (wk W (.laysFinal "java/lang/String" "java/lang/String" "value" "[B"))⟩) (Or.inr ⟨_, (wk W (.laysFinal "java/lang/String" "java/lang/String" "coder" "B"))⟩) f1 f2 (t₁ := .array .byte) (t₂ := .byte) (by decide +kernel) (by decide +kernel) (by decide)
  have al := X8.warmed.alike.symm.trans X15.warmed.alike
  have n7 : T11.heap[s.heap.size]? = some N := by rw [q11]; exact n1.1
  exact ⟨T15, none, _, _, _, X15, by simp, rfl, by omega, (fun _ => rfl), ⟨rfl, _, N, bl15, ((Same.refl D _).set _ (by simp)).set _ (by simp), sl15, (Cell.slots_setSlot_ne _ ap).trans sl13, n1.keep al (p15.other hne (p13.other hne n7)), n2, by rw [al.findClass]; exact n3, n4, n5, fun y c h1 h2 => p15.other h1 (p13.other h1 (by rw [q11]; exact n6 y c h2)), by rw [p15.2.2, p13.2.2, q11]; exact z8⟩, fun fs hl => c16.trans (X15.returnOut hexec hret (hb hbytes d57) hl)⟩
end New4
namespace New1
def yN : MethodName := ⟨"java/lang/String", "<init>", "([C)V"⟩
abbrev yB : ByteArray := jdk_42_method_3_code
theorem d0 : decode yB 0 = .ok (.aload_n 0, 1) := by decide +kernel
theorem d1 : decode yB 1 = .ok (.aload_n 1, 1) := by decide +kernel
theorem d2 : decode yB 2 = .ok (.iconst 0, 1) := by decide +kernel
theorem d3 : decode yB 3 = .ok (.aload_n 1, 1) := by decide +kernel
theorem d4 : decode yB 4 = .ok (.arraylength, 1) := by decide +kernel
theorem d5 : decode yB 5 = .ok (.aconst_null, 1) := by decide +kernel
theorem d6 : decode yB 6 = .ok (.invokespecial 27, 3) := by decide +kernel
theorem d9 : decode yB 9 = .ok (.return_, 1) := by decide +kernel
def site : List Cond := [New4.tab] ++ initW "java/lang/String" 27 New4.yN
def tab : Cond := tabOf yN yB 2 none site
def P (a : Addr) (D : Cell) (fV fC : Field) (b : Addr) (A : Cell) (z : Int32) (args : Array Value) (s : State) : Prop := args = #[.ref a, .ref b] ∧ Blank "java/lang/String" a D s ∧ Found "java/lang/String" "value" "[B" fV s ∧ Found "java/lang/String" "coder" "B" fC s ∧ Ch b A s ∧ StaticIs s "java/lang/String" "COMPACT_STRINGS" "Z" (.int z) ∧ ¬ z = 0 ∧ 0 < A.slots.size ∧ A.slots.size ≤ 536870912 ∧ ∀ i, i < A.slots.size → ¬ 255 < cv A i
def E (a : Addr) (D : Cell) (fV fC : Field) (A : Cell) (r : Option Value) (s u : State) : Prop := Got a D fV fC A 0 A.slots.size r s u
/-- new String(chars), not empty, no char above 255: a Latin-1 String of their low bytes -/
theorem law (l : Launch) (a : Addr) (D : Cell) (fV fC : Field) (b : Addr) (A : Cell) (z : Int32) : Law l yN 2 1 3 52 yB 2 none site (P a D fV fC b A z) (E a D fV fC A) [⟨a, fC.slot⟩, ⟨a, fV.slot⟩] 1 A.slots.size := by
  refine Law.of_walk (plainFor_of_name (by decide +kernel)) (by decide +kernel) (by decide +kernel) (by decide) (fun _ _ h => by rw [h.1]; rfl) (fun _ U U' hal hh h => ⟨h.1, h.2.1.mv hal hh, h.2.2.1.al hal, h.2.2.2.1.al hal, h.2.2.2.2.1.mv hal hh, h.2.2.2.2.2.1.there hal hh, h.2.2.2.2.2.2⟩) (fun r U U' V V' h1 hal h2 h => Got.mv r U U' V V' h1 hal h2 h) ?_
  intro p e s m args below meth c s₁ X0 hexec hbytes hml hret hlk hnm hown hh0 W hP
  obtain ⟨rfl, hB, f1, f2, hA, s1, hz, l0, l2, hp⟩ := hP
  have c1 : Steps p.tables e below (s₁.setTop (entryFrame m #[.ref a, .ref b] 2)) (s₁.setTop (mkF m 0 #[.val (.ref a), .val (.ref b)] [])) := entry rfl
  have c2 : Steps p.tables e below (s₁.setTop (entryFrame m #[.ref a, .ref b] 2)) (s₁.setTop (mkF m 6 #[.val (.ref a), .val (.ref b)] [.null, .int (Int32.ofNat A.slots.size), .int 0, .ref b, .ref a])) := c1.trans (by
    refine XS.aloadN X0.here hexec rfl (hb hbytes d0) rfl rfl ?_
    refine XS.aloadN X0.here hexec rfl (hb hbytes d1) rfl rfl ?_
    refine iconstV X0.here hexec rfl 0 (hb hbytes d2) (by decide) ?_
    refine XS.aloadN X0.here hexec rfl (hb hbytes d3) rfl rfl ?_
    refine X0.alen hexec (hA.1.mv X0.warmed.alike hh0) rfl rfl (hb hbytes d4) ?_
    refine XS.aconstNull X0.here hexec rfl (hb hbytes d5) ?_
    exact Steps.refl _)
  obtain ⟨v3, T3, X3, E3, g3⟩ := X0.callN hexec (New4.law l a D fV fC b A z 0 A.slots.size) rfl hown (wks W (initW "java/lang/String" 27 New4.yN)) (W New4.tab (by simp only [site, List.mem_cons, List.mem_append, true_or, or_true])) (W := 0) (Nat.le_of_ble_eq_true rfl) (Nat.le_of_ble_eq_true rfl) (Nat.le_refl _) (by show 0 + A.slots.size ≤ A.slots.size; omega) (g := (mkF m 6 #[.val (.ref a), .val (.ref b)] [.null, .int (Int32.ofNat A.slots.size), .int (Int32.ofNat 0), .ref b, .ref a])) rfl (by rw [hml]; rfl) c2 (argsL := [.ref b, .int (Int32.ofNat 0), .int (Int32.ofNat A.slots.size), .null]) (rest := []) rfl rfl (by show 2 * 0 + 0 ≤ _; decide) (hb hbytes d6) (⟨rfl, hB.mv X0.warmed.alike hh0, f1.al X0.warmed.alike, f2.al X0.warmed.alike, hA.mv X0.warmed.alike hh0, s1.there X0.warmed.alike hh0, hz, l0, by omega, l2, fun i hi => by rw [Nat.zero_add]; exact hp i hi⟩)
  have e0 := Got.mv _ s₁ s _ _ hh0.symm (Vm.Alike.refl _) rfl E3
  obtain rfl := e0.1
  have c4 : Steps p.tables e below (s₁.setTop (entryFrame m #[.ref a, .ref b] 2)) (T3.setTop (mkF m 9 #[.val (.ref a), .val (.ref b)] [])) := g3
  exact ⟨T3, none, _, _, _, X3, by simp, rfl, by omega, (fun _ => rfl), e0, fun fs hl => c4.trans (X3.returnOut hexec hret (hb hbytes d9) hl)⟩
theorem pays {l : Launch} {R : Room} {p : Program} {e : Env} {below : List Frame} {s : State} {sargs : Array Value} {len W : Nat} (a : Addr) (D : Cell) (fV fC : Field) (b : Addr) (A : Cell) (z : Int32) (htab : tab.before sargs s = true) (hfr : 4 ≤ R.frames) (hlo : W + 65 ≤ R.locals) :
    Back l R p e below s sargs yN len W (fun A₁ a₁ => A₁.cells + 1 ≤ R.cells ∧ A₁.slots + A.slots.size ≤ R.slots ∧ P a D fV fC b A z a₁ A₁.U) (fun A₁ _ v₁ B₁ => E a D fV fC A v₁ A₁.U B₁.U ∧ B₁.locs = A₁.locs ++ [⟨a, fC.slot⟩, ⟨a, fV.slot⟩] ∧ B₁.cells = A₁.cells + 1 ∧ B₁.slots = A₁.slots + A.slots.size) :=
  (law l a D fV fC b A z).pays htab hfr (by omega)
end New1
end StrChars
namespace StrChars.Road
open Jvm Sem ClassFile Op Lib Jvm.Stand Jvm.Free Jvm.Free.XT
open Jvm.Lib.Cold (StaticIs)
abbrev ST : String := "java/lang/String"
/-- every table word that New1's law asks, flat -/
abbrev words : List Jvm.Cond := [.code New1.yN New1.yB 2 none, .initialized ST, .methodLink ST 27 New4.yN, .instanceMethod New4.yN,
  .code New4.yN New4.yB 6 none, .fieldLink ST 38 ST "COMPACT_STRINGS" "Z", .laysFinal ST ST "value" "[B", .fieldLink ST 9 ST "value" "[B", .laysFinal ST ST "coder" "B", .fieldLink ST 15 ST "coder" "B",
  .methodLink ST 1 Lib.objectInit, .instanceMethod Lib.objectInit, .code Lib.objectInit ⟨#[0xb1]⟩ 1 none, .methodLink ST 177 Cmp3.yN, .static Cmp3.yN, .methodLink ST 47 CodL.yN, .static CodL.yN,
  .code Cmp3.yN Cmp3.yB 6 (some (.array .byte)), .initialized U16, .arrayClass .byte, .methodLink U16 115 Cmp5.yN, .static Cmp5.yN, .code Cmp5.yN Cmp5.yB 7 (some .int), .code CodL.yN CodL.yB 2 (some .byte)]
theorem tab_of {a : Array Value} {s : State} (h : ∀ w ∈ words, w.before a s = true) : New1.tab.before a s = true := by
  have h5 : Cmp5.tab.before a s = true := unparts (wk h (.code Cmp5.yN Cmp5.yB 7 (some .int))) (wks h (.initialized Cmp5.yN.cls :: Cmp5.site))
  have hc : CodL.tab.before a s = true := unparts (wk h (.code CodL.yN CodL.yB 2 (some .byte))) (wks h (.initialized CodL.yN.cls :: CodL.site))
  have q5 : ∀ w ∈ Cmp5.tab :: words, w.before a s = true := fun w hw => (List.mem_cons.mp hw).elim (fun e => e ▸ h5) (h w)
  have h3 : Cmp3.tab.before a s = true := unparts (wk q5 (.code Cmp3.yN Cmp3.yB 6 (some (.array .byte)))) (wks q5 (.initialized Cmp3.yN.cls :: Cmp3.site))
  have q3 : ∀ w ∈ Cmp3.tab :: CodL.tab :: words, w.before a s = true := fun w hw => (List.mem_cons.mp hw).elim (fun e => e ▸ h3) fun hw => (List.mem_cons.mp hw).elim (fun e => e ▸ hc) (h w)
  have h4 : New4.tab.before a s = true := unparts (wk q3 (.code New4.yN New4.yB 6 none)) (wks q3 (.initialized New4.yN.cls :: New4.site))
  have q4 : ∀ w ∈ New4.tab :: words, w.before a s = true := fun w hw => (List.mem_cons.mp hw).elim (fun e => e ▸ h4) (h w)
  exact unparts (wk q4 (.code New1.yN New1.yB 2 none)) (wks q4 (.initialized New1.yN.cls :: New1.site))
/-- the words ride from the start Z to the walk's own state -/
theorem moved {Z s : State} {a0 args : Array Value} (hZ : Z.Warmed39 s.vm) (hw : ∀ d ∈ words, d.before a0 Z = true) : ∀ d ∈ words, d.before args s = true := fun d hd => by
  have q := hw d hd
  have t : ∀ d ∈ words, d = .arrayClass .byte ∨ (d.onTables && d.keepsFace) = true := by decide +kernel
  rcases t d hd with rfl | t
  · exact RoadKit.mvA hZ q
  · exact RoadKit.mv hZ q t
/-- WHAT COMES BACK, over the tables of the start Z: h the heap at the call, h' behind it -/
def Q (Z : State) (x : Addr) (A : Cell) (h : Heap) (v : Option Value) (h' : Heap) (L : List Loc) : Prop := v = none ∧ (∀ y ∈ L, y.base = x) ∧ RoadKit.Keep h h' [x] ∧ h'.size = h.size + 1 ∧ RoadKit.Exa Z h' x ST ∧ RoadKit.Fld Z h' x ST "value" "[B" (.ref h.size) ∧ RoadKit.Fld Z h' x ST "coder" "B" (.int 0) ∧
  (∃ V : Cell, RoadKit.Arr Z h' h.size V .byte ∧ V.vm = .none ∧ Z.vm.findClass "[B" = some V.cls ∧ V.slots.size = A.slots.size ∧ ∀ j, j < A.slots.size → V.slots[j]? = some (.int (lo8 (cv A j)))) ∧
  ∀ (O n d : String) (w : Value), RoadKit.Fld Z h x O n d w → RoadKit.slotOf Z O n d ≠ RoadKit.slotOf Z ST "value" "[B" → RoadKit.slotOf Z O n d ≠ RoadKit.slotOf Z ST "coder" "B" → RoadKit.Fld Z h' x O n d w
/-- **new String(chars) AT A CALL, IN THE ROAD'S FORM**: for specialBack behind newO: x the fresh String, b the char[] with the cell A -/
theorem back {p : Program} {l : Launch} {e : Env} {R : Room} {s : State} {args : Array Value} {below : List Frame} {len W : Nat} {Z : State} {a0 : Array Value} {h : Heap} (hZ : Z.Warmed39 s.vm) (hw : ∀ d ∈ words, d.before a0 Z = true) {kI : Nat} (wi : (Jvm.Cond.instantiable ST kI).before a0 Z = true)
    {x b : Addr} {A : Cell} {z : Int32} {v0 c0 : Value} (E : RoadKit.Exa Z h x ST) (V : RoadKit.Fld Z h x ST "value" "[B" v0) (C : RoadKit.Fld Z h x ST "coder" "B" c0) (K : RoadKit.Arr Z h b A .char) (hty : Typed .char A) (S : RoadKit.Sta Z h ST "COMPACT_STRINGS" "Z" (.int z)) (hz : ¬ z = 0)
    (l0 : 0 < A.slots.size) (l2 : A.slots.size ≤ 536870912) (hp : ∀ i, i < A.slots.size → ¬ 255 < cv A i) (hfr : 4 ≤ R.frames) (hlo : W + 65 ≤ R.locals) :
    Back l R p e below s args New1.yN len W (fun P a => a = #[.ref x, .ref b] ∧ P.U.heap = h ∧ P.cells + 1 ≤ R.cells ∧ P.slots + A.slots.size ≤ R.slots)
      (fun P _ v B => ∃ L, Q Z x A h v B.U.heap L ∧ B.locs = P.locs ++ L ∧ B.cells = P.cells + 1 ∧ B.slots = P.slots + A.slots.size) := by
  intro m meth c P g ig mk a X hg hsize hdg hW hn hp'
  obtain ⟨rfl, rfl, r1, r2⟩ := hp'
  have al : Z.vm.Alike P.U.vm := hZ.alike.trans X.warmed.alike
  obtain ⟨D, cfV, kV, iV, fV, hD, gV, stV, knV, obV, asV, slV⟩ := id V
  obtain ⟨D', cfC, kC, iC, fC, hD', gC, stC, -, -, asC, slC⟩ := id C
  cases hD.symm.trans hD'
  obtain ⟨D2, kD, e1, e2, e3, e4, e5⟩ := id E
  cases hD.symm.trans e1
  obtain ⟨c2, k2, i1, i2, i3, -⟩ := Cond.instantiable_spec wi
  cases e2.symm.trans i1
  cases e3.symm.trans i2
  obtain ⟨kU, u1, u2⟩ := al.2.2 _ _ e3
  have hB : Blank ST x D P.U := ⟨hD, ⟨knV, fun q hq => by rw [hq] at obV; cases obV⟩, by rw [al.findClass]; exact e2, kU, u1, by rw [u2]; exact i3, by rw [u2]; exact e5 i3⟩
  have F1 : Found ST "value" "[B" fV P.U := ⟨SBG.found_only al ⟨cfV, kV, iV, gV⟩, stV⟩
  have F2 : Found ST "coder" "B" fC P.U := ⟨SBG.found_only al ⟨cfC, kC, iC, gC⟩, stC⟩
  have hA : Ch b A P.U := ⟨⟨K.1, State.isArrayOf_alike al K.2.1, K.2.2, by omega⟩, hty⟩
  have hS : StaticIs P.U ST "COMPACT_STRINGS" "Z" (.int z) := by
    obtain ⟨cfS, iS, kS, fS, st, cS, t1, t2, t3, t4, t5, t6, t7⟩ := S
    exact StaticIs.there (s := { Z with heap := P.U.heap }) ⟨cfS, iS, kS, fS, st, cS, t1, t2, t3, t4, t5, (fun q => by rw [q] at t6; cases t6), t7⟩ al rfl
  obtain ⟨v, B, X', ⟨⟨hv, E', V', q1, q2, q3, q4, q5, q6, q7, q8, q9, q10, q11⟩, hl, hc, hs⟩, st⟩ := New1.pays x D fV fC b A z (tab_of (moved hZ hw)) hfr hlo m meth c P g ig mk _ X hg hsize hdg hW hn ⟨r1, r2, rfl, hB, F1, F2, hA, hS, hz, l0, l2, hp⟩
  have al' : Z.vm.Alike B.U.vm := hZ.alike.trans X'.warmed.alike
  have hsz : E'.slots.size = D.slots.size := by
    obtain ⟨-, -, -, kB, w1, w2, w3⟩ := q1
    obtain ⟨kB', y1, y2⟩ := al'.2.2 _ _ e3
    rw [q2.2.1] at w1
    cases w1.symm.trans y1
    rw [w3, e5 i3, y2]
  refine ⟨v, B, X', ⟨_, ⟨hv, ?_, ⟨by omega, fun y cy hy hn' => q10 y cy (by simpa using hn') hy, fun y cy hy => ?_⟩, q11, ⟨E', _, q1.1, by rw [q2.2.1]; exact e2, by rw [q2.2.1]; exact e3, by rw [q2.1]; exact obV, fun _ => by rw [hsz]; exact e5 i3⟩,
    ⟨E', cfV, kV, iV, fV, q1.1, gV, stV, by rw [q2.1]; exact knV, by rw [q2.1]; exact obV, by rw [q2.2.1]; exact asV, q3⟩, ⟨E', cfC, kC, iC, fC, q1.1, gC, stC, by rw [q2.1]; exact knV, by rw [q2.1]; exact obV, by rw [q2.2.1]; exact asC, q4⟩,
    ⟨V', ⟨q5.1, State.isArrayOf_alike al'.symm q5.2.1, q5.2.2.1⟩, q6, by rw [← al'.findClass]; exact q7, q8, fun j hj => by have := q9 j hj; rwa [Nat.zero_add] at this⟩, fun O n d w F n1 n2 => ?_⟩, hl, hc, hs⟩, st⟩
  · intro y hy
    simp only [List.mem_cons, List.not_mem_nil, or_false] at hy
    rcases hy with rfl | rfl <;> rfl
  · by_cases q : y = x
    · subst q
      cases hD.symm.trans hy
      exact ⟨E', q1.1, q2.2.1, q2.1, hsz⟩
    · exact ⟨cy, q10 y cy q hy, rfl, rfl, rfl⟩
  · obtain ⟨D3, cf, k, i, f, g1, g2, g3, g4, g5, g6, g7⟩ := F
    cases hD.symm.trans g1
    simp only [RoadKit.slotOf, g2, gV, gC, Option.map_some, Option.getD_some] at n1 n2
    exact ⟨E', cf, k, i, f, q1.1, g2, g3, by rw [q2.1]; exact g4, by rw [q2.1]; exact g5, by rw [q2.2.1]; exact g6, by rw [q2.2.2 f.slot (by simp [n1, n2])]; exact g7⟩
end StrChars.Road
namespace StrChars.Road
open Jvm Sem ClassFile Op Lib Jvm.Stand Jvm.Free Jvm.Free.XT
/-- WHAT COMES BACK, the byte[] as a list of values -/
def QA (Z : State) (x : Addr) (zn : Int32) (cs : List Int32) (h : Heap) (v : Option Value) (h' : Heap) (L : List Loc) : Prop := v = none ∧ (∀ y ∈ L, y.base = x) ∧ RoadKit.Keep h h' [x] ∧ h'.size = h.size + 1 ∧ RoadKit.Exa Z h' x ST ∧ RoadKit.Fld Z h' x ST "value" "[B" (.ref h.size) ∧ RoadKit.Fld Z h' x ST "coder" "B" (.int 0) ∧
  (∃ kb, Z.vm.findClass "[B" = some kb ∧ RoadKit.Arv Z h' h.size kb .byte zn (cs.map fun c => .int (lo8 c)) (.int 0)) ∧
  ∀ (O n d : String) (w : Value), RoadKit.Fld Z h x O n d w → RoadKit.slotOf Z O n d ≠ RoadKit.slotOf Z ST "value" "[B" → RoadKit.slotOf Z O n d ≠ RoadKit.slotOf Z ST "coder" "B" → RoadKit.Fld Z h' x O n d w
/-- **new String(chars) AT A CALL, THE ARRAYS AS LISTS**: the char[] at b holds cs, not empty, no char above 255 -/
theorem backArv {p : Program} {l : Launch} {e : Env} {R : Room} {s : State} {args : Array Value} {below : List Frame} {len W : Nat} {Z : State} {a0 : Array Value} {h : Heap} (hZ : Z.Warmed39 s.vm) (hw : ∀ d ∈ words, d.before a0 Z = true) {kI : Nat} (wi : (Jvm.Cond.instantiable ST kI).before a0 Z = true)
    {x b : Addr} {k : ClassId} {zn z : Int32} {cs : List Int32} {dv v0 c0 : Value} (E : RoadKit.Exa Z h x ST) (V : RoadKit.Fld Z h x ST "value" "[B" v0) (C : RoadKit.Fld Z h x ST "coder" "B" c0) (K : RoadKit.Arv Z h b k .char zn (cs.map Value.int) dv) (S : RoadKit.Sta Z h ST "COMPACT_STRINGS" "Z" (.int z)) (hz : ¬ z = 0)
    (hlen : zn.toNatClampNeg = cs.length) (h0 : 0 < cs.length) (hbig : cs.length ≤ 536870912) (hall : ∀ c ∈ cs, ¬ 255 < c) (hfr : 4 ≤ R.frames) (hlo : W + 65 ≤ R.locals) :
    Back l R p e below s args New1.yN len W (fun P a => a = #[.ref x, .ref b] ∧ P.U.heap = h ∧ P.cells + 1 ≤ R.cells ∧ P.slots + cs.length ≤ R.slots)
      (fun P _ v B => ∃ L, QA Z x zn cs h v B.U.heap L ∧ B.locs = P.locs ++ L ∧ B.cells = P.cells + 1 ∧ B.slots = P.slots + cs.length) := by
  obtain ⟨A, K1, K2, K3, K4, K5, K6⟩ := K
  have e : A.slots.size = cs.length := K3.trans hlen
  have hat : ∀ (i : Nat) (hi : i < cs.length), A.slots[i]? = some (.int cs[i]) := fun i hi => by rw [K5 i (by omega)]; simp [List.getD_eq_getElem?_getD, hi]
  have hcv : ∀ (i : Nat) (hi : i < cs.length), cv A i = cs[i] := fun i hi => by unfold cv; rw [hat i hi]
  have hty : Typed .char A := fun i v hv => by
    have hi : i < A.slots.size := (Array.getElem?_eq_some_iff.mp hv).1
    have q := K5 i hi
    rw [hv] at q
    rw [Option.some.inj q]
    exact K6 i hi
  refine Back.mono (back hZ hw wi E V C K1 hty S hz (by omega) (by omega) (fun i hi => by rw [hcv i (by omega)]; exact hall _ (List.getElem_mem _)) hfr hlo) (fun P a hp => ⟨hp.1, hp.2.1, hp.2.2.1, by rw [e]; exact hp.2.2.2⟩) (fun P a v B hp hq => ?_)
  obtain ⟨L, ⟨q1, q2, q3, q4, q5, q6, q7, ⟨V', v1, v2, v3, v4, v5⟩, q9⟩, hl, hc, hs⟩ := hq
  refine ⟨L, ⟨q1, q2, q3, q4, q5, q6, q7, ⟨V'.cls, v3, V', v1, rfl, by rw [v4, e, hlen], K4, fun i hi => ?_, fun i hi => ?_⟩, q9⟩, hl, hc, by rw [hs, e]⟩
  · have hi' : i < cs.length := by omega
    rw [v5 i (by omega), hcv i hi']; simp [List.getD_eq_getElem?_getD, hi']
  · have hi' : i < cs.length := by omega
    simp only [List.getD_eq_getElem?_getD, List.getElem?_map, List.getElem?_eq_getElem hi', Option.map_some, Option.getD_some]
    exact fits_lo8 _
end StrChars.Road
namespace StrChars.Road
open Jvm Sem ClassFile Op Lib Jvm.Stand Jvm.Free Jvm.Free.XT
/-- WHAT COMES BACK, in the writer's own shape -/
def QV (Z : State) (x : Addr) (N : Int32) (bs : List Int32) (h : Heap) (n0 : Nat) (v : Option Value) (h' : Heap) (L : List Loc) : Prop := v = none ∧ RoadKit.Fr n0 L ∧ RoadKit.Keep h h' [x] ∧ RoadKit.Exa Z h' x ST ∧ RoadKit.Fld Z h' x ST "coder" "B" (.int 0) ∧
  ∃ (t : Addr) (kb : ClassId), n0 ≤ t ∧ h.size ≤ t ∧ ¬ t = x ∧ RoadKit.Fld Z h' x ST "value" "[B" (.ref t) ∧ RoadKit.Arv Z h' t kb .byte N (bs.map Value.int) (.int 0)
/-- **new String(chars) AT A CALL, FOR THE WRITER**: a char[] of n known ints, each 0 to 255 -/
theorem backV {p : Program} {l : Launch} {e : Env} {R : Room} {s : State} {args : Array Value} {below : List Frame} {len W : Nat} {Z : State} {a0 : Array Value} {h : Heap} (hZ : Z.Warmed39 s.vm) (hw : ∀ d ∈ words, d.before a0 Z = true) {kI : Nat} (wi : (Jvm.Cond.instantiable ST kI).before a0 Z = true)
    {x b : Addr} {kC : ClassId} {cs bs : List Int32} {d v0 c0 : Value} {z N : Int32} {n n0 : Nat} (hx0 : n0 ≤ x) (hh0 : n0 ≤ h.size) (E : RoadKit.Exa Z h x ST) (V : RoadKit.Fld Z h x ST "value" "[B" v0) (C : RoadKit.Fld Z h x ST "coder" "B" c0) (K : RoadKit.Arv Z h b kC .char N (cs.map Value.int) d) (S : RoadKit.Sta Z h ST "COMPACT_STRINGS" "Z" (.int z)) (hz : ¬ z = 0)
    (hn : cs.length = n) (hN : N = Int32.ofNat n) (l0 : 0 < n) (l2 : n ≤ 4000) (hp : ∀ c ∈ cs, ¬ c < 0 ∧ ¬ (255 : Int32) < c) (hb : bs = cs.map (fun c => c.toInt8.toInt32)) (hfr : 4 ≤ R.frames) (hlo : W + 65 ≤ R.locals) :
    Back l R p e below s args (⟨"java/lang/String", "<init>", "([C)V"⟩ : MethodName) len W (fun P a => a = #[.ref x, .ref b] ∧ P.U.heap = h ∧ P.cells + 1 ≤ R.cells ∧ P.slots + n ≤ R.slots)
      (fun P _ v B => ∃ L, QV Z x N bs h n0 v B.U.heap L ∧ B.locs = P.locs ++ L ∧ B.cells = P.cells + 1 ∧ B.slots = P.slots + n) := by
  subst hn hN hb
  refine Back.mono (backArv hZ hw wi E V C K S hz (n32 (by omega)) l0 (by omega) (fun c hc => (hp c hc).2) hfr hlo) (fun P a hp => hp) (fun P a v B hp hq => ?_)
  obtain ⟨L, ⟨q1, q2, q3, q4, q5, q6, q7, ⟨kb, v1, v2⟩, q9⟩, hl, hc, hs⟩ := hq
  exact ⟨L, ⟨q1, fun y hy => by rw [q2 y hy]; exact hx0, q3, q5, q7, h.size, kb, hh0, Nat.le_refl _, Nat.ne_of_gt E.lt, q6, by rw [List.map_map]; exact v2⟩, hl, hc, hs⟩
end StrChars.Road
end Jvm.Pilot.@@N@@
namespace Jvm.Pilot.@@N@@
open Jvm Jvm.ClassFile Sem Op Lib Jvm.Free Jvm.Stand Jvm.LawKit Jvm.RoadKit Bundle Jvm.Pilot.@@N@@.Jvm.D
set_option maxRecDepth 65536
set_option maxHeartbeats 40000000
abbrev kc0 : String := "com/example/indexwright/indexwright/OptionSpec"
abbrev kc1 : String := "java/lang/String"
abbrev kc2 : String := "java/lang/Character"
abbrev EL : List (String × Nat) := [("java/lang/String", 7)]
theorem own_and255 (x : Int32) : ¬ ((x &&& (255 : Int32)).toUInt32.toUInt16.toUInt32.toInt32) < 0 ∧ ¬ (255 : Int32) < ((x &&& (255 : Int32)).toUInt32.toUInt16.toUInt32.toInt32) := by
  have t : ∀ k : Fin 256, ¬ ((Int32.ofNat k.val).toUInt32.toUInt16.toUInt32.toInt32) < 0 ∧ ¬ (255 : Int32) < ((Int32.ofNat k.val).toUInt32.toUInt16.toUInt32.toInt32) := by decide +kernel
  have h : (x &&& 255).toBitVec.toNat < 256 := by
    rw [Int32.toBitVec_and, BitVec.toNat_and]
    exact Nat.lt_succ_of_le Nat.and_le_right
  have e : (x &&& 255) = Int32.ofNat (x &&& 255).toBitVec.toNat := by
    apply Int32.toBitVec_inj.mp
    show _ = BitVec.ofNat 32 _
    rw [BitVec.ofNat_toNat]; simp
  rw [e]
  exact t ⟨_, h⟩
theorem own_lat (x : Int32) : (((((x &&& (255 : Int32)).toUInt32.toUInt16.toUInt32.toInt32).toInt8.toInt32) &&& (255 : Int32)).toUInt32.toUInt16.toUInt32.toInt32) = ((x &&& (255 : Int32)).toUInt32.toUInt16.toUInt32.toInt32) := by
  have t : ∀ k : Fin 256, (((((Int32.ofNat k.val).toUInt32.toUInt16.toUInt32.toInt32).toInt8.toInt32) &&& (255 : Int32)).toUInt32.toUInt16.toUInt32.toInt32) = ((Int32.ofNat k.val).toUInt32.toUInt16.toUInt32.toInt32) := by decide +kernel
  have h : (x &&& 255).toBitVec.toNat < 256 := by
    rw [Int32.toBitVec_and, BitVec.toNat_and]
    exact Nat.lt_succ_of_le Nat.and_le_right
  have e : (x &&& 255) = Int32.ofNat (x &&& 255).toBitVec.toNat := by
    apply Int32.toBitVec_inj.mp
    show _ = BitVec.ofNat 32 _
    rw [BitVec.ofNat_toNat]; simp
  rw [e]
  exact t ⟨_, h⟩
theorem own_ch0 (x : Int32) : ¬ (x.toUInt32.toUInt16.toUInt32.toInt32) < 0 := by
  have q := (c_i2c x).2.1
  rw [Int32.lt_iff_toInt_lt]
  have e0 : (0 : Int32).toInt = 0 := rfl
  omega
theorem own_le127 {x : Int32} (h : ¬ (127 : Int32) < x) : x < (128 : Int32) := by
  rw [Int32.lt_iff_toInt_lt] at h ⊢
  have e1 : (127 : Int32).toInt = 127 := rfl
  have e2 : (128 : Int32).toInt = 128 := rfl
  omega
theorem own_hws {Z : State} {a0 : Array Value} (hw : ∀ d ∈ tables_1, d.before a0 Z = true) : ∀ d ∈ StrChars.Road.words, d.before a0 Z = true := fun d hd => hw d ((by decide +kernel : ∀ d ∈ StrChars.Road.words, d ∈ tables_1) d hd)
abbrev DC (b : ByteArray) (p : Nat) (i : Instr) (n : Nat) : Prop := ∀ {c : Code}, c.code = b → decode c.code p = .ok (i, n)
abbrev WD (w : Jvm.Cond) : Prop := ∀ {Z : State} {a0 : Array Value}, (∀ d ∈ tables_1, d.before a0 Z = true) → w.before a0 Z = true
theorem own_wd (i : Nat) {w : Jvm.Cond} (h : tables_1[i]? = some w) {Z : State} {a0 : Array Value} (hw : ∀ d ∈ tables_1, d.before a0 Z = true) : w.before a0 Z = true := hw _ (List.mem_of_getElem? h)
abbrev yn_1 : MethodName := ⟨"java/lang/String", "<init>", "([C)V"⟩
abbrev yn_2 : MethodName := ⟨"java/lang/String", "<init>", "([CIILjava/lang/Void;)V"⟩
abbrev yn_7 : MethodName := ⟨"com/example/indexwright/indexwright/OptionSpec", "<init>", "(Ljava/lang/String;Ljava/lang/String;Z)V"⟩
abbrev yn_8 : MethodName := ⟨"com/example/indexwright/indexwright/OptionSpec", "<init>", "(Ljava/lang/String;Ljava/lang/String;ZLjava/lang/Character;)V"⟩
abbrev yn_9 : MethodName := ⟨"java/lang/Record", "<init>", "()V"⟩
abbrev yn_10 : MethodName := ⟨"com/example/indexwright/indexwright/OptionSpec", "isSwitch", "()Z"⟩
abbrev yn_11 : MethodName := ⟨"com/example/indexwright/indexwright/OptionSpec", "ofSwitch", "(Ljava/lang/String;C)Lcom/example/indexwright/indexwright/OptionSpec;"⟩
abbrev yn_12 : MethodName := ⟨"java/lang/Character", "valueOf", "(C)Ljava/lang/Character;"⟩
abbrev yn_13 : MethodName := ⟨"java/lang/Character", "<init>", "(C)V"⟩
theorem d9_0 : DC jdk_30_method_1_code 0 (.aload_n 0) 1 := fun h => hb h (by decide +kernel)
theorem d9_1 : DC jdk_30_method_1_code 1 (.invokespecial 1) 3 := fun h => hb h (by decide +kernel)
theorem d9_4 : DC jdk_30_method_1_code 4 (.return_) 1 := fun h => hb h (by decide +kernel)
theorem d2_0 : DC jdk_42_method_149_code 0 (.aload_n 0) 1 := fun h => hb h (by decide +kernel)
theorem d2_1 : DC jdk_42_method_149_code 1 (.invokespecial 1) 3 := fun h => hb h (by decide +kernel)
theorem d2_4 : DC jdk_42_method_149_code 4 (.iload_n 3) 1 := fun h => hb h (by decide +kernel)
theorem d2_5 : DC jdk_42_method_149_code 5 (.ifCond .ne 22) 3 := fun h => hb h (by decide +kernel)
theorem d2_8 : DC jdk_42_method_149_code 8 (.aload_n 0) 1 := fun h => hb h (by decide +kernel)
theorem d2_9 : DC jdk_42_method_149_code 9 (.ldc 7) 2 := fun h => hb h (by decide +kernel)
theorem d2_11 : DC jdk_42_method_149_code 11 (.getfield 9) 3 := fun h => hb h (by decide +kernel)
theorem d2_14 : DC jdk_42_method_149_code 14 (.putfield 9) 3 := fun h => hb h (by decide +kernel)
theorem d2_17 : DC jdk_42_method_149_code 17 (.aload_n 0) 1 := fun h => hb h (by decide +kernel)
theorem d2_18 : DC jdk_42_method_149_code 18 (.ldc 7) 2 := fun h => hb h (by decide +kernel)
theorem d2_20 : DC jdk_42_method_149_code 20 (.getfield 15) 3 := fun h => hb h (by decide +kernel)
theorem d2_23 : DC jdk_42_method_149_code 23 (.putfield 15) 3 := fun h => hb h (by decide +kernel)
theorem d2_26 : DC jdk_42_method_149_code 26 (.return_) 1 := fun h => hb h (by decide +kernel)
theorem d1_0 : DC jdk_42_method_3_code 0 (.aload_n 0) 1 := fun h => hb h (by decide +kernel)
theorem d1_1 : DC jdk_42_method_3_code 1 (.aload_n 1) 1 := fun h => hb h (by decide +kernel)
theorem d1_2 : DC jdk_42_method_3_code 2 (.iconst 0) 1 := fun h => hb h (by decide +kernel)
theorem d1_3 : DC jdk_42_method_3_code 3 (.aload_n 1) 1 := fun h => hb h (by decide +kernel)
theorem d1_4 : DC jdk_42_method_3_code 4 (.arraylength) 1 := fun h => hb h (by decide +kernel)
theorem d1_5 : DC jdk_42_method_3_code 5 (.aconst_null) 1 := fun h => hb h (by decide +kernel)
theorem d1_6 : DC jdk_42_method_3_code 6 (.invokespecial 27) 3 := fun h => hb h (by decide +kernel)
theorem d1_9 : DC jdk_42_method_3_code 9 (.return_) 1 := fun h => hb h (by decide +kernel)
theorem d13_0 : DC jdk_89_method_2_code 0 (.aload_n 0) 1 := fun h => hb h (by decide +kernel)
theorem d13_1 : DC jdk_89_method_2_code 1 (.invokespecial 41) 3 := fun h => hb h (by decide +kernel)
theorem d13_4 : DC jdk_89_method_2_code 4 (.aload_n 0) 1 := fun h => hb h (by decide +kernel)
theorem d13_5 : DC jdk_89_method_2_code 5 (.iload_n 1) 1 := fun h => hb h (by decide +kernel)
theorem d13_6 : DC jdk_89_method_2_code 6 (.putfield 19) 3 := fun h => hb h (by decide +kernel)
theorem d13_9 : DC jdk_89_method_2_code 9 (.return_) 1 := fun h => hb h (by decide +kernel)
theorem d12_0 : DC jdk_89_method_3_code 0 (.iload_n 0) 1 := fun h => hb h (by decide +kernel)
theorem d12_1 : DC jdk_89_method_3_code 1 (.bipush 127) 2 := fun h => hb h (by decide +kernel)
theorem d12_3 : DC jdk_89_method_3_code 3 (.if_icmp .gt 9) 3 := fun h => hb h (by decide +kernel)
theorem d12_6 : DC jdk_89_method_3_code 6 (.getstatic 47) 3 := fun h => hb h (by decide +kernel)
theorem d12_9 : DC jdk_89_method_3_code 9 (.iload_n 0) 1 := fun h => hb h (by decide +kernel)
theorem d12_10 : DC jdk_89_method_3_code 10 (.aaload) 1 := fun h => hb h (by decide +kernel)
theorem d12_11 : DC jdk_89_method_3_code 11 (.areturn) 1 := fun h => hb h (by decide +kernel)
theorem d12_12 : DC jdk_89_method_3_code 12 (.new 1) 3 := fun h => hb h (by decide +kernel)
theorem d12_15 : DC jdk_89_method_3_code 15 (.dup) 1 := fun h => hb h (by decide +kernel)
theorem d12_16 : DC jdk_89_method_3_code 16 (.iload_n 0) 1 := fun h => hb h (by decide +kernel)
theorem d12_17 : DC jdk_89_method_3_code 17 (.invokespecial 53) 3 := fun h => hb h (by decide +kernel)
theorem d12_20 : DC jdk_89_method_3_code 20 (.areturn) 1 := fun h => hb h (by decide +kernel)
theorem d7_0 : DC prog_4_method_1_code 0 (.aload_n 0) 1 := fun h => hb h (by decide +kernel)
theorem d7_1 : DC prog_4_method_1_code 1 (.aload_n 1) 1 := fun h => hb h (by decide +kernel)
theorem d7_2 : DC prog_4_method_1_code 2 (.aload_n 2) 1 := fun h => hb h (by decide +kernel)
theorem d7_3 : DC prog_4_method_1_code 3 (.iload_n 3) 1 := fun h => hb h (by decide +kernel)
theorem d7_4 : DC prog_4_method_1_code 4 (.aconst_null) 1 := fun h => hb h (by decide +kernel)
theorem d7_5 : DC prog_4_method_1_code 5 (.invokespecial 24) 3 := fun h => hb h (by decide +kernel)
theorem d7_8 : DC prog_4_method_1_code 8 (.return_) 1 := fun h => hb h (by decide +kernel)
theorem d8_0 : DC prog_4_method_2_code 0 (.aload_n 0) 1 := fun h => hb h (by decide +kernel)
theorem d8_1 : DC prog_4_method_2_code 1 (.invokespecial 1) 3 := fun h => hb h (by decide +kernel)
theorem d8_4 : DC prog_4_method_2_code 4 (.aload_n 0) 1 := fun h => hb h (by decide +kernel)
theorem d8_5 : DC prog_4_method_2_code 5 (.aload_n 1) 1 := fun h => hb h (by decide +kernel)
theorem d8_6 : DC prog_4_method_2_code 6 (.putfield 7) 3 := fun h => hb h (by decide +kernel)
theorem d8_9 : DC prog_4_method_2_code 9 (.aload_n 0) 1 := fun h => hb h (by decide +kernel)
theorem d8_10 : DC prog_4_method_2_code 10 (.aload_n 2) 1 := fun h => hb h (by decide +kernel)
theorem d8_11 : DC prog_4_method_2_code 11 (.putfield 13) 3 := fun h => hb h (by decide +kernel)
theorem d8_14 : DC prog_4_method_2_code 14 (.aload_n 0) 1 := fun h => hb h (by decide +kernel)
theorem d8_15 : DC prog_4_method_2_code 15 (.iload_n 3) 1 := fun h => hb h (by decide +kernel)
theorem d8_16 : DC prog_4_method_2_code 16 (.putfield 16) 3 := fun h => hb h (by decide +kernel)
theorem d8_19 : DC prog_4_method_2_code 19 (.aload_n 0) 1 := fun h => hb h (by decide +kernel)
theorem d8_20 : DC prog_4_method_2_code 20 (.aload 4) 2 := fun h => hb h (by decide +kernel)
theorem d8_22 : DC prog_4_method_2_code 22 (.putfield 20) 3 := fun h => hb h (by decide +kernel)
theorem d8_25 : DC prog_4_method_2_code 25 (.return_) 1 := fun h => hb h (by decide +kernel)
theorem d11_0 : DC prog_4_method_3_code 0 (.new 8) 3 := fun h => hb h (by decide +kernel)
theorem d11_3 : DC prog_4_method_3_code 3 (.dup) 1 := fun h => hb h (by decide +kernel)
theorem d11_4 : DC prog_4_method_3_code 4 (.aload_n 0) 1 := fun h => hb h (by decide +kernel)
theorem d11_5 : DC prog_4_method_3_code 5 (.aconst_null) 1 := fun h => hb h (by decide +kernel)
theorem d11_6 : DC prog_4_method_3_code 6 (.iconst 0) 1 := fun h => hb h (by decide +kernel)
theorem d11_7 : DC prog_4_method_3_code 7 (.iload_n 1) 1 := fun h => hb h (by decide +kernel)
theorem d11_8 : DC prog_4_method_3_code 8 (.invokestatic 27) 3 := fun h => hb h (by decide +kernel)
theorem d11_11 : DC prog_4_method_3_code 11 (.invokespecial 24) 3 := fun h => hb h (by decide +kernel)
theorem d11_14 : DC prog_4_method_3_code 14 (.areturn) 1 := fun h => hb h (by decide +kernel)
theorem d10_0 : DC prog_4_method_4_code 0 (.aload_n 0) 1 := fun h => hb h (by decide +kernel)
theorem d10_1 : DC prog_4_method_4_code 1 (.getfield 13) 3 := fun h => hb h (by decide +kernel)
theorem d10_4 : DC prog_4_method_4_code 4 (.ifnonnull 7) 3 := fun h => hb h (by decide +kernel)
theorem d10_7 : DC prog_4_method_4_code 7 (.iconst 1) 1 := fun h => hb h (by decide +kernel)
theorem d10_8 : DC prog_4_method_4_code 8 (.goto 4) 3 := fun h => hb h (by decide +kernel)
theorem d10_11 : DC prog_4_method_4_code 11 (.iconst 0) 1 := fun h => hb h (by decide +kernel)
theorem d10_12 : DC prog_4_method_4_code 12 (.ireturn) 1 := fun h => hb h (by decide +kernel)
theorem pn_0 : plainName "java/lang/Character" = true := by first | (simp [plainName, overriddenIn]; done) | decide +kernel
theorem pn_1 : plainName "java/lang/Record" = true := by first | (simp [plainName, overriddenIn]; done) | decide +kernel
theorem pn_2 : plainName "com/example/indexwright/indexwright/OptionSpec" = true := by first | (simp [plainName, overriddenIn]; done) | decide +kernel
theorem pn_3 : plainName "java/lang/String" = true := by first | (simp [plainName, overriddenIn]; done) | decide +kernel
theorem pn_4 : plainName "com/example/indexwright/indexwright/OptionSpecIsSwitchPinLaw" = true := by first | (simp [plainName, overriddenIn]; done) | decide +kernel
theorem pd_0 : parseMethodDescriptor "([C)V" = some ⟨[(.array .char)], none⟩ := by decide +kernel
theorem pd_1 : parseMethodDescriptor "(C)V" = some ⟨[.char], none⟩ := by decide +kernel
theorem pd_2 : parseMethodDescriptor "(C)Ljava/lang/Character;" = some ⟨[.char], some (.object "java/lang/Character")⟩ := by decide +kernel
theorem pd_3 : parseMethodDescriptor "()V" = some ⟨[], none⟩ := by decide +kernel
theorem pd_4 : parseMethodDescriptor "(Ljava/lang/String;Ljava/lang/String;ZLjava/lang/Character;)V" = some ⟨[(.object "java/lang/String"), (.object "java/lang/String"), .boolean, (.object "java/lang/Character")], none⟩ := by decide +kernel
theorem pd_5 : parseMethodDescriptor "(Ljava/lang/String;C)Lcom/example/indexwright/indexwright/OptionSpec;" = some ⟨[(.object "java/lang/String"), .char], some (.object "com/example/indexwright/indexwright/OptionSpec")⟩ := by decide +kernel
theorem pd_6 : parseMethodDescriptor "()Z" = some ⟨[], some .boolean⟩ := by decide +kernel
theorem pd_7 : parseMethodDescriptor "(Ljava/lang/String;Ljava/lang/String;Z)V" = some ⟨[(.object "java/lang/String"), (.object "java/lang/String"), .boolean], none⟩ := by decide +kernel
theorem pd_8 : parseMethodDescriptor "([CIILjava/lang/Void;)V" = some ⟨[(.array .char), .int, .int, (.object "java/lang/Void")], none⟩ := by decide +kernel
theorem wd_0 : WD (Jvm.Cond.arrayClass Jvm.ClassFile.FieldType.char) := own_wd 0 rfl
theorem wd_1 : WD (Jvm.Cond.classLink "com/example/indexwright/indexwright/OptionSpecIsSwitchPinLaw" (7 : Nat) kc1) := own_wd 1 rfl
theorem wd_2 : WD (Jvm.Cond.instantiable kc1 (4 : Nat)) := own_wd 2 rfl
theorem wd_3 : WD (Jvm.Cond.initialized kc1) := own_wd 3 rfl
theorem wd_4 : WD (Jvm.Cond.methodLink "com/example/indexwright/indexwright/OptionSpecIsSwitchPinLaw" (9 : Nat) ({ cls := kc1, name := "<init>", desc := "([C)V" } : Jvm.MethodName)) := own_wd 4 rfl
theorem wd_5 : WD (Jvm.Cond.instanceMethod ({ cls := kc1, name := "<init>", desc := "([C)V" } : Jvm.MethodName)) := own_wd 5 rfl
theorem wd_6 : WD (Jvm.Cond.code ({ cls := kc1, name := "<init>", desc := "([C)V" } : Jvm.MethodName) jdk_42_method_3_code (2 : Nat) (Option.none : Option Jvm.ClassFile.FieldType)) := own_wd 6 rfl
theorem wd_7 : WD (Jvm.Cond.methodLink kc1 (27 : Nat) ({ cls := kc1, name := "<init>", desc := "([CIILjava/lang/Void;)V" } : Jvm.MethodName)) := own_wd 7 rfl
theorem wd_8 : WD (Jvm.Cond.instanceMethod ({ cls := kc1, name := "<init>", desc := "([CIILjava/lang/Void;)V" } : Jvm.MethodName)) := own_wd 8 rfl
theorem wd_10 : WD (Jvm.Cond.code ({ cls := kc1, name := "<init>", desc := "([CIILjava/lang/Void;)V" } : Jvm.MethodName) jdk_42_method_149_code (6 : Nat) (Option.none : Option Jvm.ClassFile.FieldType)) := own_wd 10 rfl
theorem wd_11 : WD (Jvm.Cond.methodLink kc1 (1 : Nat) ({ cls := "java/lang/Object", name := "<init>", desc := "()V" } : Jvm.MethodName)) := own_wd 11 rfl
theorem wd_12 : WD (Jvm.Cond.instanceMethod ({ cls := "java/lang/Object", name := "<init>", desc := "()V" } : Jvm.MethodName)) := own_wd 12 rfl
theorem wd_13 : WD (Jvm.Cond.code ({ cls := "java/lang/Object", name := "<init>", desc := "()V" } : Jvm.MethodName) object_method_1_code (1 : Nat) (Option.none : Option Jvm.ClassFile.FieldType)) := own_wd 13 rfl
theorem wd_19 : WD (Jvm.Cond.arrayClass Jvm.ClassFile.FieldType.byte) := own_wd 19 rfl
theorem wd_26 : WD (Jvm.Cond.fieldLink kc1 (15 : Nat) kc1 "coder" "B") := own_wd 26 rfl
theorem wd_27 : WD (Jvm.Cond.laysFinal kc1 kc1 "coder" "B") := own_wd 27 rfl
theorem wd_28 : WD (Jvm.Cond.fieldLink kc1 (9 : Nat) kc1 "value" "[B") := own_wd 28 rfl
theorem wd_29 : WD (Jvm.Cond.laysFinal kc1 kc1 "value" "[B") := own_wd 29 rfl
theorem wd_30 : WD (Jvm.Cond.classLink "com/example/indexwright/indexwright/OptionSpecIsSwitchPinLaw" (13 : Nat) kc0) := own_wd 30 rfl
theorem wd_31 : WD (Jvm.Cond.instantiable kc0 (4 : Nat)) := own_wd 31 rfl
theorem wd_32 : WD (Jvm.Cond.initialized kc0) := own_wd 32 rfl
theorem wd_33 : WD (Jvm.Cond.methodLink "com/example/indexwright/indexwright/OptionSpecIsSwitchPinLaw" (22 : Nat) ({ cls := kc0, name := "<init>", desc := "(Ljava/lang/String;Ljava/lang/String;Z)V" } : Jvm.MethodName)) := own_wd 33 rfl
theorem wd_34 : WD (Jvm.Cond.instanceMethod ({ cls := kc0, name := "<init>", desc := "(Ljava/lang/String;Ljava/lang/String;Z)V" } : Jvm.MethodName)) := own_wd 34 rfl
theorem wd_35 : WD (Jvm.Cond.code ({ cls := kc0, name := "<init>", desc := "(Ljava/lang/String;Ljava/lang/String;Z)V" } : Jvm.MethodName) prog_4_method_1_code (4 : Nat) (Option.none : Option Jvm.ClassFile.FieldType)) := own_wd 35 rfl
theorem wd_36 : WD (Jvm.Cond.methodLink kc0 (24 : Nat) ({ cls := kc0, name := "<init>", desc := "(Ljava/lang/String;Ljava/lang/String;ZLjava/lang/Character;)V" } : Jvm.MethodName)) := own_wd 36 rfl
theorem wd_37 : WD (Jvm.Cond.instanceMethod ({ cls := kc0, name := "<init>", desc := "(Ljava/lang/String;Ljava/lang/String;ZLjava/lang/Character;)V" } : Jvm.MethodName)) := own_wd 37 rfl
theorem wd_38 : WD (Jvm.Cond.code ({ cls := kc0, name := "<init>", desc := "(Ljava/lang/String;Ljava/lang/String;ZLjava/lang/Character;)V" } : Jvm.MethodName) prog_4_method_2_code (5 : Nat) (Option.none : Option Jvm.ClassFile.FieldType)) := own_wd 38 rfl
theorem wd_39 : WD (Jvm.Cond.methodLink kc0 (1 : Nat) ({ cls := "java/lang/Record", name := "<init>", desc := "()V" } : Jvm.MethodName)) := own_wd 39 rfl
theorem wd_40 : WD (Jvm.Cond.instanceMethod ({ cls := "java/lang/Record", name := "<init>", desc := "()V" } : Jvm.MethodName)) := own_wd 40 rfl
theorem wd_42 : WD (Jvm.Cond.initialized "java/lang/Record") := own_wd 42 rfl
theorem wd_43 : WD (Jvm.Cond.code ({ cls := "java/lang/Record", name := "<init>", desc := "()V" } : Jvm.MethodName) jdk_30_method_1_code (1 : Nat) (Option.none : Option Jvm.ClassFile.FieldType)) := own_wd 43 rfl
theorem wd_44 : WD (Jvm.Cond.methodLink "java/lang/Record" (1 : Nat) ({ cls := "java/lang/Object", name := "<init>", desc := "()V" } : Jvm.MethodName)) := own_wd 44 rfl
theorem wd_45 : WD (Jvm.Cond.fieldLink kc0 (7 : Nat) kc0 "name" "Ljava/lang/String;") := own_wd 45 rfl
theorem wd_46 : WD (Jvm.Cond.laysFinal kc0 kc0 "name" "Ljava/lang/String;") := own_wd 46 rfl
theorem wd_47 : WD (Jvm.Cond.fieldLink kc0 (13 : Nat) kc0 "valueName" "Ljava/lang/String;") := own_wd 47 rfl
theorem wd_48 : WD (Jvm.Cond.laysFinal kc0 kc0 "valueName" "Ljava/lang/String;") := own_wd 48 rfl
theorem wd_49 : WD (Jvm.Cond.fieldLink kc0 (16 : Nat) kc0 "required" "Z") := own_wd 49 rfl
theorem wd_50 : WD (Jvm.Cond.laysFinal kc0 kc0 "required" "Z") := own_wd 50 rfl
theorem wd_51 : WD (Jvm.Cond.fieldLink kc0 (20 : Nat) kc0 "letter" "Ljava/lang/Character;") := own_wd 51 rfl
theorem wd_52 : WD (Jvm.Cond.laysFinal kc0 kc0 "letter" "Ljava/lang/Character;") := own_wd 52 rfl
theorem wd_53 : WD (Jvm.Cond.methodLink "com/example/indexwright/indexwright/OptionSpecIsSwitchPinLaw" (18 : Nat) ({ cls := kc0, name := "isSwitch", desc := "()Z" } : Jvm.MethodName)) := own_wd 53 rfl
theorem wd_54 : WD (Jvm.Cond.declares ({ cls := kc0, name := "isSwitch", desc := "()Z" } : Jvm.MethodName)) := own_wd 54 rfl
theorem wd_55 : WD (Jvm.Cond.instanceMethod ({ cls := kc0, name := "isSwitch", desc := "()Z" } : Jvm.MethodName)) := own_wd 55 rfl
theorem wd_56 : WD (Jvm.Cond.selects kc0 ({ cls := kc0, name := "isSwitch", desc := "()Z" } : Jvm.MethodName) ({ cls := kc0, name := "isSwitch", desc := "()Z" } : Jvm.MethodName)) := own_wd 56 rfl
theorem wd_57 : WD (Jvm.Cond.code ({ cls := kc0, name := "isSwitch", desc := "()Z" } : Jvm.MethodName) prog_4_method_4_code (1 : Nat) (Option.some Jvm.ClassFile.FieldType.boolean)) := own_wd 57 rfl
theorem wd_58 : WD (Jvm.Cond.methodLink "com/example/indexwright/indexwright/OptionSpecIsSwitchPinLaw" (12 : Nat) ({ cls := kc0, name := "ofSwitch", desc := "(Ljava/lang/String;C)Lcom/example/indexwright/indexwright/OptionSpec;" } : Jvm.MethodName)) := own_wd 58 rfl
theorem wd_59 : WD (Jvm.Cond.static ({ cls := kc0, name := "ofSwitch", desc := "(Ljava/lang/String;C)Lcom/example/indexwright/indexwright/OptionSpec;" } : Jvm.MethodName)) := own_wd 59 rfl
theorem wd_60 : WD (Jvm.Cond.code ({ cls := kc0, name := "ofSwitch", desc := "(Ljava/lang/String;C)Lcom/example/indexwright/indexwright/OptionSpec;" } : Jvm.MethodName) prog_4_method_3_code (2 : Nat) (Option.some (Jvm.ClassFile.FieldType.object kc0))) := own_wd 60 rfl
theorem wd_61 : WD (Jvm.Cond.classLink kc0 (8 : Nat) kc0) := own_wd 61 rfl
theorem wd_62 : WD (Jvm.Cond.methodLink kc0 (27 : Nat) ({ cls := kc2, name := "valueOf", desc := "(C)Ljava/lang/Character;" } : Jvm.MethodName)) := own_wd 62 rfl
theorem wd_63 : WD (Jvm.Cond.static ({ cls := kc2, name := "valueOf", desc := "(C)Ljava/lang/Character;" } : Jvm.MethodName)) := own_wd 63 rfl
theorem wd_64 : WD (Jvm.Cond.initialized kc2) := own_wd 64 rfl
theorem wd_65 : WD (Jvm.Cond.code ({ cls := kc2, name := "valueOf", desc := "(C)Ljava/lang/Character;" } : Jvm.MethodName) jdk_89_method_3_code (1 : Nat) (Option.some (Jvm.ClassFile.FieldType.object kc2))) := own_wd 65 rfl
theorem wd_66 : WD (Jvm.Cond.fieldLink kc2 (47 : Nat) "java/lang/Character$CharacterCache" "cache" "[Ljava/lang/Character;") := own_wd 66 rfl
theorem wd_68 : WD (Jvm.Cond.stringLink kc1 (7 : Nat) "") := own_wd 68 rfl
theorem wd_71 : WD (Jvm.Cond.classLink kc2 (1 : Nat) kc2) := own_wd 71 rfl
theorem wd_72 : WD (Jvm.Cond.instantiable kc2 (1 : Nat)) := own_wd 72 rfl
theorem wd_73 : WD (Jvm.Cond.methodLink kc2 (53 : Nat) ({ cls := kc2, name := "<init>", desc := "(C)V" } : Jvm.MethodName)) := own_wd 73 rfl
theorem wd_74 : WD (Jvm.Cond.instanceMethod ({ cls := kc2, name := "<init>", desc := "(C)V" } : Jvm.MethodName)) := own_wd 74 rfl
theorem wd_76 : WD (Jvm.Cond.code ({ cls := kc2, name := "<init>", desc := "(C)V" } : Jvm.MethodName) jdk_89_method_2_code (2 : Nat) (Option.none : Option Jvm.ClassFile.FieldType)) := own_wd 76 rfl
theorem wd_77 : WD (Jvm.Cond.methodLink kc2 (41 : Nat) ({ cls := "java/lang/Object", name := "<init>", desc := "()V" } : Jvm.MethodName)) := own_wd 77 rfl
theorem wd_78 : WD (Jvm.Cond.fieldLink kc2 (19 : Nat) kc2 "value" "C") := own_wd 78 rfl
theorem wd_79 : WD (Jvm.Cond.laysFinal kc2 kc2 "value" "C") := own_wd 79 rfl
theorem own_EW {Z : State} {a0 : Array Value} (hw : ∀ d ∈ tables_1, d.before a0 Z = true) : EW Z a0 EL := (EW.cons (wd_68 hw) (by decide +kernel) EW.nil)
theorem own_wS {Z : State} {a0 : Array Value} (hw : ∀ d ∈ tables_1, d.before a0 Z = true) : ∀ d ∈ Bundle.stringAtoms, d.before a0 Z = true := fun d hd => hw d ((by decide +kernel : ∀ d ∈ Bundle.stringAtoms, d ∈ tables_1) d hd)
theorem ef_m13_5 (m : MethodId) (a0 : Addr) (p1 : Int32)  : entryFrame m #[(.ref a0), (.int p1)] 2 = mkF m 0 #[.val (.ref a0), .val (.int p1)] [] := by first | (simp [entryFrame, mkF, argsToLocals, Value.category]; done) | rfl
def Q_m13_5 (Z : State) (a0 : Addr) (p1 : Int32) (h0 : Heap) (n0 : Nat) (v : Option Value) (h : Heap) (L : List Loc) : Prop := v = none ∧ Fr n0 L ∧ Keep h0 h [a0] ∧ Exa Z h a0 kc2 ∧ Fld Z h a0 kc2 "value" "C" (.int p1)
theorem rm_m13_5 (l : Launch) (Z : State) (aZ : Array Value) (hw : ∀ d ∈ tables_1, d.before aZ Z = true) (ws : List Jvm.Cond) (a0 : Addr) (p1 : Int32) (h0 : Heap) (n0 : Nat) (Z0 : n0 ≤ h0.size) (E_a0 : Exa Z h0 a0 kc2) (zz0 : Fld Z h0 a0 kc2 "value" "C" (.int (0 : Int32))) (zz1 : nar .char p1 = p1) (zz2 : n0 ≤ a0) :
    MetN l Z yn_13 jdk_89_method_2_code 2 none ws ({ frames := 1, cells := 0, slots := 0, locals := 12 } : Room) #[(.ref a0), (.int p1)] h0 (Q_m13_5 Z a0 p1 h0 n0) := by
 refine MetN.of (plainFor_of_name pn_0) ?_
 intro p e s m below meth c s₁ hret hx hby hml hown hnm hlk hZ X0 e0
 have N0 := Fr.nil n0
 rw [ef_m13_5 m a0 p1]
 refine w_aloadN X0 hx (d13_0 hby) rfl rfl (pc' := 1) rfl ?_
 refine w_initO X0 hx 0 hZ hown (wd_77 hw) (wd_12 hw) (wd_13 hw) e0 (by rw [hml]; rfl) (d13_1 hby) (by decide) (Nat.le_of_eq rfl) (by decide) (pc' := 4) rfl ?_
 intro T20 X20 e20
 refine w_aloadN X20 hx (d13_4 hby) rfl rfl (pc' := 5) rfl ?_
 refine w_iloadN X20 hx (d13_5 hby) rfl (pc' := 6) rfl ?_
 refine w_putFN X20 hx hZ hown (wd_78 hw) Via.refl e20 zz0 E_a0 (Or.inr ⟨(wd_79 hw), rfl, hnm⟩) (wd_72 hw) (ty := .char) (by decide) (v' := (.int (nar .char p1))) rfl (fits_nar_char _) (d13_6 hby) (pc' := 9) rfl ?_
 intro T21 h21 X21 e21 W21
 have f22 : Fld Z h21 a0 kc2 "value" "C" (.int (nar .char p1)) := zz0.same W21
 have f23 : Fld Z h21 a0 kc2 "value" "C" (.int p1) := by rw [zz1] at f22; exact f22
 have K24 : Keep h0 h21 [a0] := (Keep.refl h0 [a0]).wr W21 (Or.inl (by simp))
 have N25 := Fr.snoc X21 N0 zz2
 have f26 : Exa Z h21 a0 kc2 := (E_a0.wr W21)
 exact w_done X21 hlk (v := none) e21 (fun _ => rfl) (fun fs hr => X21.returnOut hx hret (d13_9 hby) hr) (by decide) (by decide) (⟨rfl, N25, K24, f26, f23⟩)
theorem ef_m12_4 (m : MethodId) (p0 : Int32)  : entryFrame m #[(.int p0)] 1 = mkF m 0 #[.val (.int p0)] [] := by first | (simp [entryFrame, mkF, argsToLocals, Value.category]; done) | rfl
def Q_m12_4 (Z : State) (p0 : Int32) (h0 : Heap) (n0 : Nat) (v : Option Value) (h : Heap) (L : List Loc) : Prop := ∃ (r0 : Addr), v = some (.ref r0) ∧ Fr n0 L ∧ Keep h0 h [] ∧ h0.size ≤ r0 ∧ Exa Z h r0 kc2 ∧ Fld Z h r0 kc2 "value" "C" (.int p0)
theorem rm_m12_4 (l : Launch) (Z : State) (aZ : Array Value) (hw : ∀ d ∈ tables_1, d.before aZ Z = true) (ws : List Jvm.Cond) (p0 : Int32) (h0 : Heap) (n0 : Nat) (Z0 : n0 ≤ h0.size) (hP_0 : (127 : Int32) < p0) (zz0 : nar .char p0 = p0) :
    MetN l Z yn_12 jdk_89_method_3_code 1 (some (.object kc2)) ws ({ frames := 2, cells := 1, slots := 1, locals := 26 } : Room) #[(.int p0)] h0 (Q_m12_4 Z p0 h0 n0) := by
 refine MetN.of (plainFor_of_name pn_0) ?_
 intro p e s m below meth c s₁ hret hx hby hml hown hnm hlk hZ X0 e0
 have N0 := Fr.nil n0
 rw [ef_m12_4 m p0]
 refine w_iloadN X0 hx (d12_0 hby) rfl (pc' := 1) rfl ?_
 refine w_bipush X0 hx (d12_1 hby) (v := (127 : Int32)) rfl (pc' := 3) rfl ?_
 refine w_icY X0 hx (d12_3 hby) (tlt hP_0).2.2.1 (pc' := 12) (by decide) (by decide) ?_
 refine w_new X0 hx hZ hown (wd_71 hw) (wd_72 hw) (wd_64 hw) e0 (d12_12 hby) (by decide) (by decide) (pc' := 15) rfl ?_
 intro T20 h20 b20 X20 e20 E20 g20 A20 D20
 have ge21 : n0 ≤ b20 := Nat.le_trans Z0 (Nat.le_of_eq g20.symm)
 have sz22 : h0.size ≤ b20 := Nat.le_trans (Nat.le_refl _) (Nat.le_of_eq g20.symm)
 have K23 : Keep h0 h20 [] := (Keep.refl h0 []).ext E20
 have f24 : Fld Z h20 b20 kc2 "value" "C" (.int (0 : Int32)) := D20 (Or.inr (wd_79 hw)) (ty := .char) (by decide)
 refine w_dup X20 hx (d12_15 hby) rfl (pc' := 16) rfl ?_
 refine w_iloadN X20 hx (d12_16 hby) rfl (pc' := 17) rfl ?_
 refine w_special X20 hx (y := yn_13) rfl hown (mvT hZ (wd_73 hw)) (mvT hZ (wd_74 hw)) (mvT hZ (wd_76 hw)) (by decide) (backOf (W := 1) (rm_m13_5 l Z aZ hw [] b20 p0 h20 n0 (Nat.le_trans Z0 E20.1) A20 f24 zz0 ge21) hZ (wd_76 hw) (wd_64 hw) (by decide) (by decide)) (by rw [hml]; rfl) [(.int p0)] (lenOf pd_1 rfl) rfl (Nat.le_of_eq rfl) (d12_17 hby) (fun _ _ => ⟨rfl, e20, (by decide : 1 + 0 ≤ _), (by decide : 1 + 0 ≤ _)⟩) (pc' := 20) rfl ?_
 rintro _ _ ⟨T25, L25, k25, n25⟩ X25 ⟨Lc25, hQ25, l25, y25, z25⟩
 dsimp only [Pt.U, Pt.locs, Pt.cells, Pt.slots] at X25 l25 y25 z25 hQ25 ⊢
 subst l25 y25 z25
 obtain ⟨rfl, N25q, K25, g25_0, g25_1⟩ := hQ25
 have N26 := Fr.app N0 N25q
 have K27 : Keep h0 T25.heap [] := K23.trans K25 (allS (Or.inr sz22) (all0 (P := fun x => x ∈ [] ∨ h0.size ≤ x)))
 show Runs _ _ _ _ (T25.setTop (mkF m 20 #[.val (.int p0)] [(.ref b20)]))
 exact w_done X25 hlk (v := some (.ref b20)) rfl (fun h => by rw [hret] at h; cases h) (fun fs hr => retOut X25 hx hret rfl (Or.inr (Or.inr (Or.inr (Or.inr ⟨rfl, rfl, rfl⟩)))) (d12_20 hby) hr) (by decide) (by decide) (⟨b20, rfl, N26, K27, sz22, g25_0, g25_1⟩)
theorem ef_m9_7 (m : MethodId) (a0 : Addr)  : entryFrame m #[(.ref a0)] 1 = mkF m 0 #[.val (.ref a0)] [] := by first | (simp [entryFrame, mkF, argsToLocals, Value.category]; done) | rfl
def Q_m9_7 (Z : State) (a0 : Addr) (h0 : Heap) (n0 : Nat) (v : Option Value) (h : Heap) (L : List Loc) : Prop := v = none ∧ Fr n0 L ∧ h = h0
theorem rm_m9_7 (l : Launch) (Z : State) (aZ : Array Value) (hw : ∀ d ∈ tables_1, d.before aZ Z = true) (ws : List Jvm.Cond) (a0 : Addr) (h0 : Heap) (n0 : Nat) (Z0 : n0 ≤ h0.size) :
    MetN l Z yn_9 jdk_30_method_1_code 1 none ws ({ frames := 1, cells := 0, slots := 0, locals := 12 } : Room) #[(.ref a0)] h0 (Q_m9_7 Z a0 h0 n0) := by
 refine MetN.of (plainFor_of_name pn_1) ?_
 intro p e s m below meth c s₁ hret hx hby hml hown hnm hlk hZ X0 e0
 have N0 := Fr.nil n0
 rw [ef_m9_7 m a0]
 refine w_aloadN X0 hx (d9_0 hby) rfl rfl (pc' := 1) rfl ?_
 refine w_initO X0 hx 0 hZ hown (wd_44 hw) (wd_12 hw) (wd_13 hw) e0 (by rw [hml]; rfl) (d9_1 hby) (by decide) (Nat.le_of_eq rfl) (by decide) (pc' := 4) rfl ?_
 intro T20 X20 e20
 exact w_done X20 hlk (v := none) e20 (fun _ => rfl) (fun fs hr => X20.returnOut hx hret (d9_4 hby) hr) (by decide) (by decide) (⟨rfl, N0, rfl⟩)
theorem ef_m8_6 (m : MethodId) (a0 : Addr) (a1 : Addr) (a4 : Addr)  : entryFrame m #[(.ref a0), (.ref a1), .null, (.int (0 : Int32)), (.ref a4)] 5 = mkF m 0 #[.val (.ref a0), .val (.ref a1), .val .null, .val (.int (0 : Int32)), .val (.ref a4)] [] := by first | (simp [entryFrame, mkF, argsToLocals, Value.category]; done) | rfl
def Q_m8_6 (Z : State) (a0 : Addr) (a1 : Addr) (a4 : Addr) (h0 : Heap) (n0 : Nat) (v : Option Value) (h : Heap) (L : List Loc) : Prop := v = none ∧ Fr n0 L ∧ Keep h0 h [a0] ∧ Exa Z h a0 kc0 ∧ Fld Z h a0 kc0 "name" "Ljava/lang/String;" (.ref a1) ∧ Fld Z h a0 kc0 "valueName" "Ljava/lang/String;" .null ∧ Fld Z h a0 kc0 "required" "Z" (.int (0 : Int32)) ∧ Fld Z h a0 kc0 "letter" "Ljava/lang/Character;" (.ref a4)
theorem rm_m8_6 (l : Launch) (Z : State) (aZ : Array Value) (hw : ∀ d ∈ tables_1, d.before aZ Z = true) (ws : List Jvm.Cond) (a0 : Addr) (a1 : Addr) (a4 : Addr) (h0 : Heap) (n0 : Nat) (Z0 : n0 ≤ h0.size) (E_a0 : Exa Z h0 a0 kc0) (zz0 : Fld Z h0 a0 kc0 "name" "Ljava/lang/String;" .null) (zz1 : n0 ≤ a0) (zz2 : Fld Z h0 a0 kc0 "valueName" "Ljava/lang/String;" .null) (zz3 : Fld Z h0 a0 kc0 "required" "Z" (.int (0 : Int32))) (zz4 : Fld Z h0 a0 kc0 "letter" "Ljava/lang/Character;" .null) :
    MetN l Z yn_8 prog_4_method_2_code 5 none ws ({ frames := 2, cells := 0, slots := 0, locals := 24 } : Room) #[(.ref a0), (.ref a1), .null, (.int (0 : Int32)), (.ref a4)] h0 (Q_m8_6 Z a0 a1 a4 h0 n0) := by
 refine MetN.of (plainFor_of_name pn_2) ?_
 intro p e s m below meth c s₁ hret hx hby hml hown hnm hlk hZ X0 e0
 have N0 := Fr.nil n0
 rw [ef_m8_6 m a0 a1 a4]
 refine w_aloadN X0 hx (d8_0 hby) rfl rfl (pc' := 1) rfl ?_
 refine w_special X0 hx (y := yn_9) rfl hown (mvT hZ (wd_39 hw)) (mvT hZ (wd_40 hw)) (mvT hZ (wd_43 hw)) (by decide) (backOf (W := 0) (rm_m9_7 l Z aZ hw [] a0 h0 n0 Z0 ) hZ (wd_43 hw) (wd_42 hw) (by decide) (by decide)) (by rw [hml]; rfl) [] (lenOf pd_3 rfl) rfl (Nat.le_of_eq rfl) (d8_1 hby) (fun _ _ => ⟨rfl, e0, (by decide : 0 + 0 ≤ _), (by decide : 0 + 0 ≤ _)⟩) (pc' := 4) rfl ?_
 rintro _ _ ⟨T20, L20, k20, n20⟩ X20 ⟨Lc20, hQ20, l20, y20, z20⟩
 dsimp only [Pt.U, Pt.locs, Pt.cells, Pt.slots] at X20 l20 y20 z20 hQ20 ⊢
 subst l20 y20 z20
 obtain ⟨rfl, N20q, e20⟩ := hQ20
 have N21 := Fr.app N0 N20q
 show Runs _ _ _ _ (T20.setTop (mkF m 4 #[.val (.ref a0), .val (.ref a1), .val .null, .val (.int (0 : Int32)), .val (.ref a4)] []))
 refine w_aloadN X20 hx (d8_4 hby) rfl rfl (pc' := 5) rfl ?_
 refine w_aloadN X20 hx (d8_5 hby) rfl rfl (pc' := 6) rfl ?_
 refine w_putF X20 hx "" hZ hown (Or.inl (wd_45 hw)) Via.refl e20 zz0 E_a0 (Or.inr ⟨(wd_46 hw), rfl, hnm⟩) (wd_31 hw) (ty := (.object kc1)) (by decide) rfl rfl (d8_6 hby) (pc' := 9) rfl ?_
 intro T22 h22 X22 e22 W22
 have f23 : Fld Z h22 a0 kc0 "name" "Ljava/lang/String;" (.ref a1) := zz0.same W22
 have K24 : Keep h0 h22 [a0] := (Keep.refl h0 [a0]).wr W22 (Or.inl (by simp))
 have N25 := Fr.snoc X22 N21 zz1
 refine w_aloadN X22 hx (d8_9 hby) rfl rfl (pc' := 10) rfl ?_
 refine w_aloadN X22 hx (d8_10 hby) rfl rfl (pc' := 11) rfl ?_
 have f26 : Exa Z h22 a0 kc0 := (E_a0.wr W22)
 have f27 : Fld Z h22 a0 kc0 "valueName" "Ljava/lang/String;" .null := (zz2.other W22 (Or.inr (slot_ne (Or.inr (wd_48 hw)) (Or.inr (wd_46 hw)) (by decide) (t := (.object kc1)) (t' := (.object kc1)) (by decide) (by decide))))
 refine w_putF X22 hx "" hZ hown (Or.inl (wd_47 hw)) Via.refl e22 f27 f26 (Or.inr ⟨(wd_48 hw), rfl, hnm⟩) (wd_31 hw) (ty := (.object kc1)) (by decide) rfl rfl (d8_11 hby) (pc' := 14) rfl ?_
 intro T28 h28 X28 e28 W28
 have f29 : Fld Z h28 a0 kc0 "valueName" "Ljava/lang/String;" .null := f27.same W28
 have K30 : Keep h0 h28 [a0] := K24.wr W28 (Or.inl (by simp))
 have N31 := Fr.snoc X28 N25 zz1
 refine w_aloadN X28 hx (d8_14 hby) rfl rfl (pc' := 15) rfl ?_
 refine w_iloadN X28 hx (d8_15 hby) rfl (pc' := 16) rfl ?_
 have f32 : Exa Z h28 a0 kc0 := (f26.wr W28)
 have f33 : Fld Z h28 a0 kc0 "required" "Z" (.int (0 : Int32)) := ((zz3.other W22 (Or.inr (slot_ne (Or.inr (wd_50 hw)) (Or.inr (wd_46 hw)) (by decide) (t := .boolean) (t' := (.object kc1)) (by decide) (by decide)))).other W28 (Or.inr (slot_ne (Or.inr (wd_50 hw)) (Or.inr (wd_48 hw)) (by decide) (t := .boolean) (t' := (.object kc1)) (by decide) (by decide))))
 refine w_putF X28 hx "" hZ hown (Or.inl (wd_49 hw)) Via.refl e28 f33 f32 (Or.inr ⟨(wd_50 hw), rfl, hnm⟩) (wd_31 hw) (ty := .boolean) (by decide) rfl rfl (d8_16 hby) (pc' := 19) rfl ?_
 intro T34 h34 X34 e34 W34
 have f35 : Fld Z h34 a0 kc0 "required" "Z" (.int (0 : Int32)) := f33.same W34
 have K36 : Keep h0 h34 [a0] := K30.wr W34 (Or.inl (by simp))
 have N37 := Fr.snoc X34 N31 zz1
 refine w_aloadN X34 hx (d8_19 hby) rfl rfl (pc' := 20) rfl ?_
 refine w_aload X34 hx (d8_20 hby) rfl rfl (pc' := 22) rfl ?_
 have f38 : Exa Z h34 a0 kc0 := (f32.wr W34)
 have f39 : Fld Z h34 a0 kc0 "letter" "Ljava/lang/Character;" .null := (((zz4.other W22 (Or.inr (slot_ne (Or.inr (wd_52 hw)) (Or.inr (wd_46 hw)) (by decide) (t := (.object kc2)) (t' := (.object kc1)) (by decide) (by decide)))).other W28 (Or.inr (slot_ne (Or.inr (wd_52 hw)) (Or.inr (wd_48 hw)) (by decide) (t := (.object kc2)) (t' := (.object kc1)) (by decide) (by decide)))).other W34 (Or.inr (slot_ne (Or.inr (wd_52 hw)) (Or.inr (wd_50 hw)) (by decide) (t := (.object kc2)) (t' := .boolean) (by decide) (by decide))))
 refine w_putF X34 hx "" hZ hown (Or.inl (wd_51 hw)) Via.refl e34 f39 f38 (Or.inr ⟨(wd_52 hw), rfl, hnm⟩) (wd_31 hw) (ty := (.object kc2)) (by decide) rfl rfl (d8_22 hby) (pc' := 25) rfl ?_
 intro T40 h40 X40 e40 W40
 have f41 : Fld Z h40 a0 kc0 "letter" "Ljava/lang/Character;" (.ref a4) := f39.same W40
 have K42 : Keep h0 h40 [a0] := K36.wr W40 (Or.inl (by simp))
 have N43 := Fr.snoc X40 N37 zz1
 have f44 : Exa Z h40 a0 kc0 := (f38.wr W40)
 have f45 : Fld Z h40 a0 kc0 "name" "Ljava/lang/String;" (.ref a1) := (((f23.other W28 (Or.inr (slot_ne (Or.inr (wd_46 hw)) (Or.inr (wd_48 hw)) (by decide) (t := (.object kc1)) (t' := (.object kc1)) (by decide) (by decide)))).other W34 (Or.inr (slot_ne (Or.inr (wd_46 hw)) (Or.inr (wd_50 hw)) (by decide) (t := (.object kc1)) (t' := .boolean) (by decide) (by decide)))).other W40 (Or.inr (slot_ne (Or.inr (wd_46 hw)) (Or.inr (wd_52 hw)) (by decide) (t := (.object kc1)) (t' := (.object kc2)) (by decide) (by decide))))
 have f46 : Fld Z h40 a0 kc0 "valueName" "Ljava/lang/String;" .null := ((f29.other W34 (Or.inr (slot_ne (Or.inr (wd_48 hw)) (Or.inr (wd_50 hw)) (by decide) (t := (.object kc1)) (t' := .boolean) (by decide) (by decide)))).other W40 (Or.inr (slot_ne (Or.inr (wd_48 hw)) (Or.inr (wd_52 hw)) (by decide) (t := (.object kc1)) (t' := (.object kc2)) (by decide) (by decide))))
 have f47 : Fld Z h40 a0 kc0 "required" "Z" (.int (0 : Int32)) := (f35.other W40 (Or.inr (slot_ne (Or.inr (wd_50 hw)) (Or.inr (wd_52 hw)) (by decide) (t := .boolean) (t' := (.object kc2)) (by decide) (by decide))))
 exact w_done X40 hlk (v := none) e40 (fun _ => rfl) (fun fs hr => X40.returnOut hx hret (d8_25 hby) hr) (by decide) (by decide) (⟨rfl, N43, K42, f44, f45, f46, f47, f41⟩)
theorem ef_m11_3 (m : MethodId) (a0 : Addr) (p1 : Int32)  : entryFrame m #[(.ref a0), (.int p1)] 2 = mkF m 0 #[.val (.ref a0), .val (.int p1)] [] := by first | (simp [entryFrame, mkF, argsToLocals, Value.category]; done) | rfl
def Q_m11_3 (Z : State) (a0 : Addr) (p1 : Int32) (h0 : Heap) (n0 : Nat) (v : Option Value) (h : Heap) (L : List Loc) : Prop := ∃ (r0 : Addr) (r1 : Addr), v = some (.ref r0) ∧ Fr n0 L ∧ Keep h0 h [] ∧ h0.size ≤ r0 ∧ h0.size ≤ r1 ∧ Exa Z h r0 kc0 ∧ Fld Z h r0 kc0 "name" "Ljava/lang/String;" (.ref a0) ∧ Fld Z h r0 kc0 "valueName" "Ljava/lang/String;" .null ∧ Fld Z h r0 kc0 "required" "Z" (.int (0 : Int32)) ∧ Fld Z h r0 kc0 "letter" "Ljava/lang/Character;" (.ref r1) ∧ Exa Z h r1 kc2 ∧ Fld Z h r1 kc2 "value" "C" (.int p1)
theorem rm_m11_3 (l : Launch) (Z : State) (aZ : Array Value) (hw : ∀ d ∈ tables_1, d.before aZ Z = true) (ws : List Jvm.Cond) (a0 : Addr) (p1 : Int32) (h0 : Heap) (n0 : Nat) (Z0 : n0 ≤ h0.size) (hP_0 : (127 : Int32) < p1) (zz0 : nar .char p1 = p1) :
    MetN l Z yn_11 prog_4_method_3_code 2 (some (.object kc0)) ws ({ frames := 3, cells := 2, slots := 5, locals := 43 } : Room) #[(.ref a0), (.int p1)] h0 (Q_m11_3 Z a0 p1 h0 n0) := by
 refine MetN.of (plainFor_of_name pn_2) ?_
 intro p e s m below meth c s₁ hret hx hby hml hown hnm hlk hZ X0 e0
 have N0 := Fr.nil n0
 rw [ef_m11_3 m a0 p1]
 refine w_new X0 hx hZ hown (wd_61 hw) (wd_31 hw) (wd_32 hw) e0 (d11_0 hby) (by decide) (by decide) (pc' := 3) rfl ?_
 intro T20 h20 b20 X20 e20 E20 g20 A20 D20
 have ge21 : n0 ≤ b20 := Nat.le_trans Z0 (Nat.le_of_eq g20.symm)
 have sz22 : h0.size ≤ b20 := Nat.le_trans (Nat.le_refl _) (Nat.le_of_eq g20.symm)
 have K23 : Keep h0 h20 [] := (Keep.refl h0 []).ext E20
 have f24 : Fld Z h20 b20 kc0 "name" "Ljava/lang/String;" .null := D20 (Or.inr (wd_46 hw)) (ty := (.object kc1)) (by decide)
 have f25 : Fld Z h20 b20 kc0 "valueName" "Ljava/lang/String;" .null := D20 (Or.inr (wd_48 hw)) (ty := (.object kc1)) (by decide)
 have f26 : Fld Z h20 b20 kc0 "required" "Z" (.int (0 : Int32)) := D20 (Or.inr (wd_50 hw)) (ty := .boolean) (by decide)
 have f27 : Fld Z h20 b20 kc0 "letter" "Ljava/lang/Character;" .null := D20 (Or.inr (wd_52 hw)) (ty := (.object kc2)) (by decide)
 refine w_dup X20 hx (d11_3 hby) rfl (pc' := 4) rfl ?_
 refine w_aloadN X20 hx (d11_4 hby) rfl rfl (pc' := 5) rfl ?_
 refine w_null X20 hx (d11_5 hby) (pc' := 6) rfl ?_
 refine w_iconst X20 hx (d11_6 hby) (v := (0 : Int32)) rfl (pc' := 7) rfl ?_
 refine w_iloadN X20 hx (d11_7 hby) rfl (pc' := 8) rfl ?_
 refine w_static X20 hx (y := yn_12) hown (mvT hZ (wd_62 hw)) (mvT hZ (wd_63 hw)) (mvT hZ (wd_64 hw)) (mvT hZ (wd_65 hw)) (by decide) (backOf (W := 5) (rm_m12_4 l Z aZ hw [] p1 h20 n0 (Nat.le_trans Z0 E20.1) hP_0 zz0) hZ (wd_65 hw) (wd_64 hw) (by decide) (by decide)) (by rw [hml]; rfl) [(.int p1)] (lenOf pd_2 rfl) rfl (Nat.le_of_eq rfl) (d11_8 hby) (fun _ _ => ⟨rfl, e20, (by decide : 1 + 1 ≤ _), (by decide : 4 + 1 ≤ _)⟩) (pc' := 11) rfl ?_
 rintro _ _ ⟨T28, L28, k28, n28⟩ X28 ⟨Lc28, hQ28, l28, y28, z28⟩
 dsimp only [Pt.U, Pt.locs, Pt.cells, Pt.slots] at X28 l28 y28 z28 hQ28 ⊢
 subst l28 y28 z28
 obtain ⟨r0_28, rfl, N28q, K28, g28_0, g28_1, g28_2⟩ := hQ28
 have N29 := Fr.app N0 N28q
 have K30 : Keep h0 T28.heap [] := K23.trans K28 (all0 (P := fun x => x ∈ [] ∨ h0.size ≤ x))
 have ge31 : n0 ≤ r0_28 := Nat.le_trans (Nat.le_trans Z0 E20.1) g28_0
 have sz32 : h0.size ≤ r0_28 := Nat.le_trans E20.1 g28_0
 show Runs _ _ _ _ (T28.setTop (mkF m 11 #[.val (.ref a0), .val (.int p1)] [(.ref r0_28), (.int (0 : Int32)), .null, (.ref a0), (.ref b20), (.ref b20)]))
 have f33 : Exa Z T28.heap b20 kc0 := (A20.keep K28)
 have f34 : Fld Z T28.heap b20 kc0 "name" "Ljava/lang/String;" .null := (f24.keep K28 nin0)
 have f35 : Fld Z T28.heap b20 kc0 "valueName" "Ljava/lang/String;" .null := (f25.keep K28 nin0)
 have f36 : Fld Z T28.heap b20 kc0 "required" "Z" (.int (0 : Int32)) := (f26.keep K28 nin0)
 have f37 : Fld Z T28.heap b20 kc0 "letter" "Ljava/lang/Character;" .null := (f27.keep K28 nin0)
 have le38 : h0.size ≤ T28.heap.size := (Nat.le_trans E20.1 K28.1)
 refine w_special X28 hx (y := yn_8) rfl hown (mvT hZ (wd_36 hw)) (mvT hZ (wd_37 hw)) (mvT hZ (wd_38 hw)) (by decide) (backOf (W := 1) (rm_m8_6 l Z aZ hw [] b20 a0 r0_28 T28.heap n0 (Nat.le_trans Z0 le38) f33 f34 ge21 f35 f36 f37) hZ (wd_38 hw) (wd_32 hw) (by decide) (by decide)) (by rw [hml]; rfl) [(.ref a0), .null, (.int (0 : Int32)), (.ref r0_28)] (lenOf pd_4 rfl) rfl (Nat.le_of_eq rfl) (d11_11 hby) (fun _ _ => ⟨rfl, rfl, (by decide : 2 + 0 ≤ _), (by decide : 5 + 0 ≤ _)⟩) (pc' := 14) rfl ?_
 rintro _ _ ⟨T39, L39, k39, n39⟩ X39 ⟨Lc39, hQ39, l39, y39, z39⟩
 dsimp only [Pt.U, Pt.locs, Pt.cells, Pt.slots] at X39 l39 y39 z39 hQ39 ⊢
 subst l39 y39 z39
 obtain ⟨rfl, N39q, K39, g39_0, g39_1, g39_2, g39_3, g39_4⟩ := hQ39
 have N40 := Fr.app N29 N39q
 have K41 : Keep h0 T39.heap [] := K30.trans K39 (allS (Or.inr sz22) (all0 (P := fun x => x ∈ [] ∨ h0.size ≤ x)))
 show Runs _ _ _ _ (T39.setTop (mkF m 14 #[.val (.ref a0), .val (.int p1)] [(.ref b20)]))
 have f42 : Exa Z T39.heap r0_28 kc2 := (g28_1.keep K39)
 have ne43 : b20 ≠ r0_28 := (Nat.ne_of_lt (Nat.lt_of_lt_of_le A20.lt (Nat.le_trans (Nat.le_refl _) g28_0)))
 have f44 : Fld Z T39.heap r0_28 kc2 "value" "C" (.int p1) := (g28_2.keep K39 (ninS (Ne.symm ne43) nin0))
 exact w_done X39 hlk (v := some (.ref b20)) rfl (fun h => by rw [hret] at h; cases h) (fun fs hr => retOut X39 hx hret rfl (Or.inr (Or.inr (Or.inr (Or.inr ⟨rfl, rfl, rfl⟩)))) (d11_14 hby) hr) (by decide) (by decide) (⟨b20, r0_28, rfl, N40, K41, sz22, sz32, g39_0, g39_1, g39_2, g39_3, g39_4, f42, f44⟩)
theorem ef_m10_8 (m : MethodId) (a0 : Addr)  : entryFrame m #[(.ref a0)] 1 = mkF m 0 #[.val (.ref a0)] [] := by first | (simp [entryFrame, mkF, argsToLocals, Value.category]; done) | rfl
def Q_m10_8 (Z : State) (a0 : Addr) (h0 : Heap) (n0 : Nat) (v : Option Value) (h : Heap) (L : List Loc) : Prop := v = some (.int (1 : Int32)) ∧ Fr n0 L ∧ h = h0
theorem rm_m10_8 (l : Launch) (Z : State) (aZ : Array Value) (hw : ∀ d ∈ tables_1, d.before aZ Z = true) (ws : List Jvm.Cond) (a0 : Addr) (h0 : Heap) (n0 : Nat) (Z0 : n0 ≤ h0.size) (zz0 : Fld Z h0 a0 kc0 "valueName" "Ljava/lang/String;" .null) :
    MetN l Z yn_10 prog_4_method_4_code 1 (some .boolean) ws ({ frames := 0, cells := 0, slots := 0, locals := 0 } : Room) #[(.ref a0)] h0 (Q_m10_8 Z a0 h0 n0) := by
 refine MetN.of (plainFor_of_name pn_2) ?_
 intro p e s m below meth c s₁ hret hx hby hml hown hnm hlk hZ X0 e0
 have N0 := Fr.nil n0
 rw [ef_m10_8 m a0]
 refine w_aloadN X0 hx (d10_0 hby) rfl rfl (pc' := 1) rfl ?_
 refine w_getF X0 hx "" hZ hown (Or.inl (wd_47 hw)) Via.refl e0 zz0 (d10_1 hby) (pc' := 4) rfl ?_
 intro T20 X20 e20
 refine w_ifnonnullN X20 hx (d10_4 hby) (pc' := 7) rfl ?_
 refine w_iconst X20 hx (d10_7 hby) (v := (1 : Int32)) rfl (pc' := 8) rfl ?_
 refine w_goto X20 hx (d10_8 hby) (pc' := 12) (by decide) (by decide) ?_
 exact w_done X20 hlk (v := some (.int (1 : Int32))) e20 (fun h => by rw [hret] at h; cases h) (fun fs hr => retN X20 hx (t := .boolean) hret (by simp) (d10_12 hby) hr) (by decide) (by decide) (⟨rfl, N0, rfl⟩)
theorem ef_m12_10 (m : MethodId) (p0 : Int32)  : entryFrame m #[(.int p0)] 1 = mkF m 0 #[.val (.int p0)] [] := by first | (simp [entryFrame, mkF, argsToLocals, Value.category]; done) | rfl
def Q_m12_10 (Z : State) (p0 : Int32) (jj0 : Addr) (jj1 : Cell) (h0 : Heap) (n0 : Nat) (v : Option Value) (h : Heap) (L : List Loc) : Prop := ∃ (r0 : Addr), v = some (.ref r0) ∧ Fr n0 L ∧ h = h0 ∧ Exa Z h r0 kc2 ∧ Fld Z h r0 kc2 "value" "C" (.int p0)
theorem rm_m12_10 (l : Launch) (Z : State) (aZ : Array Value) (hw : ∀ d ∈ tables_1, d.before aZ Z = true) (ws : List Jvm.Cond) (p0 : Int32) (jj0 : Addr) (jj1 : Cell) (h0 : Heap) (n0 : Nat) (Z0 : n0 ≤ h0.size) (hP_0 : ¬ ((127 : Int32) < p0)) (zz2 : Sta Z Z.heap "java/lang/Character$CharacterCache" "cache" "[Ljava/lang/Character;" (.ref jj0)) (O0 : Old Z n0 h0) (zz3 : Bxs Z jj0 jj1 kc2 "C" (128 : Int32) (fun j => .int j)) (hP_4 : ¬ (p0 < (0 : Int32))) (hP_5 : p0 < (128 : Int32)) :
    MetN l Z yn_12 jdk_89_method_3_code 1 (some (.object kc2)) ws ({ frames := 0, cells := 0, slots := 0, locals := 0 } : Room) #[(.int p0)] h0 (Q_m12_10 Z p0 jj0 jj1 h0 n0) := by
 refine MetN.of (plainFor_of_name pn_0) ?_
 intro p e s m below meth c s₁ hret hx hby hml hown hnm hlk hZ X0 e0
 have N0 := Fr.nil n0
 rw [ef_m12_10 m p0]
 refine w_iloadN X0 hx (d12_0 hby) rfl (pc' := 1) rfl ?_
 refine w_bipush X0 hx (d12_1 hby) (v := (127 : Int32)) rfl (pc' := 3) rfl ?_
 refine w_icN X0 hx (d12_3 hby) (flt hP_0).2.2.1 (pc' := 6) rfl ?_
 refine w_getS X0 hx "" hZ hown (Or.inl (wd_66 hw)) Via.refl e0 (zz2.ext O0.2) (d12_6 hby) (pc' := 9) rfl ?_
 intro T20 X20 e20
 refine w_iloadN X20 hx (d12_9 hby) rfl (pc' := 10) rfl ?_
 have hin21 : ¬ (p0 < 0 ∨ jj1.slots.size ≤ (p0).toNatClampNeg) := inb_of zz3.2.1 ⟨hP_4, hP_5⟩
 obtain ⟨b21, hb21, Eb21, Fb21⟩ := zz3.2.2.2 _ hin21
 have Ab21 := (zz3.ext O0.2).1
 refine w_aaload X20 hx hZ e20 Ab21 rfl hin21 hb21 (d12_10 hby) (pc' := 11) rfl ?_
 exact w_done X20 hlk (v := some (.ref b21)) e20 (fun h => by rw [hret] at h; cases h) (fun fs hr => retOut X20 hx hret rfl (Or.inr (Or.inr (Or.inr (Or.inr ⟨rfl, rfl, rfl⟩)))) (d12_11 hby) hr) (by decide) (by decide) (⟨b21, rfl, N0, rfl, (Eb21.ext O0.2), (Fb21.ext O0.2)⟩)
theorem ef_m11_9 (m : MethodId) (a0 : Addr) (p1 : Int32)  : entryFrame m #[(.ref a0), (.int p1)] 2 = mkF m 0 #[.val (.ref a0), .val (.int p1)] [] := by first | (simp [entryFrame, mkF, argsToLocals, Value.category]; done) | rfl
def Q_m11_9 (Z : State) (a0 : Addr) (p1 : Int32) (jj0 : Addr) (jj1 : Cell) (h0 : Heap) (n0 : Nat) (v : Option Value) (h : Heap) (L : List Loc) : Prop := ∃ (r0 : Addr) (r1 : Addr), v = some (.ref r0) ∧ Fr n0 L ∧ Keep h0 h [] ∧ h0.size ≤ r0 ∧ Exa Z h r0 kc0 ∧ Fld Z h r0 kc0 "name" "Ljava/lang/String;" (.ref a0) ∧ Fld Z h r0 kc0 "valueName" "Ljava/lang/String;" .null ∧ Fld Z h r0 kc0 "required" "Z" (.int (0 : Int32)) ∧ Fld Z h r0 kc0 "letter" "Ljava/lang/Character;" (.ref r1) ∧ Exa Z h r1 kc2 ∧ Fld Z h r1 kc2 "value" "C" (.int p1)
theorem rm_m11_9 (l : Launch) (Z : State) (aZ : Array Value) (hw : ∀ d ∈ tables_1, d.before aZ Z = true) (ws : List Jvm.Cond) (a0 : Addr) (p1 : Int32) (jj0 : Addr) (jj1 : Cell) (h0 : Heap) (n0 : Nat) (Z0 : n0 ≤ h0.size) (hP_0 : ¬ ((127 : Int32) < p1)) (hP_1 : ¬ (p1 < (0 : Int32))) (hP_2 : p1 < (128 : Int32)) (zz2 : Sta Z Z.heap "java/lang/Character$CharacterCache" "cache" "[Ljava/lang/Character;" (.ref jj0)) (O0 : Old Z n0 h0) (zz3 : Bxs Z jj0 jj1 kc2 "C" (128 : Int32) (fun j => .int j)) :
    MetN l Z yn_11 prog_4_method_3_code 2 (some (.object kc0)) ws ({ frames := 3, cells := 1, slots := 4, locals := 41 } : Room) #[(.ref a0), (.int p1)] h0 (Q_m11_9 Z a0 p1 jj0 jj1 h0 n0) := by
 refine MetN.of (plainFor_of_name pn_2) ?_
 intro p e s m below meth c s₁ hret hx hby hml hown hnm hlk hZ X0 e0
 have N0 := Fr.nil n0
 rw [ef_m11_9 m a0 p1]
 refine w_new X0 hx hZ hown (wd_61 hw) (wd_31 hw) (wd_32 hw) e0 (d11_0 hby) (by decide) (by decide) (pc' := 3) rfl ?_
 intro T20 h20 b20 X20 e20 E20 g20 A20 D20
 have ge21 : n0 ≤ b20 := Nat.le_trans Z0 (Nat.le_of_eq g20.symm)
 have sz22 : h0.size ≤ b20 := Nat.le_trans (Nat.le_refl _) (Nat.le_of_eq g20.symm)
 have K23 : Keep h0 h20 [] := (Keep.refl h0 []).ext E20
 have f24 : Fld Z h20 b20 kc0 "name" "Ljava/lang/String;" .null := D20 (Or.inr (wd_46 hw)) (ty := (.object kc1)) (by decide)
 have f25 : Fld Z h20 b20 kc0 "valueName" "Ljava/lang/String;" .null := D20 (Or.inr (wd_48 hw)) (ty := (.object kc1)) (by decide)
 have f26 : Fld Z h20 b20 kc0 "required" "Z" (.int (0 : Int32)) := D20 (Or.inr (wd_50 hw)) (ty := .boolean) (by decide)
 have f27 : Fld Z h20 b20 kc0 "letter" "Ljava/lang/Character;" .null := D20 (Or.inr (wd_52 hw)) (ty := (.object kc2)) (by decide)
 refine w_dup X20 hx (d11_3 hby) rfl (pc' := 4) rfl ?_
 refine w_aloadN X20 hx (d11_4 hby) rfl rfl (pc' := 5) rfl ?_
 refine w_null X20 hx (d11_5 hby) (pc' := 6) rfl ?_
 refine w_iconst X20 hx (d11_6 hby) (v := (0 : Int32)) rfl (pc' := 7) rfl ?_
 refine w_iloadN X20 hx (d11_7 hby) rfl (pc' := 8) rfl ?_
 have f28 : Old Z n0 h20 := (O0.ext E20)
 refine w_static X20 hx (y := yn_12) hown (mvT hZ (wd_62 hw)) (mvT hZ (wd_63 hw)) (mvT hZ (wd_64 hw)) (mvT hZ (wd_65 hw)) (by decide) (backOf (W := 5) (rm_m12_10 l Z aZ hw [] p1 jj0 jj1 h20 n0 (Nat.le_trans Z0 E20.1) hP_0 zz2 f28 zz3 hP_1 hP_2) hZ (wd_65 hw) (wd_64 hw) (by decide) (by decide)) (by rw [hml]; rfl) [(.int p1)] (lenOf pd_2 rfl) rfl (Nat.le_of_eq rfl) (d11_8 hby) (fun _ _ => ⟨rfl, e20, (by decide : 1 + 0 ≤ _), (by decide : 4 + 0 ≤ _)⟩) (pc' := 11) rfl ?_
 rintro _ _ ⟨T29, L29, k29, n29⟩ X29 ⟨Lc29, hQ29, l29, y29, z29⟩
 dsimp only [Pt.U, Pt.locs, Pt.cells, Pt.slots] at X29 l29 y29 z29 hQ29 ⊢
 subst l29 y29 z29
 obtain ⟨r0_29, rfl, N29q, e29, g29_0, g29_1⟩ := hQ29
 have N30 := Fr.app N0 N29q
 rw [e29] at g29_0 g29_1
 show Runs _ _ _ _ (T29.setTop (mkF m 11 #[.val (.ref a0), .val (.int p1)] [(.ref r0_29), (.int (0 : Int32)), .null, (.ref a0), (.ref b20), (.ref b20)]))
 refine w_special X29 hx (y := yn_8) rfl hown (mvT hZ (wd_36 hw)) (mvT hZ (wd_37 hw)) (mvT hZ (wd_38 hw)) (by decide) (backOf (W := 1) (rm_m8_6 l Z aZ hw [] b20 a0 r0_29 h20 n0 (Nat.le_trans Z0 E20.1) A20 f24 ge21 f25 f26 f27) hZ (wd_38 hw) (wd_32 hw) (by decide) (by decide)) (by rw [hml]; rfl) [(.ref a0), .null, (.int (0 : Int32)), (.ref r0_29)] (lenOf pd_4 rfl) rfl (Nat.le_of_eq rfl) (d11_11 hby) (fun _ _ => ⟨rfl, e29, (by decide : 1 + 0 ≤ _), (by decide : 4 + 0 ≤ _)⟩) (pc' := 14) rfl ?_
 rintro _ _ ⟨T31, L31, k31, n31⟩ X31 ⟨Lc31, hQ31, l31, y31, z31⟩
 dsimp only [Pt.U, Pt.locs, Pt.cells, Pt.slots] at X31 l31 y31 z31 hQ31 ⊢
 subst l31 y31 z31
 obtain ⟨rfl, N31q, K31, g31_0, g31_1, g31_2, g31_3, g31_4⟩ := hQ31
 have N32 := Fr.app N30 N31q
 have K33 : Keep h0 T31.heap [] := K23.trans K31 (allS (Or.inr sz22) (all0 (P := fun x => x ∈ [] ∨ h0.size ≤ x)))
 show Runs _ _ _ _ (T31.setTop (mkF m 14 #[.val (.ref a0), .val (.int p1)] [(.ref b20)]))
 have f34 : Exa Z T31.heap r0_29 kc2 := (g29_0.keep K31)
 have ne35 : r0_29 ≠ b20 := ne_exa f34 g31_0 (by decide)
 have f36 : Fld Z T31.heap r0_29 kc2 "value" "C" (.int p1) := (g29_1.keep K31 (ninS ne35 nin0))
 exact w_done X31 hlk (v := some (.ref b20)) rfl (fun h => by rw [hret] at h; cases h) (fun fs hr => retOut X31 hx hret rfl (Or.inr (Or.inr (Or.inr (Or.inr ⟨rfl, rfl, rfl⟩)))) (d11_14 hby) hr) (by decide) (by decide) (⟨b20, r0_29, rfl, N32, K33, sz22, g31_0, g31_1, g31_2, g31_3, g31_4, f34, f36⟩)
theorem ef_m8_12 (m : MethodId) (a0 : Addr) (a1 : Addr) (p3 : Int32)  : entryFrame m #[(.ref a0), (.ref a1), .null, (.int p3), .null] 5 = mkF m 0 #[.val (.ref a0), .val (.ref a1), .val .null, .val (.int p3), .val .null] [] := by first | (simp [entryFrame, mkF, argsToLocals, Value.category]; done) | rfl
def Q_m8_12 (Z : State) (a0 : Addr) (a1 : Addr) (p3 : Int32) (h0 : Heap) (n0 : Nat) (v : Option Value) (h : Heap) (L : List Loc) : Prop := v = none ∧ Fr n0 L ∧ Keep h0 h [a0] ∧ Exa Z h a0 kc0 ∧ Fld Z h a0 kc0 "name" "Ljava/lang/String;" (.ref a1) ∧ Fld Z h a0 kc0 "valueName" "Ljava/lang/String;" .null ∧ Fld Z h a0 kc0 "required" "Z" (.int p3) ∧ Fld Z h a0 kc0 "letter" "Ljava/lang/Character;" .null
theorem rm_m8_12 (l : Launch) (Z : State) (aZ : Array Value) (hw : ∀ d ∈ tables_1, d.before aZ Z = true) (ws : List Jvm.Cond) (a0 : Addr) (a1 : Addr) (p3 : Int32) (h0 : Heap) (n0 : Nat) (Z0 : n0 ≤ h0.size) (E_a0 : Exa Z h0 a0 kc0) (zz0 : Fld Z h0 a0 kc0 "name" "Ljava/lang/String;" .null) (zz1 : n0 ≤ a0) (zz2 : Fld Z h0 a0 kc0 "valueName" "Ljava/lang/String;" .null) (zz3 : Fld Z h0 a0 kc0 "required" "Z" (.int (0 : Int32))) (zz4 : nar .boolean p3 = p3) (zz5 : Fld Z h0 a0 kc0 "letter" "Ljava/lang/Character;" .null) :
    MetN l Z yn_8 prog_4_method_2_code 5 none ws ({ frames := 2, cells := 0, slots := 0, locals := 24 } : Room) #[(.ref a0), (.ref a1), .null, (.int p3), .null] h0 (Q_m8_12 Z a0 a1 p3 h0 n0) := by
 refine MetN.of (plainFor_of_name pn_2) ?_
 intro p e s m below meth c s₁ hret hx hby hml hown hnm hlk hZ X0 e0
 have N0 := Fr.nil n0
 rw [ef_m8_12 m a0 a1 p3]
 refine w_aloadN X0 hx (d8_0 hby) rfl rfl (pc' := 1) rfl ?_
 refine w_special X0 hx (y := yn_9) rfl hown (mvT hZ (wd_39 hw)) (mvT hZ (wd_40 hw)) (mvT hZ (wd_43 hw)) (by decide) (backOf (W := 0) (rm_m9_7 l Z aZ hw [] a0 h0 n0 Z0 ) hZ (wd_43 hw) (wd_42 hw) (by decide) (by decide)) (by rw [hml]; rfl) [] (lenOf pd_3 rfl) rfl (Nat.le_of_eq rfl) (d8_1 hby) (fun _ _ => ⟨rfl, e0, (by decide : 0 + 0 ≤ _), (by decide : 0 + 0 ≤ _)⟩) (pc' := 4) rfl ?_
 rintro _ _ ⟨T20, L20, k20, n20⟩ X20 ⟨Lc20, hQ20, l20, y20, z20⟩
 dsimp only [Pt.U, Pt.locs, Pt.cells, Pt.slots] at X20 l20 y20 z20 hQ20 ⊢
 subst l20 y20 z20
 obtain ⟨rfl, N20q, e20⟩ := hQ20
 have N21 := Fr.app N0 N20q
 show Runs _ _ _ _ (T20.setTop (mkF m 4 #[.val (.ref a0), .val (.ref a1), .val .null, .val (.int p3), .val .null] []))
 refine w_aloadN X20 hx (d8_4 hby) rfl rfl (pc' := 5) rfl ?_
 refine w_aloadN X20 hx (d8_5 hby) rfl rfl (pc' := 6) rfl ?_
 refine w_putF X20 hx "" hZ hown (Or.inl (wd_45 hw)) Via.refl e20 zz0 E_a0 (Or.inr ⟨(wd_46 hw), rfl, hnm⟩) (wd_31 hw) (ty := (.object kc1)) (by decide) rfl rfl (d8_6 hby) (pc' := 9) rfl ?_
 intro T22 h22 X22 e22 W22
 have f23 : Fld Z h22 a0 kc0 "name" "Ljava/lang/String;" (.ref a1) := zz0.same W22
 have K24 : Keep h0 h22 [a0] := (Keep.refl h0 [a0]).wr W22 (Or.inl (by simp))
 have N25 := Fr.snoc X22 N21 zz1
 refine w_aloadN X22 hx (d8_9 hby) rfl rfl (pc' := 10) rfl ?_
 refine w_aloadN X22 hx (d8_10 hby) rfl rfl (pc' := 11) rfl ?_
 have f26 : Exa Z h22 a0 kc0 := (E_a0.wr W22)
 have f27 : Fld Z h22 a0 kc0 "valueName" "Ljava/lang/String;" .null := (zz2.other W22 (Or.inr (slot_ne (Or.inr (wd_48 hw)) (Or.inr (wd_46 hw)) (by decide) (t := (.object kc1)) (t' := (.object kc1)) (by decide) (by decide))))
 refine w_putF X22 hx "" hZ hown (Or.inl (wd_47 hw)) Via.refl e22 f27 f26 (Or.inr ⟨(wd_48 hw), rfl, hnm⟩) (wd_31 hw) (ty := (.object kc1)) (by decide) rfl rfl (d8_11 hby) (pc' := 14) rfl ?_
 intro T28 h28 X28 e28 W28
 have f29 : Fld Z h28 a0 kc0 "valueName" "Ljava/lang/String;" .null := f27.same W28
 have K30 : Keep h0 h28 [a0] := K24.wr W28 (Or.inl (by simp))
 have N31 := Fr.snoc X28 N25 zz1
 refine w_aloadN X28 hx (d8_14 hby) rfl rfl (pc' := 15) rfl ?_
 refine w_iloadN X28 hx (d8_15 hby) rfl (pc' := 16) rfl ?_
 have f32 : Exa Z h28 a0 kc0 := (f26.wr W28)
 have f33 : Fld Z h28 a0 kc0 "required" "Z" (.int (0 : Int32)) := ((zz3.other W22 (Or.inr (slot_ne (Or.inr (wd_50 hw)) (Or.inr (wd_46 hw)) (by decide) (t := .boolean) (t' := (.object kc1)) (by decide) (by decide)))).other W28 (Or.inr (slot_ne (Or.inr (wd_50 hw)) (Or.inr (wd_48 hw)) (by decide) (t := .boolean) (t' := (.object kc1)) (by decide) (by decide))))
 refine w_putFN X28 hx hZ hown (wd_49 hw) Via.refl e28 f33 f32 (Or.inr ⟨(wd_50 hw), rfl, hnm⟩) (wd_31 hw) (ty := .boolean) (by decide) (v' := (.int (nar .boolean p3))) rfl (fits_nar_bool _) (d8_16 hby) (pc' := 19) rfl ?_
 intro T34 h34 X34 e34 W34
 have f35 : Fld Z h34 a0 kc0 "required" "Z" (.int (nar .boolean p3)) := f33.same W34
 have f36 : Fld Z h34 a0 kc0 "required" "Z" (.int p3) := by rw [zz4] at f35; exact f35
 have K37 : Keep h0 h34 [a0] := K30.wr W34 (Or.inl (by simp))
 have N38 := Fr.snoc X34 N31 zz1
 refine w_aloadN X34 hx (d8_19 hby) rfl rfl (pc' := 20) rfl ?_
 refine w_aload X34 hx (d8_20 hby) rfl rfl (pc' := 22) rfl ?_
 have f39 : Exa Z h34 a0 kc0 := (f32.wr W34)
 have f40 : Fld Z h34 a0 kc0 "letter" "Ljava/lang/Character;" .null := (((zz5.other W22 (Or.inr (slot_ne (Or.inr (wd_52 hw)) (Or.inr (wd_46 hw)) (by decide) (t := (.object kc2)) (t' := (.object kc1)) (by decide) (by decide)))).other W28 (Or.inr (slot_ne (Or.inr (wd_52 hw)) (Or.inr (wd_48 hw)) (by decide) (t := (.object kc2)) (t' := (.object kc1)) (by decide) (by decide)))).other W34 (Or.inr (slot_ne (Or.inr (wd_52 hw)) (Or.inr (wd_50 hw)) (by decide) (t := (.object kc2)) (t' := .boolean) (by decide) (by decide))))
 refine w_putF X34 hx "" hZ hown (Or.inl (wd_51 hw)) Via.refl e34 f40 f39 (Or.inr ⟨(wd_52 hw), rfl, hnm⟩) (wd_31 hw) (ty := (.object kc2)) (by decide) rfl rfl (d8_22 hby) (pc' := 25) rfl ?_
 intro T41 h41 X41 e41 W41
 have f42 : Fld Z h41 a0 kc0 "letter" "Ljava/lang/Character;" .null := f40.same W41
 have K43 : Keep h0 h41 [a0] := K37.wr W41 (Or.inl (by simp))
 have N44 := Fr.snoc X41 N38 zz1
 have f45 : Exa Z h41 a0 kc0 := (f39.wr W41)
 have f46 : Fld Z h41 a0 kc0 "name" "Ljava/lang/String;" (.ref a1) := (((f23.other W28 (Or.inr (slot_ne (Or.inr (wd_46 hw)) (Or.inr (wd_48 hw)) (by decide) (t := (.object kc1)) (t' := (.object kc1)) (by decide) (by decide)))).other W34 (Or.inr (slot_ne (Or.inr (wd_46 hw)) (Or.inr (wd_50 hw)) (by decide) (t := (.object kc1)) (t' := .boolean) (by decide) (by decide)))).other W41 (Or.inr (slot_ne (Or.inr (wd_46 hw)) (Or.inr (wd_52 hw)) (by decide) (t := (.object kc1)) (t' := (.object kc2)) (by decide) (by decide))))
 have f47 : Fld Z h41 a0 kc0 "valueName" "Ljava/lang/String;" .null := ((f29.other W34 (Or.inr (slot_ne (Or.inr (wd_48 hw)) (Or.inr (wd_50 hw)) (by decide) (t := (.object kc1)) (t' := .boolean) (by decide) (by decide)))).other W41 (Or.inr (slot_ne (Or.inr (wd_48 hw)) (Or.inr (wd_52 hw)) (by decide) (t := (.object kc1)) (t' := (.object kc2)) (by decide) (by decide))))
 have f48 : Fld Z h41 a0 kc0 "required" "Z" (.int p3) := (f36.other W41 (Or.inr (slot_ne (Or.inr (wd_50 hw)) (Or.inr (wd_52 hw)) (by decide) (t := .boolean) (t' := (.object kc2)) (by decide) (by decide))))
 exact w_done X41 hlk (v := none) e41 (fun _ => rfl) (fun fs hr => X41.returnOut hx hret (d8_25 hby) hr) (by decide) (by decide) (⟨rfl, N44, K43, f45, f46, f47, f48, f42⟩)
theorem ef_m7_11 (m : MethodId) (a0 : Addr) (a1 : Addr) (p3 : Int32)  : entryFrame m #[(.ref a0), (.ref a1), .null, (.int p3)] 4 = mkF m 0 #[.val (.ref a0), .val (.ref a1), .val .null, .val (.int p3)] [] := by first | (simp [entryFrame, mkF, argsToLocals, Value.category]; done) | rfl
def Q_m7_11 (Z : State) (a0 : Addr) (a1 : Addr) (p3 : Int32) (h0 : Heap) (n0 : Nat) (v : Option Value) (h : Heap) (L : List Loc) : Prop := v = none ∧ Fr n0 L ∧ Keep h0 h [a0] ∧ Exa Z h a0 kc0 ∧ Fld Z h a0 kc0 "name" "Ljava/lang/String;" (.ref a1) ∧ Fld Z h a0 kc0 "valueName" "Ljava/lang/String;" .null ∧ Fld Z h a0 kc0 "required" "Z" (.int p3) ∧ Fld Z h a0 kc0 "letter" "Ljava/lang/Character;" .null
theorem rm_m7_11 (l : Launch) (Z : State) (aZ : Array Value) (hw : ∀ d ∈ tables_1, d.before aZ Z = true) (ws : List Jvm.Cond) (a0 : Addr) (a1 : Addr) (p3 : Int32) (h0 : Heap) (n0 : Nat) (Z0 : n0 ≤ h0.size) (E_a0 : Exa Z h0 a0 kc0) (zz0 : Fld Z h0 a0 kc0 "name" "Ljava/lang/String;" .null) (zz1 : Fld Z h0 a0 kc0 "valueName" "Ljava/lang/String;" .null) (zz2 : Fld Z h0 a0 kc0 "required" "Z" (.int (0 : Int32))) (zz3 : nar .boolean p3 = p3) (zz4 : Fld Z h0 a0 kc0 "letter" "Ljava/lang/Character;" .null) (zz5 : n0 ≤ a0) :
    MetN l Z yn_7 prog_4_method_1_code 4 none ws ({ frames := 3, cells := 0, slots := 0, locals := 40 } : Room) #[(.ref a0), (.ref a1), .null, (.int p3)] h0 (Q_m7_11 Z a0 a1 p3 h0 n0) := by
 refine MetN.of (plainFor_of_name pn_2) ?_
 intro p e s m below meth c s₁ hret hx hby hml hown hnm hlk hZ X0 e0
 have N0 := Fr.nil n0
 rw [ef_m7_11 m a0 a1 p3]
 refine w_aloadN X0 hx (d7_0 hby) rfl rfl (pc' := 1) rfl ?_
 refine w_aloadN X0 hx (d7_1 hby) rfl rfl (pc' := 2) rfl ?_
 refine w_aloadN X0 hx (d7_2 hby) rfl rfl (pc' := 3) rfl ?_
 refine w_iloadN X0 hx (d7_3 hby) rfl (pc' := 4) rfl ?_
 refine w_null X0 hx (d7_4 hby) (pc' := 5) rfl ?_
 refine w_special X0 hx (y := yn_8) rfl hown (mvT hZ (wd_36 hw)) (mvT hZ (wd_37 hw)) (mvT hZ (wd_38 hw)) (by decide) (backOf (W := 0) (rm_m8_12 l Z aZ hw [] a0 a1 p3 h0 n0 Z0 E_a0 zz0 zz5 zz1 zz2 zz3 zz4) hZ (wd_38 hw) (wd_32 hw) (by decide) (by decide)) (by rw [hml]; rfl) [(.ref a1), .null, (.int p3), .null] (lenOf pd_4 rfl) rfl (Nat.le_of_eq rfl) (d7_5 hby) (fun _ _ => ⟨rfl, e0, (by decide : 0 + 0 ≤ _), (by decide : 0 + 0 ≤ _)⟩) (pc' := 8) rfl ?_
 rintro _ _ ⟨T20, L20, k20, n20⟩ X20 ⟨Lc20, hQ20, l20, y20, z20⟩
 dsimp only [Pt.U, Pt.locs, Pt.cells, Pt.slots] at X20 l20 y20 z20 hQ20 ⊢
 subst l20 y20 z20
 obtain ⟨rfl, N20q, K20, g20_0, g20_1, g20_2, g20_3, g20_4⟩ := hQ20
 have N21 := Fr.app N0 N20q
 have K22 : Keep h0 T20.heap [a0] := (Keep.refl h0 [a0]).trans K20 (allS (Or.inl (by simp)) (all0 (P := fun x => x ∈ [a0] ∨ h0.size ≤ x)))
 show Runs _ _ _ _ (T20.setTop (mkF m 8 #[.val (.ref a0), .val (.ref a1), .val .null, .val (.int p3)] []))
 exact w_done X20 hlk (v := none) rfl (fun _ => rfl) (fun fs hr => X20.returnOut hx hret (d7_8 hby) hr) (by decide) (by decide) (⟨rfl, N21, K22, g20_0, g20_1, g20_2, g20_3, g20_4⟩)
theorem ef_m2_15 (m : MethodId) (a0 : Addr) (a1 : Addr)  : entryFrame m #[(.ref a0), (.ref a1), (.int (0 : Int32)), (.int (0 : Int32)), .null] 6 = mkF m 0 #[.val (.ref a0), .val (.ref a1), .val (.int (0 : Int32)), .val (.int (0 : Int32)), .val .null, .unset] [] := by first | (simp [entryFrame, mkF, argsToLocals, Value.category]; done) | rfl
def Q_m2_15 (Z : State) (a0 : Addr) (a1 : Addr) (h0 : Heap) (n0 : Nat) (v : Option Value) (h : Heap) (L : List Loc) (S : Addr → Prop) : Prop := ∃ (r0 : Addr) (c0 : ClassId), v = none ∧ Fr n0 L ∧ Keep h0 h [a0] ∧ Arv Z h r0 c0 .byte (0 : Int32) [] (.int (0 : Int32)) ∧ Exa Z h a0 kc1 ∧ Fld Z h a0 kc1 "value" "[B" (.ref r0) ∧ Fld Z h a0 kc1 "coder" "B" (.int (0 : Int32))
theorem rm_m2_15 (l : Launch) (Z : State) (aZ : Array Value) (hw : ∀ d ∈ tables_1, d.before aZ Z = true) (ws : List Jvm.Cond) (a0 : Addr) (a1 : Addr) (h0 : Heap) (n0 : Nat) (Z0 : n0 ≤ h0.size) (E_a0 : Exa Z h0 a0 kc1) (zz0 : Fld Z h0 a0 kc1 "value" "[B" .null) (zz1 : n0 ≤ a0) (zz2 : Fld Z h0 a0 kc1 "coder" "B" (.int (0 : Int32))) :
    MetH l Z EL yn_2 jdk_42_method_149_code 6 none ws ({ frames := 1, cells := 4, slots := 8, locals := 12 } : Room) #[(.ref a0), (.ref a1), (.int (0 : Int32)), (.int (0 : Int32)), .null] h0 (Q_m2_15 Z a0 a1 h0 n0) [a0] := by
 refine MetH.of (plainFor_of_name pn_3) ?_
 intro p e s m below meth c s₁ hret hx hby hml hown hnm hlk hZ X0 e0 hh hH hsf hS0 C0
 have N0 := Fr.nil n0
 rw [ef_m2_15 m a0 a1]
 refine w_aloadN X0 hx (d2_0 hby) rfl rfl (pc' := 1) rfl ?_
 refine w_initO X0 hx 0 hZ hown (wd_11 hw) (wd_12 hw) (wd_13 hw) e0 (by rw [hml]; rfl) (d2_1 hby) (by decide) (Nat.le_of_eq rfl) (by decide) (pc' := 4) rfl ?_
 intro T20 X20 e20
 refine w_iloadN X20 hx (d2_4 hby) rfl (pc' := 5) rfl ?_
 refine w_ifN X20 hx (d2_5 hby) (teq (by decide : (0 : Int32) = (0 : Int32))).2 (pc' := 8) rfl ?_
 refine w_aloadN X20 hx (d2_8 hby) rfl rfl (pc' := 9) rfl ?_
 obtain ⟨a21, T21, h21, k21, b21, c21, X21, e21, E21, hS21, hk21, hZ21, hown21, gE21, gC21, gV21, gA21, lt21, ltb21, A21, -, ns21, st21⟩ := ldcCH X20 hx hZ hown (wd_68 hw) (own_wS hw) e20 hS0 (Nat.le_refl _) (own_EW hw) (by simp [EL]) C0.1 (vs := []) (z := (0 : Int32)) (by decide +kernel) (by decide) (by decide) (g := (mkF m 9 #[.val (.ref a0), .val (.ref a1), .val (.int (0 : Int32)), .val (.int (0 : Int32)), .val .null, .unset] [(.ref a0)])) rfl (d2_9 hby) (n := 0) (by decide +kernel) (by decide) (by decide) (by decide)
 refine Runs.by ?_ st21
 have C22 : CHr Z EL s.vm h0 T21.vm h21 := C0.trans A21
 have K23 : Keep h0 h21 [a0] := (Keep.refl h0 [a0]).ext E21
 show Runs _ _ _ _ (T21.setTop (mkF m 11 #[.val (.ref a0), .val (.ref a1), .val (.int (0 : Int32)), .val (.int (0 : Int32)), .val .null, .unset] [(.ref a21), (.ref a0)]))
 refine w_getF X21 hx "" hZ21 hown21 (Or.inl (wd_28 hw)) Via.refl e21 gV21 (d2_11 hby) (pc' := 14) rfl ?_
 intro T24 X24 e24
 have f25 : Exa Z h21 a0 kc1 := (E_a0.ext E21)
 have f26 : Fld Z h21 a0 kc1 "value" "[B" .null := (zz0.ext E21)
 refine w_putF X24 hx "" hZ21 hown21 (Or.inl (wd_28 hw)) Via.refl e24 f26 f25 (Or.inr ⟨(wd_29 hw), rfl, hnm⟩) (wd_2 hw) (ty := (.array .byte)) (by decide) rfl rfl (d2_14 hby) (pc' := 17) rfl ?_
 intro T27 h27 X27 e27 W27
 have y28 : Safe Z EL T21.vm h21 a0 := (CHr.safe A21 (Nat.lt_of_lt_of_le E_a0.lt (Nat.le_refl _)) (hsf a0 (by simp)))
 have C29 : CHr Z EL s.vm h0 T21.vm h27 := C22.trans (CHr.wr W27 y28 C22.1)
 have f30 : Fld Z h27 a0 kc1 "value" "[B" (.ref b21) := f26.same W27
 have K31 : Keep h0 h27 [a0] := K23.wr W27 (Or.inl (by simp))
 have N32 := Fr.snoc X27 N0 zz1
 refine w_aloadN X27 hx (d2_17 hby) rfl rfl (pc' := 18) rfl ?_
 obtain ⟨a33, T33, h33, k33, b33, c33, X33, e33, E33, hS33, hk33, hZ33, hown33, gE33, gC33, gV33, gA33, lt33, ltb33, A33, -, ns33, st33⟩ := ldcCH X27 hx hZ21 hown21 (wd_68 hw) (own_wS hw) e27 hS21 (Nat.le_trans hk21 (Keep.of_wr W27).1) (own_EW hw) (by simp [EL]) C29.1 (vs := []) (z := (0 : Int32)) (by decide +kernel) (by decide) (by decide) (g := (mkF m 18 #[.val (.ref a0), .val (.ref a1), .val (.int (0 : Int32)), .val (.int (0 : Int32)), .val .null, .unset] [(.ref a0)])) rfl (d2_18 hby) (n := 0) (by decide +kernel) (by decide) (by decide) (by decide)
 refine Runs.by ?_ st33
 have C34 : CHr Z EL s.vm h0 T33.vm h33 := C29.trans A33
 have K35 : Keep h0 h33 [a0] := K31.ext E33
 show Runs _ _ _ _ (T33.setTop (mkF m 20 #[.val (.ref a0), .val (.ref a1), .val (.int (0 : Int32)), .val (.int (0 : Int32)), .val .null, .unset] [(.ref a33), (.ref a0)]))
 refine w_getF X33 hx "" hZ33 hown33 (Or.inl (wd_26 hw)) Via.refl e33 gC33 (d2_20 hby) (pc' := 23) rfl ?_
 intro T36 X36 e36
 have f37 : Exa Z h33 a0 kc1 := ((f25.wr W27).ext E33)
 have f38 : Fld Z h33 a0 kc1 "coder" "B" (.int (0 : Int32)) := (((zz2.ext E21).other W27 (Or.inr (slot_ne (Or.inr (wd_27 hw)) (Or.inr (wd_29 hw)) (by decide) (t := .byte) (t' := (.array .byte)) (by decide) (by decide)))).ext E33)
 refine w_putF X36 hx "" hZ33 hown33 (Or.inl (wd_26 hw)) Via.refl e36 f38 f37 (Or.inr ⟨(wd_27 hw), rfl, hnm⟩) (wd_2 hw) (ty := .byte) (by decide) rfl rfl (d2_23 hby) (pc' := 26) rfl ?_
 intro T39 h39 X39 e39 W39
 have le40 : h0.size ≤ h27.size := (Nat.le_trans E21.1 (Keep.of_wr W27).1)
 have y41 : Safe Z EL T33.vm h33 a0 := (CHr.safe A33 (Nat.lt_of_lt_of_le E_a0.lt le40) (Safe.wr W27 y28 C22.1 y28))
 have C42 : CHr Z EL s.vm h0 T33.vm h39 := C34.trans (CHr.wr W39 y41 C34.1)
 have f43 : Fld Z h39 a0 kc1 "coder" "B" (.int (0 : Int32)) := f38.same W39
 have K44 : Keep h0 h39 [a0] := K35.wr W39 (Or.inl (by simp))
 have N45 := Fr.snoc X39 N32 zz1
 have ne46 : a0 ≠ b21 := (ns21 a0 (CHr.safe A21 (Nat.lt_of_lt_of_le E_a0.lt (Nat.le_refl _)) (hsf a0 (by simp)))).2
 have f47 : Arv Z h39 b21 c21 .byte (0 : Int32) [] (.int (0 : Int32)) := (((gA21.other W27 (Ne.symm ne46)).ext E33).other W39 (Ne.symm ne46))
 have f48 : Exa Z h39 a0 kc1 := (f37.wr W39)
 have f49 : Fld Z h39 a0 kc1 "value" "[B" (.ref b21) := ((f30.ext E33).other W39 (Or.inr (slot_ne (Or.inr (wd_29 hw)) (Or.inr (wd_27 hw)) (by decide) (t := (.array .byte)) (t' := .byte) (by decide) (by decide))))
 exact w_doneH X39 hlk (v := none) e39 hh hZ33 (own_EW hw) hS33 (Nat.le_trans hk33 (Keep.of_wr W39).1) C42 (fun _ => rfl) (fun fs hr => X39.returnOut hx hret (d2_26 hby) hr) (by decide) (by decide) (fun hsy => ⟨b21, c21, rfl, N45, K44, f47, f48, f49, f43⟩)
theorem ef_m1_14 (m : MethodId) (a0 : Addr) (a1 : Addr)  : entryFrame m #[(.ref a0), (.ref a1)] 2 = mkF m 0 #[.val (.ref a0), .val (.ref a1)] [] := by first | (simp [entryFrame, mkF, argsToLocals, Value.category]; done) | rfl
def Q_m1_14 (Z : State) (a0 : Addr) (a1 : Addr) (k_a1 : ClassId) (h0 : Heap) (n0 : Nat) (v : Option Value) (h : Heap) (L : List Loc) (S : Addr → Prop) : Prop := ∃ (r0 : Addr) (c0 : ClassId), v = none ∧ Fr n0 L ∧ Keep h0 h [a0] ∧ Arv Z h r0 c0 .byte (0 : Int32) [] (.int (0 : Int32)) ∧ Exa Z h a0 kc1 ∧ Fld Z h a0 kc1 "value" "[B" (.ref r0) ∧ Fld Z h a0 kc1 "coder" "B" (.int (0 : Int32))
theorem rm_m1_14 (l : Launch) (Z : State) (aZ : Array Value) (hw : ∀ d ∈ tables_1, d.before aZ Z = true) (ws : List Jvm.Cond) (a0 : Addr) (a1 : Addr) (k_a1 : ClassId) (h0 : Heap) (n0 : Nat) (Z0 : n0 ≤ h0.size) (V_a1 : Arv Z h0 a1 k_a1 .char (0 : Int32) [] (.int (0 : Int32))) (E_a0 : Exa Z h0 a0 kc1) (zz0 : Fld Z h0 a0 kc1 "value" "[B" .null) (zz1 : Fld Z h0 a0 kc1 "coder" "B" (.int (0 : Int32))) (zz2 : n0 ≤ a0) :
    MetH l Z EL yn_1 jdk_42_method_3_code 2 none ws ({ frames := 2, cells := 4, slots := 8, locals := 29 } : Room) #[(.ref a0), (.ref a1)] h0 (Q_m1_14 Z a0 a1 k_a1 h0 n0) [a0] := by
 refine MetH.of (plainFor_of_name pn_3) ?_
 intro p e s m below meth c s₁ hret hx hby hml hown hnm hlk hZ X0 e0 hh hH hsf hS0 C0
 have N0 := Fr.nil n0
 rw [ef_m1_14 m a0 a1]
 refine w_aloadN X0 hx (d1_0 hby) rfl rfl (pc' := 1) rfl ?_
 refine w_aloadN X0 hx (d1_1 hby) rfl rfl (pc' := 2) rfl ?_
 refine w_iconst X0 hx (d1_2 hby) (v := (0 : Int32)) rfl (pc' := 3) rfl ?_
 refine w_aloadN X0 hx (d1_3 hby) rfl rfl (pc' := 4) rfl ?_
 refine w_alen X0 hx hZ e0 V_a1 (d1_4 hby) (pc' := 5) rfl ?_
 refine w_null X0 hx (d1_5 hby) (pc' := 6) rfl ?_
 refine w_specialS X0 hx (y := yn_2) rfl hown (mvT hZ (wd_7 hw)) (mvT hZ (wd_8 hw)) (mvT hZ (wd_10 hw)) (by decide) (backOfY (W := 0) (rm_m2_15 l Z aZ hw [] a0 a1 h0 n0 Z0 E_a0 zz0 zz2 zz1) hZ (wd_10 hw) (wd_3 hw) (by decide) (by decide) (own_EW hw) C0.1 (sfS (hsf a0 (by simp)) sf0) (allS (Nat.lt_of_lt_of_le E_a0.lt (Nat.le_refl _)) all0)) (by rw [hml]; rfl) [(.ref a1), (.int (0 : Int32)), (.int (0 : Int32)), .null] (lenOf pd_8 rfl) rfl (Nat.le_of_eq rfl) (d1_6 hby) (fun _ _ => ⟨rfl, e0, (by decide : 0 + 4 ≤ _), (by decide : 0 + 8 ≤ _)⟩) (pc' := 9) rfl ?_
 rintro _ _ ⟨T20, L20, k20, n20⟩ XX20 hSS20 hg20 ⟨Lc20, hQ20, l20, y20, z20, A20⟩
 dsimp only [Pt.U, Pt.locs, Pt.cells, Pt.slots] at XX20 l20 y20 z20 hQ20 hSS20 hg20 A20 ⊢
 subst l20 y20 z20
 obtain ⟨X20, hS20, hZ20, hown20⟩ := rebS hS0 (Nat.le_refl _) XX20 hSS20 (e0 ▸ hg20) hZ hown
 obtain ⟨r0_20, c0_20, rfl, N20q, K20, g20_0, g20_1, g20_2, g20_3⟩ := hQ20
 have N21 := Fr.app N0 N20q
 have C22 : CHr Z EL s.vm h0 T20.vm T20.heap := C0.trans A20
 have K23 : Keep h0 T20.heap [a0] := (Keep.refl h0 [a0]).trans K20 (allS (Or.inl (by simp)) (all0 (P := fun x => x ∈ [a0] ∨ h0.size ≤ x)))
 show Runs _ _ _ _ (T20.setTop (mkF m 9 #[.val (.ref a0), .val (.ref a1)] []))
 exact w_doneH X20 hlk (v := none) rfl hh hZ20 (own_EW hw) hS20 (Nat.le_refl _) C22 (fun _ => rfl) (fun fs hr => X20.returnOut hx hret (d1_9 hby) hr) (by decide) (by decide) (fun hsy => ⟨r0_20, c0_20, rfl, N21, K23, g20_0, g20_1, g20_2, g20_3⟩)
theorem ef_m8_17 (m : MethodId) (a0 : Addr) (a1 : Addr) (a2 : Addr) (p3 : Int32)  : entryFrame m #[(.ref a0), (.ref a1), (.ref a2), (.int p3), .null] 5 = mkF m 0 #[.val (.ref a0), .val (.ref a1), .val (.ref a2), .val (.int p3), .val .null] [] := by first | (simp [entryFrame, mkF, argsToLocals, Value.category]; done) | rfl
def Q_m8_17 (Z : State) (a0 : Addr) (a1 : Addr) (a2 : Addr) (p3 : Int32) (h0 : Heap) (n0 : Nat) (v : Option Value) (h : Heap) (L : List Loc) : Prop := v = none ∧ Fr n0 L ∧ Keep h0 h [a0] ∧ Exa Z h a0 kc0 ∧ Fld Z h a0 kc0 "name" "Ljava/lang/String;" (.ref a1) ∧ Fld Z h a0 kc0 "valueName" "Ljava/lang/String;" (.ref a2) ∧ Fld Z h a0 kc0 "required" "Z" (.int p3) ∧ Fld Z h a0 kc0 "letter" "Ljava/lang/Character;" .null
theorem rm_m8_17 (l : Launch) (Z : State) (aZ : Array Value) (hw : ∀ d ∈ tables_1, d.before aZ Z = true) (ws : List Jvm.Cond) (a0 : Addr) (a1 : Addr) (a2 : Addr) (p3 : Int32) (h0 : Heap) (n0 : Nat) (Z0 : n0 ≤ h0.size) (E_a0 : Exa Z h0 a0 kc0) (zz0 : Fld Z h0 a0 kc0 "name" "Ljava/lang/String;" .null) (zz1 : n0 ≤ a0) (zz2 : Fld Z h0 a0 kc0 "valueName" "Ljava/lang/String;" .null) (zz3 : Fld Z h0 a0 kc0 "required" "Z" (.int (0 : Int32))) (zz4 : nar .boolean p3 = p3) (zz5 : Fld Z h0 a0 kc0 "letter" "Ljava/lang/Character;" .null) :
    MetN l Z yn_8 prog_4_method_2_code 5 none ws ({ frames := 2, cells := 0, slots := 0, locals := 24 } : Room) #[(.ref a0), (.ref a1), (.ref a2), (.int p3), .null] h0 (Q_m8_17 Z a0 a1 a2 p3 h0 n0) := by
 refine MetN.of (plainFor_of_name pn_2) ?_
 intro p e s m below meth c s₁ hret hx hby hml hown hnm hlk hZ X0 e0
 have N0 := Fr.nil n0
 rw [ef_m8_17 m a0 a1 a2 p3]
 refine w_aloadN X0 hx (d8_0 hby) rfl rfl (pc' := 1) rfl ?_
 refine w_special X0 hx (y := yn_9) rfl hown (mvT hZ (wd_39 hw)) (mvT hZ (wd_40 hw)) (mvT hZ (wd_43 hw)) (by decide) (backOf (W := 0) (rm_m9_7 l Z aZ hw [] a0 h0 n0 Z0 ) hZ (wd_43 hw) (wd_42 hw) (by decide) (by decide)) (by rw [hml]; rfl) [] (lenOf pd_3 rfl) rfl (Nat.le_of_eq rfl) (d8_1 hby) (fun _ _ => ⟨rfl, e0, (by decide : 0 + 0 ≤ _), (by decide : 0 + 0 ≤ _)⟩) (pc' := 4) rfl ?_
 rintro _ _ ⟨T20, L20, k20, n20⟩ X20 ⟨Lc20, hQ20, l20, y20, z20⟩
 dsimp only [Pt.U, Pt.locs, Pt.cells, Pt.slots] at X20 l20 y20 z20 hQ20 ⊢
 subst l20 y20 z20
 obtain ⟨rfl, N20q, e20⟩ := hQ20
 have N21 := Fr.app N0 N20q
 show Runs _ _ _ _ (T20.setTop (mkF m 4 #[.val (.ref a0), .val (.ref a1), .val (.ref a2), .val (.int p3), .val .null] []))
 refine w_aloadN X20 hx (d8_4 hby) rfl rfl (pc' := 5) rfl ?_
 refine w_aloadN X20 hx (d8_5 hby) rfl rfl (pc' := 6) rfl ?_
 refine w_putF X20 hx "" hZ hown (Or.inl (wd_45 hw)) Via.refl e20 zz0 E_a0 (Or.inr ⟨(wd_46 hw), rfl, hnm⟩) (wd_31 hw) (ty := (.object kc1)) (by decide) rfl rfl (d8_6 hby) (pc' := 9) rfl ?_
 intro T22 h22 X22 e22 W22
 have f23 : Fld Z h22 a0 kc0 "name" "Ljava/lang/String;" (.ref a1) := zz0.same W22
 have K24 : Keep h0 h22 [a0] := (Keep.refl h0 [a0]).wr W22 (Or.inl (by simp))
 have N25 := Fr.snoc X22 N21 zz1
 refine w_aloadN X22 hx (d8_9 hby) rfl rfl (pc' := 10) rfl ?_
 refine w_aloadN X22 hx (d8_10 hby) rfl rfl (pc' := 11) rfl ?_
 have f26 : Exa Z h22 a0 kc0 := (E_a0.wr W22)
 have f27 : Fld Z h22 a0 kc0 "valueName" "Ljava/lang/String;" .null := (zz2.other W22 (Or.inr (slot_ne (Or.inr (wd_48 hw)) (Or.inr (wd_46 hw)) (by decide) (t := (.object kc1)) (t' := (.object kc1)) (by decide) (by decide))))
 refine w_putF X22 hx "" hZ hown (Or.inl (wd_47 hw)) Via.refl e22 f27 f26 (Or.inr ⟨(wd_48 hw), rfl, hnm⟩) (wd_31 hw) (ty := (.object kc1)) (by decide) rfl rfl (d8_11 hby) (pc' := 14) rfl ?_
 intro T28 h28 X28 e28 W28
 have f29 : Fld Z h28 a0 kc0 "valueName" "Ljava/lang/String;" (.ref a2) := f27.same W28
 have K30 : Keep h0 h28 [a0] := K24.wr W28 (Or.inl (by simp))
 have N31 := Fr.snoc X28 N25 zz1
 refine w_aloadN X28 hx (d8_14 hby) rfl rfl (pc' := 15) rfl ?_
 refine w_iloadN X28 hx (d8_15 hby) rfl (pc' := 16) rfl ?_
 have f32 : Exa Z h28 a0 kc0 := (f26.wr W28)
 have f33 : Fld Z h28 a0 kc0 "required" "Z" (.int (0 : Int32)) := ((zz3.other W22 (Or.inr (slot_ne (Or.inr (wd_50 hw)) (Or.inr (wd_46 hw)) (by decide) (t := .boolean) (t' := (.object kc1)) (by decide) (by decide)))).other W28 (Or.inr (slot_ne (Or.inr (wd_50 hw)) (Or.inr (wd_48 hw)) (by decide) (t := .boolean) (t' := (.object kc1)) (by decide) (by decide))))
 refine w_putFN X28 hx hZ hown (wd_49 hw) Via.refl e28 f33 f32 (Or.inr ⟨(wd_50 hw), rfl, hnm⟩) (wd_31 hw) (ty := .boolean) (by decide) (v' := (.int (nar .boolean p3))) rfl (fits_nar_bool _) (d8_16 hby) (pc' := 19) rfl ?_
 intro T34 h34 X34 e34 W34
 have f35 : Fld Z h34 a0 kc0 "required" "Z" (.int (nar .boolean p3)) := f33.same W34
 have f36 : Fld Z h34 a0 kc0 "required" "Z" (.int p3) := by rw [zz4] at f35; exact f35
 have K37 : Keep h0 h34 [a0] := K30.wr W34 (Or.inl (by simp))
 have N38 := Fr.snoc X34 N31 zz1
 refine w_aloadN X34 hx (d8_19 hby) rfl rfl (pc' := 20) rfl ?_
 refine w_aload X34 hx (d8_20 hby) rfl rfl (pc' := 22) rfl ?_
 have f39 : Exa Z h34 a0 kc0 := (f32.wr W34)
 have f40 : Fld Z h34 a0 kc0 "letter" "Ljava/lang/Character;" .null := (((zz5.other W22 (Or.inr (slot_ne (Or.inr (wd_52 hw)) (Or.inr (wd_46 hw)) (by decide) (t := (.object kc2)) (t' := (.object kc1)) (by decide) (by decide)))).other W28 (Or.inr (slot_ne (Or.inr (wd_52 hw)) (Or.inr (wd_48 hw)) (by decide) (t := (.object kc2)) (t' := (.object kc1)) (by decide) (by decide)))).other W34 (Or.inr (slot_ne (Or.inr (wd_52 hw)) (Or.inr (wd_50 hw)) (by decide) (t := (.object kc2)) (t' := .boolean) (by decide) (by decide))))
 refine w_putF X34 hx "" hZ hown (Or.inl (wd_51 hw)) Via.refl e34 f40 f39 (Or.inr ⟨(wd_52 hw), rfl, hnm⟩) (wd_31 hw) (ty := (.object kc2)) (by decide) rfl rfl (d8_22 hby) (pc' := 25) rfl ?_
 intro T41 h41 X41 e41 W41
 have f42 : Fld Z h41 a0 kc0 "letter" "Ljava/lang/Character;" .null := f40.same W41
 have K43 : Keep h0 h41 [a0] := K37.wr W41 (Or.inl (by simp))
 have N44 := Fr.snoc X41 N38 zz1
 have f45 : Exa Z h41 a0 kc0 := (f39.wr W41)
 have f46 : Fld Z h41 a0 kc0 "name" "Ljava/lang/String;" (.ref a1) := (((f23.other W28 (Or.inr (slot_ne (Or.inr (wd_46 hw)) (Or.inr (wd_48 hw)) (by decide) (t := (.object kc1)) (t' := (.object kc1)) (by decide) (by decide)))).other W34 (Or.inr (slot_ne (Or.inr (wd_46 hw)) (Or.inr (wd_50 hw)) (by decide) (t := (.object kc1)) (t' := .boolean) (by decide) (by decide)))).other W41 (Or.inr (slot_ne (Or.inr (wd_46 hw)) (Or.inr (wd_52 hw)) (by decide) (t := (.object kc1)) (t' := (.object kc2)) (by decide) (by decide))))
 have f47 : Fld Z h41 a0 kc0 "valueName" "Ljava/lang/String;" (.ref a2) := ((f29.other W34 (Or.inr (slot_ne (Or.inr (wd_48 hw)) (Or.inr (wd_50 hw)) (by decide) (t := (.object kc1)) (t' := .boolean) (by decide) (by decide)))).other W41 (Or.inr (slot_ne (Or.inr (wd_48 hw)) (Or.inr (wd_52 hw)) (by decide) (t := (.object kc1)) (t' := (.object kc2)) (by decide) (by decide))))
 have f48 : Fld Z h41 a0 kc0 "required" "Z" (.int p3) := (f36.other W41 (Or.inr (slot_ne (Or.inr (wd_50 hw)) (Or.inr (wd_52 hw)) (by decide) (t := .boolean) (t' := (.object kc2)) (by decide) (by decide))))
 exact w_done X41 hlk (v := none) e41 (fun _ => rfl) (fun fs hr => X41.returnOut hx hret (d8_25 hby) hr) (by decide) (by decide) (⟨rfl, N44, K43, f45, f46, f47, f48, f42⟩)
theorem ef_m7_16 (m : MethodId) (a0 : Addr) (a1 : Addr) (a2 : Addr) (p3 : Int32)  : entryFrame m #[(.ref a0), (.ref a1), (.ref a2), (.int p3)] 4 = mkF m 0 #[.val (.ref a0), .val (.ref a1), .val (.ref a2), .val (.int p3)] [] := by first | (simp [entryFrame, mkF, argsToLocals, Value.category]; done) | rfl
def Q_m7_16 (Z : State) (a0 : Addr) (a1 : Addr) (a2 : Addr) (p3 : Int32) (h0 : Heap) (n0 : Nat) (v : Option Value) (h : Heap) (L : List Loc) : Prop := v = none ∧ Fr n0 L ∧ Keep h0 h [a0] ∧ Exa Z h a0 kc0 ∧ Fld Z h a0 kc0 "name" "Ljava/lang/String;" (.ref a1) ∧ Fld Z h a0 kc0 "valueName" "Ljava/lang/String;" (.ref a2) ∧ Fld Z h a0 kc0 "required" "Z" (.int p3) ∧ Fld Z h a0 kc0 "letter" "Ljava/lang/Character;" .null
theorem rm_m7_16 (l : Launch) (Z : State) (aZ : Array Value) (hw : ∀ d ∈ tables_1, d.before aZ Z = true) (ws : List Jvm.Cond) (a0 : Addr) (a1 : Addr) (a2 : Addr) (p3 : Int32) (h0 : Heap) (n0 : Nat) (Z0 : n0 ≤ h0.size) (E_a0 : Exa Z h0 a0 kc0) (zz0 : Fld Z h0 a0 kc0 "name" "Ljava/lang/String;" .null) (zz1 : Fld Z h0 a0 kc0 "valueName" "Ljava/lang/String;" .null) (zz2 : Fld Z h0 a0 kc0 "required" "Z" (.int (0 : Int32))) (zz3 : nar .boolean p3 = p3) (zz4 : Fld Z h0 a0 kc0 "letter" "Ljava/lang/Character;" .null) (zz5 : n0 ≤ a0) :
    MetN l Z yn_7 prog_4_method_1_code 4 none ws ({ frames := 3, cells := 0, slots := 0, locals := 40 } : Room) #[(.ref a0), (.ref a1), (.ref a2), (.int p3)] h0 (Q_m7_16 Z a0 a1 a2 p3 h0 n0) := by
 refine MetN.of (plainFor_of_name pn_2) ?_
 intro p e s m below meth c s₁ hret hx hby hml hown hnm hlk hZ X0 e0
 have N0 := Fr.nil n0
 rw [ef_m7_16 m a0 a1 a2 p3]
 refine w_aloadN X0 hx (d7_0 hby) rfl rfl (pc' := 1) rfl ?_
 refine w_aloadN X0 hx (d7_1 hby) rfl rfl (pc' := 2) rfl ?_
 refine w_aloadN X0 hx (d7_2 hby) rfl rfl (pc' := 3) rfl ?_
 refine w_iloadN X0 hx (d7_3 hby) rfl (pc' := 4) rfl ?_
 refine w_null X0 hx (d7_4 hby) (pc' := 5) rfl ?_
 refine w_special X0 hx (y := yn_8) rfl hown (mvT hZ (wd_36 hw)) (mvT hZ (wd_37 hw)) (mvT hZ (wd_38 hw)) (by decide) (backOf (W := 0) (rm_m8_17 l Z aZ hw [] a0 a1 a2 p3 h0 n0 Z0 E_a0 zz0 zz5 zz1 zz2 zz3 zz4) hZ (wd_38 hw) (wd_32 hw) (by decide) (by decide)) (by rw [hml]; rfl) [(.ref a1), (.ref a2), (.int p3), .null] (lenOf pd_4 rfl) rfl (Nat.le_of_eq rfl) (d7_5 hby) (fun _ _ => ⟨rfl, e0, (by decide : 0 + 0 ≤ _), (by decide : 0 + 0 ≤ _)⟩) (pc' := 8) rfl ?_
 rintro _ _ ⟨T20, L20, k20, n20⟩ X20 ⟨Lc20, hQ20, l20, y20, z20⟩
 dsimp only [Pt.U, Pt.locs, Pt.cells, Pt.slots] at X20 l20 y20 z20 hQ20 ⊢
 subst l20 y20 z20
 obtain ⟨rfl, N20q, K20, g20_0, g20_1, g20_2, g20_3, g20_4⟩ := hQ20
 have N21 := Fr.app N0 N20q
 have K22 : Keep h0 T20.heap [a0] := (Keep.refl h0 [a0]).trans K20 (allS (Or.inl (by simp)) (all0 (P := fun x => x ∈ [a0] ∨ h0.size ≤ x)))
 show Runs _ _ _ _ (T20.setTop (mkF m 8 #[.val (.ref a0), .val (.ref a1), .val (.ref a2), .val (.int p3)] []))
 exact w_done X20 hlk (v := none) rfl (fun _ => rfl) (fun fs hr => X20.returnOut hx hret (d7_8 hby) hr) (by decide) (by decide) (⟨rfl, N21, K22, g20_0, g20_1, g20_2, g20_3, g20_4⟩)
theorem ef_m10_18 (m : MethodId) (a0 : Addr)  : entryFrame m #[(.ref a0)] 1 = mkF m 0 #[.val (.ref a0)] [] := by first | (simp [entryFrame, mkF, argsToLocals, Value.category]; done) | rfl
def Q_m10_18 (Z : State) (a0 : Addr) (jj0 : Addr) (h0 : Heap) (n0 : Nat) (v : Option Value) (h : Heap) (L : List Loc) : Prop := v = some (.int (0 : Int32)) ∧ Fr n0 L ∧ h = h0
theorem rm_m10_18 (l : Launch) (Z : State) (aZ : Array Value) (hw : ∀ d ∈ tables_1, d.before aZ Z = true) (ws : List Jvm.Cond) (a0 : Addr) (jj0 : Addr) (h0 : Heap) (n0 : Nat) (Z0 : n0 ≤ h0.size) (zz1 : Fld Z h0 a0 kc0 "valueName" "Ljava/lang/String;" (.ref jj0)) :
    MetN l Z yn_10 prog_4_method_4_code 1 (some .boolean) ws ({ frames := 0, cells := 0, slots := 0, locals := 0 } : Room) #[(.ref a0)] h0 (Q_m10_18 Z a0 jj0 h0 n0) := by
 refine MetN.of (plainFor_of_name pn_2) ?_
 intro p e s m below meth c s₁ hret hx hby hml hown hnm hlk hZ X0 e0
 have N0 := Fr.nil n0
 rw [ef_m10_18 m a0]
 refine w_aloadN X0 hx (d10_0 hby) rfl rfl (pc' := 1) rfl ?_
 refine w_getF X0 hx "" hZ hown (Or.inl (wd_47 hw)) Via.refl e0 zz1 (d10_1 hby) (pc' := 4) rfl ?_
 intro T20 X20 e20
 refine w_ifnonnullY X20 hx (d10_4 hby) (pc' := 11) (by decide) (by decide) ?_
 refine w_iconst X20 hx (d10_11 hby) (v := (0 : Int32)) rfl (pc' := 12) rfl ?_
 exact w_done X20 hlk (v := some (.int (0 : Int32))) e20 (fun h => by rw [hret] at h; cases h) (fun fs hr => retN X20 hx (t := .boolean) hret (by simp) (d10_12 hby) hr) (by decide) (by decide) (⟨rfl, N0, rfl⟩)
theorem ef_law (m : MethodId) (p0 : Int32) (p1 : Int32) (p2 : Int32) (p3 : Int32)  : entryFrame m #[(.int p0), (.int p1), (.int p2), (.int p3)] maxLocals = mkF m 0 #[.val (.int p0), .val (.int p1), .val (.int p2), .val (.int p3), .unset, .unset, .unset, .unset, .unset, .unset, .unset] [] := by first | (simp [entryFrame, mkF, argsToLocals, Value.category, maxLocals]; done) | rfl
def Q_law (Z : State) (p0 : Int32) (p1 : Int32) (p2 : Int32) (p3 : Int32) (G_COMPACT_STRINGS : Int32) (G_cache : Addr) (bxc_G_cache : Cell) (h0 : Heap) (n0 : Nat) (v : Option Value) (h : Heap) (L : List Loc) (S : Addr → Prop) : Prop := v = some (.int (1 : Int32)) ∧ Fr n0 L
theorem rm_law (l : Launch) (Z : State) (aZ : Array Value) (hw : ∀ d ∈ tables_1, d.before aZ Z = true) (ws : List Jvm.Cond) (p0 : Int32) (p1 : Int32) (p2 : Int32) (p3 : Int32) (G_COMPACT_STRINGS : Int32) (G_cache : Addr) (bxc_G_cache : Cell) (h0 : Heap) (n0 : Nat) (Z0 : n0 ≤ h0.size) (S_COMPACT_STRINGS : Sta Z Z.heap kc1 "COMPACT_STRINGS" "Z" (.int G_COMPACT_STRINGS)) (O0 : Old Z n0 h0) (hP_2 : ¬ (G_COMPACT_STRINGS = (0 : Int32))) (S_cache : Sta Z Z.heap "java/lang/Character$CharacterCache" "cache" "[Ljava/lang/Character;" (.ref G_cache)) (BX_G_cache : Bxs Z G_cache bxc_G_cache kc2 "C" (128 : Int32) (fun j => .int j)) :
    MetH l Z EL x code maxLocals ret ws room_1 #[(.int p0), (.int p1), (.int p2), (.int p3)] h0 (Q_law Z p0 p1 p2 p3 G_COMPACT_STRINGS G_cache bxc_G_cache h0 n0) [] := by
 refine MetH.of (plainFor_of_name pn_4) ?_
 intro p e s m below meth c s₁ hret hx hby hml hown hnm hlk hZ X0 e0 hh hH hsf hS0 C0
 have N0 := Fr.nil n0
 rw [ef_law m p0 p1 p2 p3]
 refine w_iconst X0 hx (hb hby at_0) (v := (2 : Int32)) rfl (pc' := 1) rfl ?_
 refine w_newP X0 hx .char .char 2 rfl hZ (wd_0 hw) e0 (hb hby at_1) (by decide) (by decide) (by decide) (by decide) (by decide) (pc' := 3) rfl ?_
 intro T20 h20 k20 b20 X20 e20 E20 g20 A20
 have ge21 : n0 ≤ b20 := Nat.le_trans Z0 (Nat.le_of_eq g20.symm)
 have sz22 : h0.size ≤ b20 := Nat.le_trans (Nat.le_refl _) (Nat.le_of_eq g20.symm)
 have C23 : CHr Z EL s.vm h0 s.vm h20 := C0.trans (CHr.ext E20 C0.1)
 have K24 : Keep h0 h20 [] := (Keep.refl h0 []).ext E20
 have V25 : Arv Z h20 b20 k20 .char (2 : Int32) [(.int (0 : Int32)), (.int (0 : Int32))] (.int (0 : Int32)) := (Arv.new A20 (by decide)).pad (pad_rep [] (.int (0 : Int32)) 2)
 refine w_dup X20 hx (hb hby at_3) rfl (pc' := 4) rfl ?_
 refine w_iconst X20 hx (hb hby at_4) (v := (0 : Int32)) rfl (pc' := 5) rfl ?_
 refine w_iloadN X20 hx (hb hby at_5) rfl (pc' := 6) rfl ?_
 refine w_sipush X20 hx (hb hby at_6) (v := (255 : Int32)) rfl (pc' := 9) rfl ?_
 refine w_iand X20 hx (hb hby at_9) (pc' := 10) rfl ?_
 refine w_i2c X20 hx (hb hby at_10) (pc' := 11) rfl ?_
 obtain ⟨clu26, Aru26, qu26, Su26, Nu26, Hu26, Gu26⟩ := id V25
 have hinu26 := inb_of (j := (0 : Int32)) Su26 ⟨by decide, by decide⟩
 refine w_stC X20 hx hZ e20 Aru26 hinu26 (hb hby at_11) (pc' := 12) rfl ?_
 intro T27 h27 X27 e27 W27
 have C28 : CHr Z EL s.vm h0 s.vm h27 := C23.trans (CHr.wr W27 (Safe.arv hZ.alike V25 (by decide)) C23.1)
 have V29 : Arv Z h27 b20 k20 .char (2 : Int32) [(.int (nar .char ((p1 &&& (255 : Int32)).toUInt32.toUInt16.toUInt32.toInt32))), (.int (0 : Int32))] (.int (0 : Int32)) := Arv.set Aru26 qu26 Su26 Nu26 Hu26 Gu26 (fits_nar_char _) W27 0 rfl (Nat.le_of_ble_eq_true rfl)
 have V30 : Arv Z h27 b20 k20 .char (2 : Int32) [(.int ((p1 &&& (255 : Int32)).toUInt32.toUInt16.toUInt32.toInt32)), (.int (0 : Int32))] (.int (0 : Int32)) := by rw [nar_c] at V29; exact V29
 have K31 : Keep h0 h27 [] := K24.wr W27 (Or.inr sz22)
 have N32 := Fr.snoc X27 N0 ge21
 refine w_dup X27 hx (hb hby at_12) rfl (pc' := 13) rfl ?_
 refine w_iconst X27 hx (hb hby at_13) (v := (1 : Int32)) rfl (pc' := 14) rfl ?_
 refine w_iloadN X27 hx (hb hby at_14) rfl (pc' := 15) rfl ?_
 refine w_sipush X27 hx (hb hby at_15) (v := (255 : Int32)) rfl (pc' := 18) rfl ?_
 refine w_iand X27 hx (hb hby at_18) (pc' := 19) rfl ?_
 refine w_i2c X27 hx (hb hby at_19) (pc' := 20) rfl ?_
 obtain ⟨clu33, Aru33, qu33, Su33, Nu33, Hu33, Gu33⟩ := id V30
 have hinu33 := inb_of (j := (1 : Int32)) Su33 ⟨by decide, by decide⟩
 refine w_stC X27 hx hZ e27 Aru33 hinu33 (hb hby at_20) (pc' := 21) rfl ?_
 intro T34 h34 X34 e34 W34
 have C35 : CHr Z EL s.vm h0 s.vm h34 := C28.trans (CHr.wr W34 (Safe.arv hZ.alike V30 (by decide)) C28.1)
 have V36 : Arv Z h34 b20 k20 .char (2 : Int32) [(.int ((p1 &&& (255 : Int32)).toUInt32.toUInt16.toUInt32.toInt32)), (.int (nar .char ((p2 &&& (255 : Int32)).toUInt32.toUInt16.toUInt32.toInt32)))] (.int (0 : Int32)) := Arv.set Aru33 qu33 Su33 Nu33 Hu33 Gu33 (fits_nar_char _) W34 1 rfl (Nat.le_of_ble_eq_true rfl)
 have V37 : Arv Z h34 b20 k20 .char (2 : Int32) [(.int ((p1 &&& (255 : Int32)).toUInt32.toUInt16.toUInt32.toInt32)), (.int ((p2 &&& (255 : Int32)).toUInt32.toUInt16.toUInt32.toInt32))] (.int (0 : Int32)) := by rw [nar_c] at V36; exact V36
 have K38 : Keep h0 h34 [] := K31.wr W34 (Or.inr sz22)
 have N39 := Fr.snoc X34 N32 ge21
 refine w_astore X34 hx (hb hby at_21) rfl (L' := #[.val (.int p0), .val (.int p1), .val (.int p2), .val (.int p3), .val (.ref b20), .unset, .unset, .unset, .unset, .unset, .unset]) rfl (pc' := 23) rfl ?_
 refine w_new X34 hx hZ hown (wd_1 hw) (wd_2 hw) (wd_3 hw) e34 (hb hby at_23) (by decide) (by decide) (pc' := 26) rfl ?_
 intro T40 h40 b40 X40 e40 E40 g40 A40 D40
 have le42 : h0.size ≤ h27.size := (Nat.le_trans E20.1 (Keep.of_wr W27).1)
 have le43 : h0.size ≤ h34.size := (Nat.le_trans le42 (Keep.of_wr W34).1)
 have ge41 : n0 ≤ b40 := Nat.le_trans (Nat.le_trans Z0 le43) (Nat.le_of_eq g40.symm)
 have sz44 : h0.size ≤ b40 := Nat.le_trans le43 (Nat.le_of_eq g40.symm)
 have C45 : CHr Z EL s.vm h0 s.vm h40 := C35.trans (CHr.ext E40 C35.1)
 have K46 : Keep h0 h40 [] := K38.ext E40
 have f47 : Fld Z h40 b40 kc1 "coder" "B" (.int (0 : Int32)) := D40 (Or.inr (wd_27 hw)) (ty := .byte) (by decide)
 have f48 : Fld Z h40 b40 kc1 "value" "[B" .null := D40 (Or.inr (wd_29 hw)) (ty := (.array .byte)) (by decide)
 refine w_dup X40 hx (hb hby at_26) rfl (pc' := 27) rfl ?_
 refine w_aload X40 hx (hb hby at_27) rfl rfl (pc' := 29) rfl ?_
 have le49 : h0.size ≤ h40.size := (Nat.le_trans le43 E40.1)
 have f51 : Arv Z h40 b20 k20 .char (2 : Int32) [(.int ((p1 &&& (255 : Int32)).toUInt32.toUInt16.toUInt32.toInt32)), (.int ((p2 &&& (255 : Int32)).toUInt32.toUInt16.toUInt32.toInt32))] (.int (0 : Int32)) := (V37.ext E40)
 have f52 : Old Z n0 h40 := ((((O0.ext E20).wr W27 ge21).wr W34 ge21).ext E40)
 refine w_special X40 hx (y := yn_1) rfl hown (mvT hZ (wd_4 hw)) (mvT hZ (wd_5 hw)) (mvT hZ (wd_6 hw)) (by decide) (StrChars.Road.backV (W := 1) hZ (own_hws hw) (kI := 4) (wd_2 hw) (cs := ([((p1 &&& (255 : Int32)).toUInt32.toUInt16.toUInt32.toInt32), ((p2 &&& (255 : Int32)).toUInt32.toUInt16.toUInt32.toInt32)] : List Int32)) (bs := ([((p1 &&& (255 : Int32)).toUInt32.toUInt16.toUInt32.toInt32), ((p2 &&& (255 : Int32)).toUInt32.toUInt16.toUInt32.toInt32)] : List Int32).map (fun c => c.toInt8.toInt32)) (n := 2) ge41 (Nat.le_trans Z0 le49) A40 f48 f47 f51 (S_COMPACT_STRINGS.ext f52.2) hP_2 rfl rfl (by decide) (by decide) (List.forall_mem_cons.2 ⟨(own_and255 p1), (List.forall_mem_cons.2 ⟨(own_and255 p2), (fun _ h => nomatch h)⟩)⟩) rfl (by decide) (by decide)) (by rw [hml]; rfl) [(.ref b20)] (lenOf pd_0 rfl) rfl (Nat.le_of_eq rfl) (hb hby at_29) (fun _ _ => ⟨rfl, e40, (by decide : 2 + 1 ≤ _), (by decide : 6 + 2 ≤ _)⟩) (pc' := 32) rfl ?_
 rintro _ _ ⟨T50, L50, k50, n50⟩ X50 ⟨Lc50, hQ50, l50, y50, z50⟩
 dsimp only [Pt.U, Pt.locs, Pt.cells, Pt.slots] at X50 l50 y50 z50 hQ50 ⊢
 subst l50 y50 z50
 obtain ⟨rfl, N50q, K50, g50_0, g50_1, t_50, kb_50, g50_2, g50_3, g50_4, g50_5, g50_6⟩ := hQ50
 have N53 := Fr.app N39 N50q
 have y54 : Safe Z EL s.vm h40 b40 := (Safe.ext E40 C35.1 (Safe.new (Nat.le_of_eq g40.symm)))
 have C55 : CHr Z EL s.vm h0 s.vm T50.heap := C45.trans (CHr.keep K50 (sfS y54 sf0) C45.1)
 have K56 : Keep h0 T50.heap [] := K46.trans K50 (allS (Or.inr sz44) (all0 (P := fun x => x ∈ [] ∨ h0.size ≤ x)))
 have ge57 : n0 ≤ t_50 := Nat.le_trans (Nat.le_trans Z0 le49) g50_3
 have sz58 : h0.size ≤ t_50 := Nat.le_trans le49 g50_3
 show Runs _ _ _ _ (T50.setTop (mkF m 32 #[.val (.int p0), .val (.int p1), .val (.int p2), .val (.int p3), .val (.ref b20), .unset, .unset, .unset, .unset, .unset, .unset] [(.ref b40)]))
 refine w_astore X50 hx (hb hby at_32) rfl (L' := #[.val (.int p0), .val (.int p1), .val (.int p2), .val (.int p3), .val (.ref b20), .val (.ref b40), .unset, .unset, .unset, .unset, .unset]) rfl (pc' := 34) rfl ?_
 refine w_iloadN X50 hx (hb hby at_34) rfl (pc' := 35) rfl ?_
 refine w_iconst X50 hx (hb hby at_35) (v := (1 : Int32)) rfl (pc' := 36) rfl ?_
 refine w_iand X50 hx (hb hby at_36) (pc' := 37) rfl ?_
 suffices key60 : Runs p e below (EndH s Z EL (Q_law Z p0 p1 p2 p3 G_COMPACT_STRINGS G_cache bxc_G_cache h0 n0) room_1.cells room_1.slots) (T50.setTop (mkF m 45 #[.val (.int p0), .val (.int p1), .val (.int p2), .val (.int p3), .val (.ref b20), .val (.ref b40), .unset, .unset, .unset, .unset, .unset] [(.int (if (p3 &&& (1 : Int32)) = (0 : Int32) then (0 : Int32) else (1 : Int32)))])) by
  by_cases hc59 : (p3 &&& (1 : Int32)) = (0 : Int32)
  · rw [if_pos hc59] at key60
    refine w_ifY X50 hx (hb hby at_37) (teq hc59).1 (pc' := 44) (by decide) (by decide) ?_
    refine w_iconst X50 hx (hb hby at_44) (v := (0 : Int32)) rfl (pc' := 45) rfl ?_
    exact key60
  · rw [if_neg hc59] at key60
    refine w_ifN X50 hx (hb hby at_37) (feq hc59).1 (pc' := 40) rfl ?_
    refine w_iconst X50 hx (hb hby at_40) (v := (1 : Int32)) rfl (pc' := 41) rfl ?_
    refine w_goto X50 hx (hb hby at_41) (pc' := 45) (by decide) (by decide) ?_
    exact key60
 refine w_istore X50 hx (hb hby at_45) (L' := #[.val (.int p0), .val (.int p1), .val (.int p2), .val (.int p3), .val (.ref b20), .val (.ref b40), .val (.int (if (p3 &&& (1 : Int32)) = (0 : Int32) then (0 : Int32) else (1 : Int32))), .unset, .unset, .unset, .unset]) rfl (pc' := 47) rfl ?_
 refine w_iloadN X50 hx (hb hby at_47) rfl (pc' := 48) rfl ?_
 refine w_iconst X50 hx (hb hby at_48) (v := (3 : Int32)) rfl (pc' := 49) rfl ?_
 refine w_iand X50 hx (hb hby at_49) (pc' := 50) rfl ?_
 refine w_istore X50 hx (hb hby at_50) (L' := #[.val (.int p0), .val (.int p1), .val (.int p2), .val (.int p3), .val (.ref b20), .val (.ref b40), .val (.int (if (p3 &&& (1 : Int32)) = (0 : Int32) then (0 : Int32) else (1 : Int32))), .val (.int (p0 &&& (3 : Int32))), .unset, .unset, .unset]) rfl (pc' := 52) rfl ?_
 refine w_iload X50 hx (hb hby at_52) rfl (pc' := 54) rfl ?_
 refine w_iconst X50 hx (hb hby at_54) (v := (3 : Int32)) rfl (pc' := 55) rfl ?_
 by_cases hc61 : (p0 &&& (3 : Int32)) = (3 : Int32)
 · refine w_icN X50 hx (hb hby at_55) (teq hc61).2 (pc' := 58) rfl ?_
   refine w_aload X50 hx (hb hby at_58) rfl rfl (pc' := 60) rfl ?_
   refine w_iloadN X50 hx (hb hby at_60) rfl (pc' := 61) rfl ?_
   refine w_iconst X50 hx (hb hby at_61) (v := (1 : Int32)) rfl (pc' := 62) rfl ?_
   refine w_iushr X50 hx (hb hby at_62) (pc' := 63) rfl ?_
   refine w_sipush X50 hx (hb hby at_63) (v := (255 : Int32)) rfl (pc' := 66) rfl ?_
   refine w_iand X50 hx (hb hby at_66) (pc' := 67) rfl ?_
   refine w_i2c X50 hx (hb hby at_67) (pc' := 68) rfl ?_
   by_cases hc62 : (127 : Int32) < ((((p3.toUInt32 >>> ((1 : Int32) &&& 31).toUInt32).toInt32) &&& (255 : Int32)).toUInt32.toUInt16.toUInt32.toInt32)
   · have le63 : h0.size ≤ T50.heap.size := (Nat.le_trans le49 K50.1)
     refine w_static X50 hx (y := yn_11) hown (mvT hZ (wd_58 hw)) (mvT hZ (wd_59 hw)) (mvT hZ (wd_32 hw)) (mvT hZ (wd_60 hw)) (by decide) (backOf (W := 0) (rm_m11_3 l Z aZ hw [] b40 ((((p3.toUInt32 >>> ((1 : Int32) &&& 31).toUInt32).toInt32) &&& (255 : Int32)).toUInt32.toUInt16.toUInt32.toInt32) T50.heap n0 (Nat.le_trans Z0 le63) hc62 (nar_c _)) hZ (wd_60 hw) (wd_32 hw) (by decide) (by decide)) (by rw [hml]; rfl) [(.ref b40), (.int ((((p3.toUInt32 >>> ((1 : Int32) &&& 31).toUInt32).toInt32) &&& (255 : Int32)).toUInt32.toUInt16.toUInt32.toInt32))] (lenOf pd_5 rfl) rfl (Nat.le_of_eq rfl) (hb hby at_68) (fun _ _ => ⟨rfl, rfl, (by decide : 3 + 2 ≤ _), (by decide : 8 + 5 ≤ _)⟩) (pc' := 71) rfl ?_
     rintro _ _ ⟨T64, L64, k64, n64⟩ X64 ⟨Lc64, hQ64, l64, y64, z64⟩
     dsimp only [Pt.U, Pt.locs, Pt.cells, Pt.slots] at X64 l64 y64 z64 hQ64 ⊢
     subst l64 y64 z64
     obtain ⟨r0_64, r1_64, rfl, N64q, K64, g64_0, g64_1, g64_2, g64_3, g64_4, g64_5, g64_6, g64_7, g64_8⟩ := hQ64
     have N65 := Fr.app N53 N64q
     have C66 : CHr Z EL s.vm h0 s.vm T64.heap := C55.trans (CHr.keep K64 sf0 C55.1)
     have K67 : Keep h0 T64.heap [] := K56.trans K64 (all0 (P := fun x => x ∈ [] ∨ h0.size ≤ x))
     have ge68 : n0 ≤ r0_64 := Nat.le_trans (Nat.le_trans Z0 le63) g64_0
     have sz69 : h0.size ≤ r0_64 := Nat.le_trans le63 g64_0
     have ge70 : n0 ≤ r1_64 := Nat.le_trans (Nat.le_trans Z0 le63) g64_1
     have sz71 : h0.size ≤ r1_64 := Nat.le_trans le63 g64_1
     show Runs _ _ _ _ (T64.setTop (mkF m 71 #[.val (.int p0), .val (.int p1), .val (.int p2), .val (.int p3), .val (.ref b20), .val (.ref b40), .val (.int (if (p3 &&& (1 : Int32)) = (0 : Int32) then (0 : Int32) else (1 : Int32))), .val (.int (p0 &&& (3 : Int32))), .unset, .unset, .unset] [(.ref r0_64)]))
     refine w_astore X64 hx (hb hby at_71) rfl (L' := #[.val (.int p0), .val (.int p1), .val (.int p2), .val (.int p3), .val (.ref b20), .val (.ref b40), .val (.int (if (p3 &&& (1 : Int32)) = (0 : Int32) then (0 : Int32) else (1 : Int32))), .val (.int (p0 &&& (3 : Int32))), .val (.ref r0_64), .unset, .unset]) rfl (pc' := 73) rfl ?_
     refine w_aload X64 hx (hb hby at_73) rfl rfl (pc' := 75) rfl ?_
     have le72 : h0.size ≤ T64.heap.size := (Nat.le_trans le63 K64.1)
     obtain ⟨cq73, kq73, q73a, q73b, q73c⟩ := isOf hZ rfl g64_2
     refine w_virtual X64 hx (y := yn_10) (z := yn_10) hown (mvT hZ (wd_53 hw)) (mvT hZ (wd_54 hw)) (notFace_of_selects (args := #[]) (mvT hZ (wd_56 hw))) (mvT hZ (wd_56 hw)) (mvT hZ (wd_55 hw)) (by decide) (backOf (W := 0) (rm_m10_8 l Z aZ hw [] r0_64 T64.heap n0 (Nat.le_trans Z0 le72) g64_4) hZ (wd_57 hw) (wd_32 hw) (by decide) (by decide)) q73a q73c (by rw [hml]; rfl) [] (lenOf pd_6 rfl) rfl (Nat.le_of_eq rfl) (hb hby at_75) (fun _ _ => ⟨rfl, rfl, (by decide : 5 + 0 ≤ _), (by decide : 13 + 0 ≤ _)⟩) (pc' := 78) rfl ?_
     rintro _ _ ⟨T73, L73, k73, n73⟩ X73 ⟨Lc73, hQ73, l73, y73, z73⟩
     dsimp only [Pt.U, Pt.locs, Pt.cells, Pt.slots] at X73 l73 y73 z73 hQ73 ⊢
     subst l73 y73 z73
     obtain ⟨rfl, N73q, e73⟩ := hQ73
     have N74 := Fr.app N65 N73q
     show Runs _ _ _ _ (T73.setTop (mkF m 78 #[.val (.int p0), .val (.int p1), .val (.int p2), .val (.int p3), .val (.ref b20), .val (.ref b40), .val (.int (if (p3 &&& (1 : Int32)) = (0 : Int32) then (0 : Int32) else (1 : Int32))), .val (.int (p0 &&& (3 : Int32))), .val (.ref r0_64), .unset, .unset] [(.int (1 : Int32))]))
     exact w_doneH X73 hlk (v := some (.int (1 : Int32))) e73 hh hZ (own_EW hw) hS0 (Nat.le_trans (Nat.le_refl _) le72) C66 (fun h => by rw [hret] at h; cases h) (fun fs hr => retN X73 hx (t := .boolean) hret (by simp) (hb hby at_78) hr) (by decide) (by decide) (fun hsy => ⟨rfl, N74⟩)
   · have f75 : Old Z n0 T50.heap := (f52.keep K50 (allS ge41 all0))
     have le76 : h0.size ≤ T50.heap.size := (Nat.le_trans le49 K50.1)
     refine w_static X50 hx (y := yn_11) hown (mvT hZ (wd_58 hw)) (mvT hZ (wd_59 hw)) (mvT hZ (wd_32 hw)) (mvT hZ (wd_60 hw)) (by decide) (backOf (W := 0) (rm_m11_9 l Z aZ hw [] b40 ((((p3.toUInt32 >>> ((1 : Int32) &&& 31).toUInt32).toInt32) &&& (255 : Int32)).toUInt32.toUInt16.toUInt32.toInt32) G_cache bxc_G_cache T50.heap n0 (Nat.le_trans Z0 le76) hc62 (own_and255 ((p3.toUInt32 >>> ((1 : Int32) &&& 31).toUInt32).toInt32)).1 (own_le127 hc62) S_cache f75 BX_G_cache) hZ (wd_60 hw) (wd_32 hw) (by decide) (by decide)) (by rw [hml]; rfl) [(.ref b40), (.int ((((p3.toUInt32 >>> ((1 : Int32) &&& 31).toUInt32).toInt32) &&& (255 : Int32)).toUInt32.toUInt16.toUInt32.toInt32))] (lenOf pd_5 rfl) rfl (Nat.le_of_eq rfl) (hb hby at_68) (fun _ _ => ⟨rfl, rfl, (by decide : 3 + 1 ≤ _), (by decide : 8 + 4 ≤ _)⟩) (pc' := 71) rfl ?_
     rintro _ _ ⟨T77, L77, k77, n77⟩ X77 ⟨Lc77, hQ77, l77, y77, z77⟩
     dsimp only [Pt.U, Pt.locs, Pt.cells, Pt.slots] at X77 l77 y77 z77 hQ77 ⊢
     subst l77 y77 z77
     obtain ⟨r0_77, r1_77, rfl, N77q, K77, g77_0, g77_1, g77_2, g77_3, g77_4, g77_5, g77_6, g77_7⟩ := hQ77
     have N78 := Fr.app N53 N77q
     have C79 : CHr Z EL s.vm h0 s.vm T77.heap := C55.trans (CHr.keep K77 sf0 C55.1)
     have K80 : Keep h0 T77.heap [] := K56.trans K77 (all0 (P := fun x => x ∈ [] ∨ h0.size ≤ x))
     have ge81 : n0 ≤ r0_77 := Nat.le_trans (Nat.le_trans Z0 le76) g77_0
     have sz82 : h0.size ≤ r0_77 := Nat.le_trans le76 g77_0
     show Runs _ _ _ _ (T77.setTop (mkF m 71 #[.val (.int p0), .val (.int p1), .val (.int p2), .val (.int p3), .val (.ref b20), .val (.ref b40), .val (.int (if (p3 &&& (1 : Int32)) = (0 : Int32) then (0 : Int32) else (1 : Int32))), .val (.int (p0 &&& (3 : Int32))), .unset, .unset, .unset] [(.ref r0_77)]))
     refine w_astore X77 hx (hb hby at_71) rfl (L' := #[.val (.int p0), .val (.int p1), .val (.int p2), .val (.int p3), .val (.ref b20), .val (.ref b40), .val (.int (if (p3 &&& (1 : Int32)) = (0 : Int32) then (0 : Int32) else (1 : Int32))), .val (.int (p0 &&& (3 : Int32))), .val (.ref r0_77), .unset, .unset]) rfl (pc' := 73) rfl ?_
     refine w_aload X77 hx (hb hby at_73) rfl rfl (pc' := 75) rfl ?_
     have le83 : h0.size ≤ T77.heap.size := (Nat.le_trans le76 K77.1)
     obtain ⟨cq84, kq84, q84a, q84b, q84c⟩ := isOf hZ rfl g77_1
     refine w_virtual X77 hx (y := yn_10) (z := yn_10) hown (mvT hZ (wd_53 hw)) (mvT hZ (wd_54 hw)) (notFace_of_selects (args := #[]) (mvT hZ (wd_56 hw))) (mvT hZ (wd_56 hw)) (mvT hZ (wd_55 hw)) (by decide) (backOf (W := 0) (rm_m10_8 l Z aZ hw [] r0_77 T77.heap n0 (Nat.le_trans Z0 le83) g77_3) hZ (wd_57 hw) (wd_32 hw) (by decide) (by decide)) q84a q84c (by rw [hml]; rfl) [] (lenOf pd_6 rfl) rfl (Nat.le_of_eq rfl) (hb hby at_75) (fun _ _ => ⟨rfl, rfl, (by decide : 4 + 0 ≤ _), (by decide : 12 + 0 ≤ _)⟩) (pc' := 78) rfl ?_
     rintro _ _ ⟨T84, L84, k84, n84⟩ X84 ⟨Lc84, hQ84, l84, y84, z84⟩
     dsimp only [Pt.U, Pt.locs, Pt.cells, Pt.slots] at X84 l84 y84 z84 hQ84 ⊢
     subst l84 y84 z84
     obtain ⟨rfl, N84q, e84⟩ := hQ84
     have N85 := Fr.app N78 N84q
     show Runs _ _ _ _ (T84.setTop (mkF m 78 #[.val (.int p0), .val (.int p1), .val (.int p2), .val (.int p3), .val (.ref b20), .val (.ref b40), .val (.int (if (p3 &&& (1 : Int32)) = (0 : Int32) then (0 : Int32) else (1 : Int32))), .val (.int (p0 &&& (3 : Int32))), .val (.ref r0_77), .unset, .unset] [(.int (1 : Int32))]))
     exact w_doneH X84 hlk (v := some (.int (1 : Int32))) e84 hh hZ (own_EW hw) hS0 (Nat.le_trans (Nat.le_refl _) le83) C79 (fun h => by rw [hret] at h; cases h) (fun fs hr => retN X84 hx (t := .boolean) hret (by simp) (hb hby at_78) hr) (by decide) (by decide) (fun hsy => ⟨rfl, N85⟩)
 · refine w_icY X50 hx (hb hby at_55) (feq hc61).2 (pc' := 79) (by decide) (by decide) ?_
   refine w_iload X50 hx (hb hby at_79) rfl (pc' := 81) rfl ?_
   by_cases hc86 : (p0 &&& (3 : Int32)) = (0 : Int32)
   · refine w_ifN X50 hx (hb hby at_81) (teq hc86).2 (pc' := 84) rfl ?_
     refine w_null X50 hx (hb hby at_84) (pc' := 85) rfl ?_
     refine w_astore X50 hx (hb hby at_85) rfl (L' := #[.val (.int p0), .val (.int p1), .val (.int p2), .val (.int p3), .val (.ref b20), .val (.ref b40), .val (.int (if (p3 &&& (1 : Int32)) = (0 : Int32) then (0 : Int32) else (1 : Int32))), .val (.int (p0 &&& (3 : Int32))), .val .null, .unset, .unset]) rfl (pc' := 87) rfl ?_
     refine w_goto X50 hx (hb hby at_87) (pc' := 151) (by decide) (by decide) ?_
     refine w_new X50 hx hZ hown (wd_30 hw) (wd_31 hw) (wd_32 hw) rfl (hb hby at_151) (by decide) (by decide) (pc' := 154) rfl ?_
     intro T87 h87 b87 X87 e87 E87 g87 A87 D87
     have le89 : h0.size ≤ T50.heap.size := (Nat.le_trans le49 K50.1)
     have ge88 : n0 ≤ b87 := Nat.le_trans (Nat.le_trans Z0 le89) (Nat.le_of_eq g87.symm)
     have sz90 : h0.size ≤ b87 := Nat.le_trans le89 (Nat.le_of_eq g87.symm)
     have C91 : CHr Z EL s.vm h0 s.vm h87 := C55.trans (CHr.ext E87 C55.1)
     have K92 : Keep h0 h87 [] := K56.ext E87
     have f93 : Fld Z h87 b87 kc0 "name" "Ljava/lang/String;" .null := D87 (Or.inr (wd_46 hw)) (ty := (.object kc1)) (by decide)
     have f94 : Fld Z h87 b87 kc0 "valueName" "Ljava/lang/String;" .null := D87 (Or.inr (wd_48 hw)) (ty := (.object kc1)) (by decide)
     have f95 : Fld Z h87 b87 kc0 "required" "Z" (.int (0 : Int32)) := D87 (Or.inr (wd_50 hw)) (ty := .boolean) (by decide)
     have f96 : Fld Z h87 b87 kc0 "letter" "Ljava/lang/Character;" .null := D87 (Or.inr (wd_52 hw)) (ty := (.object kc2)) (by decide)
     refine w_dup X87 hx (hb hby at_154) rfl (pc' := 155) rfl ?_
     refine w_aload X87 hx (hb hby at_155) rfl rfl (pc' := 157) rfl ?_
     refine w_aload X87 hx (hb hby at_157) rfl rfl (pc' := 159) rfl ?_
     refine w_iload X87 hx (hb hby at_159) rfl (pc' := 161) rfl ?_
     have le97 : h0.size ≤ h87.size := (Nat.le_trans le89 E87.1)
     refine w_special X87 hx (y := yn_7) rfl hown (mvT hZ (wd_33 hw)) (mvT hZ (wd_34 hw)) (mvT hZ (wd_35 hw)) (by decide) (backOf (W := 1) (rm_m7_11 l Z aZ hw [] b87 b40 (if (p3 &&& (1 : Int32)) = (0 : Int32) then (0 : Int32) else (1 : Int32)) h87 n0 (Nat.le_trans Z0 le97) A87 f93 f94 f95 nar_ite' f96 ge88) hZ (wd_35 hw) (wd_32 hw) (by decide) (by decide)) (by rw [hml]; rfl) [(.ref b40), .null, (.int (if (p3 &&& (1 : Int32)) = (0 : Int32) then (0 : Int32) else (1 : Int32)))] (lenOf pd_7 rfl) rfl (Nat.le_of_eq rfl) (hb hby at_161) (fun _ _ => ⟨rfl, e87, (by decide : 4 + 0 ≤ _), (by decide : 12 + 0 ≤ _)⟩) (pc' := 164) rfl ?_
     rintro _ _ ⟨T98, L98, k98, n98⟩ X98 ⟨Lc98, hQ98, l98, y98, z98⟩
     dsimp only [Pt.U, Pt.locs, Pt.cells, Pt.slots] at X98 l98 y98 z98 hQ98 ⊢
     subst l98 y98 z98
     obtain ⟨rfl, N98q, K98, g98_0, g98_1, g98_2, g98_3, g98_4⟩ := hQ98
     have N99 := Fr.app N53 N98q
     have C100 : CHr Z EL s.vm h0 s.vm T98.heap := C91.trans (CHr.keep K98 (sfS (Safe.exa hZ.alike A87 (by decide) (by decide)) sf0) C91.1)
     have K101 : Keep h0 T98.heap [] := K92.trans K98 (allS (Or.inr sz90) (all0 (P := fun x => x ∈ [] ∨ h0.size ≤ x)))
     show Runs _ _ _ _ (T98.setTop (mkF m 164 #[.val (.int p0), .val (.int p1), .val (.int p2), .val (.int p3), .val (.ref b20), .val (.ref b40), .val (.int (if (p3 &&& (1 : Int32)) = (0 : Int32) then (0 : Int32) else (1 : Int32))), .val (.int (p0 &&& (3 : Int32))), .val .null, .unset, .unset] [(.ref b87)]))
     refine w_astore X98 hx (hb hby at_164) rfl (L' := #[.val (.int p0), .val (.int p1), .val (.int p2), .val (.int p3), .val (.ref b20), .val (.ref b40), .val (.int (if (p3 &&& (1 : Int32)) = (0 : Int32) then (0 : Int32) else (1 : Int32))), .val (.int (p0 &&& (3 : Int32))), .val .null, .val (.ref b87), .unset]) rfl (pc' := 166) rfl ?_
     refine w_iload X98 hx (hb hby at_166) rfl (pc' := 168) rfl ?_
     refine w_ifN X98 hx (hb hby at_168) (teq hc86).2 (pc' := 171) rfl ?_
     refine w_iconst X98 hx (hb hby at_171) (v := (1 : Int32)) rfl (pc' := 172) rfl ?_
     refine w_goto X98 hx (hb hby at_172) (pc' := 176) (by decide) (by decide) ?_
     refine w_istore X98 hx (hb hby at_176) (L' := #[.val (.int p0), .val (.int p1), .val (.int p2), .val (.int p3), .val (.ref b20), .val (.ref b40), .val (.int (if (p3 &&& (1 : Int32)) = (0 : Int32) then (0 : Int32) else (1 : Int32))), .val (.int (p0 &&& (3 : Int32))), .val .null, .val (.ref b87), .val (.int (1 : Int32))]) rfl (pc' := 178) rfl ?_
     refine w_aload X98 hx (hb hby at_178) rfl rfl (pc' := 180) rfl ?_
     have le102 : h0.size ≤ T98.heap.size := (Nat.le_trans le97 K98.1)
     obtain ⟨cq103, kq103, q103a, q103b, q103c⟩ := isOf hZ rfl g98_0
     refine w_virtual X98 hx (y := yn_10) (z := yn_10) hown (mvT hZ (wd_53 hw)) (mvT hZ (wd_54 hw)) (notFace_of_selects (args := #[]) (mvT hZ (wd_56 hw))) (mvT hZ (wd_56 hw)) (mvT hZ (wd_55 hw)) (by decide) (backOf (W := 0) (rm_m10_8 l Z aZ hw [] b87 T98.heap n0 (Nat.le_trans Z0 le102) g98_2) hZ (wd_57 hw) (wd_32 hw) (by decide) (by decide)) q103a q103c (by rw [hml]; rfl) [] (lenOf pd_6 rfl) rfl (Nat.le_of_eq rfl) (hb hby at_180) (fun _ _ => ⟨rfl, rfl, (by decide : 4 + 0 ≤ _), (by decide : 12 + 0 ≤ _)⟩) (pc' := 183) rfl ?_
     rintro _ _ ⟨T103, L103, k103, n103⟩ X103 ⟨Lc103, hQ103, l103, y103, z103⟩
     dsimp only [Pt.U, Pt.locs, Pt.cells, Pt.slots] at X103 l103 y103 z103 hQ103 ⊢
     subst l103 y103 z103
     obtain ⟨rfl, N103q, e103⟩ := hQ103
     have N104 := Fr.app N99 N103q
     show Runs _ _ _ _ (T103.setTop (mkF m 183 #[.val (.int p0), .val (.int p1), .val (.int p2), .val (.int p3), .val (.ref b20), .val (.ref b40), .val (.int (if (p3 &&& (1 : Int32)) = (0 : Int32) then (0 : Int32) else (1 : Int32))), .val (.int (p0 &&& (3 : Int32))), .val .null, .val (.ref b87), .val (.int (1 : Int32))] [(.int (1 : Int32))]))
     refine w_iload X103 hx (hb hby at_183) rfl (pc' := 185) rfl ?_
     refine w_icN X103 hx (hb hby at_185) (teq (by decide : (1 : Int32) = (1 : Int32))).2 (pc' := 188) rfl ?_
     refine w_iconst X103 hx (hb hby at_188) (v := (1 : Int32)) rfl (pc' := 189) rfl ?_
     refine w_goto X103 hx (hb hby at_189) (pc' := 193) (by decide) (by decide) ?_
     exact w_doneH X103 hlk (v := some (.int (1 : Int32))) e103 hh hZ (own_EW hw) hS0 (Nat.le_trans (Nat.le_refl _) le102) C100 (fun h => by rw [hret] at h; cases h) (fun fs hr => retN X103 hx (t := .boolean) hret (by simp) (hb hby at_193) hr) (by decide) (by decide) (fun hsy => ⟨rfl, N104⟩)
   · refine w_ifY X50 hx (hb hby at_81) (feq hc86).2 (pc' := 90) (by decide) (by decide) ?_
     refine w_iload X50 hx (hb hby at_90) rfl (pc' := 92) rfl ?_
     refine w_iconst X50 hx (hb hby at_92) (v := (1 : Int32)) rfl (pc' := 93) rfl ?_
     by_cases hc105 : (p0 &&& (3 : Int32)) = (1 : Int32)
     · refine w_icN X50 hx (hb hby at_93) (teq hc105).2 (pc' := 96) rfl ?_
       refine w_new X50 hx hZ hown (wd_1 hw) (wd_2 hw) (wd_3 hw) rfl (hb hby at_96) (by decide) (by decide) (pc' := 99) rfl ?_
       intro T106 h106 b106 X106 e106 E106 g106 A106 D106
       have le108 : h0.size ≤ T50.heap.size := (Nat.le_trans le49 K50.1)
       have ge107 : n0 ≤ b106 := Nat.le_trans (Nat.le_trans Z0 le108) (Nat.le_of_eq g106.symm)
       have sz109 : h0.size ≤ b106 := Nat.le_trans le108 (Nat.le_of_eq g106.symm)
       have C110 : CHr Z EL s.vm h0 s.vm h106 := C55.trans (CHr.ext E106 C55.1)
       have K111 : Keep h0 h106 [] := K56.ext E106
       have f112 : Fld Z h106 b106 kc1 "coder" "B" (.int (0 : Int32)) := D106 (Or.inr (wd_27 hw)) (ty := .byte) (by decide)
       have f113 : Fld Z h106 b106 kc1 "value" "[B" .null := D106 (Or.inr (wd_29 hw)) (ty := (.array .byte)) (by decide)
       refine w_dup X106 hx (hb hby at_99) rfl (pc' := 100) rfl ?_
       refine w_iconst X106 hx (hb hby at_100) (v := (0 : Int32)) rfl (pc' := 101) rfl ?_
       refine w_newP X106 hx .char .char 0 rfl hZ (wd_0 hw) e106 (hb hby at_101) (by decide) (by decide) (by decide) (by decide) (by decide) (pc' := 103) rfl ?_
       intro T114 h114 k114 b114 X114 e114 E114 g114 A114
       have le116 : h0.size ≤ h106.size := (Nat.le_trans le108 E106.1)
       have ge115 : n0 ≤ b114 := Nat.le_trans (Nat.le_trans Z0 le116) (Nat.le_of_eq g114.symm)
       have sz117 : h0.size ≤ b114 := Nat.le_trans le116 (Nat.le_of_eq g114.symm)
       have C118 : CHr Z EL s.vm h0 s.vm h114 := C110.trans (CHr.ext E114 C110.1)
       have K119 : Keep h0 h114 [] := K111.ext E114
       have V120 : Arv Z h114 b114 k114 .char (0 : Int32) [] (.int (0 : Int32)) := (Arv.new A114 (by decide)).pad (pad_rep [] (.int (0 : Int32)) 0)
       have f126 : Exa Z h114 b106 kc1 := (A106.ext E114)
       have f127 : Fld Z h114 b106 kc1 "value" "[B" .null := (f113.ext E114)
       have f128 : Fld Z h114 b106 kc1 "coder" "B" (.int (0 : Int32)) := (f112.ext E114)
       have le129 : h0.size ≤ h114.size := (Nat.le_trans le116 E114.1)
       have y131 : Safe Z EL s.vm h114 b106 := (Safe.ext E114 C110.1 (Safe.ext E106 C55.1 (Safe.new (Nat.le_of_eq g106.symm))))
       refine w_specialS X114 hx (y := yn_1) rfl hown (mvT hZ (wd_4 hw)) (mvT hZ (wd_5 hw)) (mvT hZ (wd_6 hw)) (by decide) (backOfY (W := 1) (rm_m1_14 l Z aZ hw [] b106 b114 k114 h114 n0 (Nat.le_trans Z0 le129) V120 f126 f127 f128 ge107) hZ (wd_6 hw) (wd_3 hw) (by decide) (by decide) (own_EW hw) C118.1 (sfS y131 sf0) (allS (Nat.lt_of_lt_of_le A106.lt E114.1) all0)) (by rw [hml]; rfl) [(.ref b114)] (lenOf pd_0 rfl) rfl (Nat.le_of_eq rfl) (hb hby at_103) (fun _ _ => ⟨rfl, e114, (by decide : 5 + 4 ≤ _), (by decide : 12 + 8 ≤ _)⟩) (pc' := 106) rfl ?_
       rintro _ _ ⟨T130, L130, k130, n130⟩ XX130 hSS130 hg130 ⟨Lc130, hQ130, l130, y130, z130, A130⟩
       dsimp only [Pt.U, Pt.locs, Pt.cells, Pt.slots] at XX130 l130 y130 z130 hQ130 hSS130 hg130 A130 ⊢
       subst l130 y130 z130
       obtain ⟨X130, hS130, hZ130, hown130⟩ := rebS hS0 (Nat.le_trans (Nat.le_refl _) le129) XX130 hSS130 (e114 ▸ hg130) hZ hown
       obtain ⟨r0_130, c0_130, rfl, N130q, K130, g130_0, g130_1, g130_2, g130_3⟩ := hQ130
       have N132 := Fr.app N53 N130q
       have C133 : CHr Z EL s.vm h0 T130.vm T130.heap := C118.trans A130
       have K134 : Keep h0 T130.heap [] := K119.trans K130 (allS (Or.inr sz109) (all0 (P := fun x => x ∈ [] ∨ h0.size ≤ x)))
       show Runs _ _ _ _ (T130.setTop (mkF m 106 #[.val (.int p0), .val (.int p1), .val (.int p2), .val (.int p3), .val (.ref b20), .val (.ref b40), .val (.int (if (p3 &&& (1 : Int32)) = (0 : Int32) then (0 : Int32) else (1 : Int32))), .val (.int (p0 &&& (3 : Int32))), .unset, .unset, .unset] [(.ref b106)]))
       refine w_astore X130 hx (hb hby at_106) rfl (L' := #[.val (.int p0), .val (.int p1), .val (.int p2), .val (.int p3), .val (.ref b20), .val (.ref b40), .val (.int (if (p3 &&& (1 : Int32)) = (0 : Int32) then (0 : Int32) else (1 : Int32))), .val (.int (p0 &&& (3 : Int32))), .val (.ref b106), .unset, .unset]) rfl (pc' := 108) rfl ?_
       refine w_goto X130 hx (hb hby at_108) (pc' := 151) (by decide) (by decide) ?_
       refine w_new X130 hx hZ130 hown130 (wd_30 hw) (wd_31 hw) (wd_32 hw) rfl (hb hby at_151) (by decide) (by decide) (pc' := 154) rfl ?_
       intro T135 h135 b135 X135 e135 E135 g135 A135 D135
       have le137 : h0.size ≤ T130.heap.size := (Nat.le_trans le129 K130.1)
       have ge136 : n0 ≤ b135 := Nat.le_trans (Nat.le_trans Z0 le137) (Nat.le_of_eq g135.symm)
       have sz138 : h0.size ≤ b135 := Nat.le_trans le137 (Nat.le_of_eq g135.symm)
       have C139 : CHr Z EL s.vm h0 T130.vm h135 := C133.trans (CHr.ext E135 C133.1)
       have K140 : Keep h0 h135 [] := K134.ext E135
       have f141 : Fld Z h135 b135 kc0 "name" "Ljava/lang/String;" .null := D135 (Or.inr (wd_46 hw)) (ty := (.object kc1)) (by decide)
       have f142 : Fld Z h135 b135 kc0 "valueName" "Ljava/lang/String;" .null := D135 (Or.inr (wd_48 hw)) (ty := (.object kc1)) (by decide)
       have f143 : Fld Z h135 b135 kc0 "required" "Z" (.int (0 : Int32)) := D135 (Or.inr (wd_50 hw)) (ty := .boolean) (by decide)
       have f144 : Fld Z h135 b135 kc0 "letter" "Ljava/lang/Character;" .null := D135 (Or.inr (wd_52 hw)) (ty := (.object kc2)) (by decide)
       refine w_dup X135 hx (hb hby at_154) rfl (pc' := 155) rfl ?_
       refine w_aload X135 hx (hb hby at_155) rfl rfl (pc' := 157) rfl ?_
       refine w_aload X135 hx (hb hby at_157) rfl rfl (pc' := 159) rfl ?_
       refine w_iload X135 hx (hb hby at_159) rfl (pc' := 161) rfl ?_
       have le145 : h0.size ≤ h135.size := (Nat.le_trans le137 E135.1)
       refine w_special X135 hx (y := yn_7) rfl hown130 (mvT hZ130 (wd_33 hw)) (mvT hZ130 (wd_34 hw)) (mvT hZ130 (wd_35 hw)) (by decide) (backOf (W := 1) (rm_m7_16 l Z aZ hw [] b135 b40 b106 (if (p3 &&& (1 : Int32)) = (0 : Int32) then (0 : Int32) else (1 : Int32)) h135 n0 (Nat.le_trans Z0 le145) A135 f141 f142 f143 nar_ite' f144 ge136) hZ130 (wd_35 hw) (wd_32 hw) (by decide) (by decide)) (by rw [hml]; rfl) [(.ref b40), (.ref b106), (.int (if (p3 &&& (1 : Int32)) = (0 : Int32) then (0 : Int32) else (1 : Int32)))] (lenOf pd_7 rfl) rfl (Nat.le_of_eq rfl) (hb hby at_161) (fun _ _ => ⟨rfl, e135, (by decide : 10 + 0 ≤ _), (by decide : 24 + 0 ≤ _)⟩) (pc' := 164) rfl ?_
       rintro _ _ ⟨T146, L146, k146, n146⟩ X146 ⟨Lc146, hQ146, l146, y146, z146⟩
       dsimp only [Pt.U, Pt.locs, Pt.cells, Pt.slots] at X146 l146 y146 z146 hQ146 ⊢
       subst l146 y146 z146
       obtain ⟨rfl, N146q, K146, g146_0, g146_1, g146_2, g146_3, g146_4⟩ := hQ146
       have N147 := Fr.app N132 N146q
       have C148 : CHr Z EL s.vm h0 T130.vm T146.heap := C139.trans (CHr.keep K146 (sfS (Safe.exa hZ130.alike A135 (by decide) (by decide)) sf0) C139.1)
       have K149 : Keep h0 T146.heap [] := K140.trans K146 (allS (Or.inr sz138) (all0 (P := fun x => x ∈ [] ∨ h0.size ≤ x)))
       show Runs _ _ _ _ (T146.setTop (mkF m 164 #[.val (.int p0), .val (.int p1), .val (.int p2), .val (.int p3), .val (.ref b20), .val (.ref b40), .val (.int (if (p3 &&& (1 : Int32)) = (0 : Int32) then (0 : Int32) else (1 : Int32))), .val (.int (p0 &&& (3 : Int32))), .val (.ref b106), .unset, .unset] [(.ref b135)]))
       refine w_astore X146 hx (hb hby at_164) rfl (L' := #[.val (.int p0), .val (.int p1), .val (.int p2), .val (.int p3), .val (.ref b20), .val (.ref b40), .val (.int (if (p3 &&& (1 : Int32)) = (0 : Int32) then (0 : Int32) else (1 : Int32))), .val (.int (p0 &&& (3 : Int32))), .val (.ref b106), .val (.ref b135), .unset]) rfl (pc' := 166) rfl ?_
       refine w_iload X146 hx (hb hby at_166) rfl (pc' := 168) rfl ?_
       refine w_ifY X146 hx (hb hby at_168) (feq hc86).2 (pc' := 175) (by decide) (by decide) ?_
       refine w_iconst X146 hx (hb hby at_175) (v := (0 : Int32)) rfl (pc' := 176) rfl ?_
       refine w_istore X146 hx (hb hby at_176) (L' := #[.val (.int p0), .val (.int p1), .val (.int p2), .val (.int p3), .val (.ref b20), .val (.ref b40), .val (.int (if (p3 &&& (1 : Int32)) = (0 : Int32) then (0 : Int32) else (1 : Int32))), .val (.int (p0 &&& (3 : Int32))), .val (.ref b106), .val (.ref b135), .val (.int (0 : Int32))]) rfl (pc' := 178) rfl ?_
       refine w_aload X146 hx (hb hby at_178) rfl rfl (pc' := 180) rfl ?_
       have le150 : h0.size ≤ T146.heap.size := (Nat.le_trans le145 K146.1)
       obtain ⟨cq151, kq151, q151a, q151b, q151c⟩ := isOf hZ130 rfl g146_0
       refine w_virtual X146 hx (y := yn_10) (z := yn_10) hown130 (mvT hZ130 (wd_53 hw)) (mvT hZ130 (wd_54 hw)) (notFace_of_selects (args := #[]) (mvT hZ130 (wd_56 hw))) (mvT hZ130 (wd_56 hw)) (mvT hZ130 (wd_55 hw)) (by decide) (backOf (W := 0) (rm_m10_18 l Z aZ hw [] b135 b106 T146.heap n0 (Nat.le_trans Z0 le150) g146_2) hZ130 (wd_57 hw) (wd_32 hw) (by decide) (by decide)) q151a q151c (by rw [hml]; rfl) [] (lenOf pd_6 rfl) rfl (Nat.le_of_eq rfl) (hb hby at_180) (fun _ _ => ⟨rfl, rfl, (by decide : 10 + 0 ≤ _), (by decide : 24 + 0 ≤ _)⟩) (pc' := 183) rfl ?_
       rintro _ _ ⟨T151, L151, k151, n151⟩ X151 ⟨Lc151, hQ151, l151, y151, z151⟩
       dsimp only [Pt.U, Pt.locs, Pt.cells, Pt.slots] at X151 l151 y151 z151 hQ151 ⊢
       subst l151 y151 z151
       obtain ⟨rfl, N151q, e151⟩ := hQ151
       have N152 := Fr.app N147 N151q
       show Runs _ _ _ _ (T151.setTop (mkF m 183 #[.val (.int p0), .val (.int p1), .val (.int p2), .val (.int p3), .val (.ref b20), .val (.ref b40), .val (.int (if (p3 &&& (1 : Int32)) = (0 : Int32) then (0 : Int32) else (1 : Int32))), .val (.int (p0 &&& (3 : Int32))), .val (.ref b106), .val (.ref b135), .val (.int (0 : Int32))] [(.int (0 : Int32))]))
       refine w_iload X151 hx (hb hby at_183) rfl (pc' := 185) rfl ?_
       refine w_icN X151 hx (hb hby at_185) (teq (by decide : (0 : Int32) = (0 : Int32))).2 (pc' := 188) rfl ?_
       refine w_iconst X151 hx (hb hby at_188) (v := (1 : Int32)) rfl (pc' := 189) rfl ?_
       refine w_goto X151 hx (hb hby at_189) (pc' := 193) (by decide) (by decide) ?_
       have le153 : T130.heap.size ≤ T146.heap.size := (Nat.le_trans E135.1 K146.1)
       exact w_doneH X151 hlk (v := some (.int (1 : Int32))) e151 hh hZ130 (own_EW hw) hS130 (Nat.le_trans (Nat.le_refl _) le153) C148 (fun h => by rw [hret] at h; cases h) (fun fs hr => retN X151 hx (t := .boolean) hret (by simp) (hb hby at_193) hr) (by decide) (by decide) (fun hsy => ⟨rfl, N152⟩)
     · refine w_icY X50 hx (hb hby at_93) (feq hc105).2 (pc' := 111) (by decide) (by decide) ?_
       refine w_iconst X50 hx (hb hby at_111) (v := (2 : Int32)) rfl (pc' := 112) rfl ?_
       refine w_newP X50 hx .char .char 2 rfl hZ (wd_0 hw) rfl (hb hby at_112) (by decide) (by decide) (by decide) (by decide) (by decide) (pc' := 114) rfl ?_
       intro T154 h154 k154 b154 X154 e154 E154 g154 A154
       have le156 : h0.size ≤ T50.heap.size := (Nat.le_trans le49 K50.1)
       have ge155 : n0 ≤ b154 := Nat.le_trans (Nat.le_trans Z0 le156) (Nat.le_of_eq g154.symm)
       have sz157 : h0.size ≤ b154 := Nat.le_trans le156 (Nat.le_of_eq g154.symm)
       have C158 : CHr Z EL s.vm h0 s.vm h154 := C55.trans (CHr.ext E154 C55.1)
       have K159 : Keep h0 h154 [] := K56.ext E154
       have V160 : Arv Z h154 b154 k154 .char (2 : Int32) [(.int (0 : Int32)), (.int (0 : Int32))] (.int (0 : Int32)) := (Arv.new A154 (by decide)).pad (pad_rep [] (.int (0 : Int32)) 2)
       refine w_dup X154 hx (hb hby at_114) rfl (pc' := 115) rfl ?_
       refine w_iconst X154 hx (hb hby at_115) (v := (0 : Int32)) rfl (pc' := 116) rfl ?_
       refine w_iloadN X154 hx (hb hby at_116) rfl (pc' := 117) rfl ?_
       refine w_bipush X154 hx (hb hby at_117) (v := (8 : Int32)) rfl (pc' := 119) rfl ?_
       refine w_iushr X154 hx (hb hby at_119) (pc' := 120) rfl ?_
       refine w_sipush X154 hx (hb hby at_120) (v := (255 : Int32)) rfl (pc' := 123) rfl ?_
       refine w_iand X154 hx (hb hby at_123) (pc' := 124) rfl ?_
       refine w_i2c X154 hx (hb hby at_124) (pc' := 125) rfl ?_
       obtain ⟨clu161, Aru161, qu161, Su161, Nu161, Hu161, Gu161⟩ := id V160
       have hinu161 := inb_of (j := (0 : Int32)) Su161 ⟨by decide, by decide⟩
       refine w_stC X154 hx hZ e154 Aru161 hinu161 (hb hby at_125) (pc' := 126) rfl ?_
       intro T162 h162 X162 e162 W162
       have C163 : CHr Z EL s.vm h0 s.vm h162 := C158.trans (CHr.wr W162 (Safe.arv hZ.alike V160 (by decide)) C158.1)
       have V164 : Arv Z h162 b154 k154 .char (2 : Int32) [(.int (nar .char ((((p1.toUInt32 >>> ((8 : Int32) &&& 31).toUInt32).toInt32) &&& (255 : Int32)).toUInt32.toUInt16.toUInt32.toInt32))), (.int (0 : Int32))] (.int (0 : Int32)) := Arv.set Aru161 qu161 Su161 Nu161 Hu161 Gu161 (fits_nar_char _) W162 0 rfl (Nat.le_of_ble_eq_true rfl)
       have V165 : Arv Z h162 b154 k154 .char (2 : Int32) [(.int ((((p1.toUInt32 >>> ((8 : Int32) &&& 31).toUInt32).toInt32) &&& (255 : Int32)).toUInt32.toUInt16.toUInt32.toInt32)), (.int (0 : Int32))] (.int (0 : Int32)) := by rw [nar_c] at V164; exact V164
       have K166 : Keep h0 h162 [] := K159.wr W162 (Or.inr sz157)
       have N167 := Fr.snoc X162 N53 ge155
       refine w_dup X162 hx (hb hby at_126) rfl (pc' := 127) rfl ?_
       refine w_iconst X162 hx (hb hby at_127) (v := (1 : Int32)) rfl (pc' := 128) rfl ?_
       refine w_iloadN X162 hx (hb hby at_128) rfl (pc' := 129) rfl ?_
       refine w_bipush X162 hx (hb hby at_129) (v := (8 : Int32)) rfl (pc' := 131) rfl ?_
       refine w_iushr X162 hx (hb hby at_131) (pc' := 132) rfl ?_
       refine w_sipush X162 hx (hb hby at_132) (v := (255 : Int32)) rfl (pc' := 135) rfl ?_
       refine w_iand X162 hx (hb hby at_135) (pc' := 136) rfl ?_
       refine w_i2c X162 hx (hb hby at_136) (pc' := 137) rfl ?_
       obtain ⟨clu168, Aru168, qu168, Su168, Nu168, Hu168, Gu168⟩ := id V165
       have hinu168 := inb_of (j := (1 : Int32)) Su168 ⟨by decide, by decide⟩
       refine w_stC X162 hx hZ e162 Aru168 hinu168 (hb hby at_137) (pc' := 138) rfl ?_
       intro T169 h169 X169 e169 W169
       have C170 : CHr Z EL s.vm h0 s.vm h169 := C163.trans (CHr.wr W169 (Safe.arv hZ.alike V165 (by decide)) C163.1)
       have V171 : Arv Z h169 b154 k154 .char (2 : Int32) [(.int ((((p1.toUInt32 >>> ((8 : Int32) &&& 31).toUInt32).toInt32) &&& (255 : Int32)).toUInt32.toUInt16.toUInt32.toInt32)), (.int (nar .char ((((p2.toUInt32 >>> ((8 : Int32) &&& 31).toUInt32).toInt32) &&& (255 : Int32)).toUInt32.toUInt16.toUInt32.toInt32)))] (.int (0 : Int32)) := Arv.set Aru168 qu168 Su168 Nu168 Hu168 Gu168 (fits_nar_char _) W169 1 rfl (Nat.le_of_ble_eq_true rfl)
       have V172 : Arv Z h169 b154 k154 .char (2 : Int32) [(.int ((((p1.toUInt32 >>> ((8 : Int32) &&& 31).toUInt32).toInt32) &&& (255 : Int32)).toUInt32.toUInt16.toUInt32.toInt32)), (.int ((((p2.toUInt32 >>> ((8 : Int32) &&& 31).toUInt32).toInt32) &&& (255 : Int32)).toUInt32.toUInt16.toUInt32.toInt32))] (.int (0 : Int32)) := by rw [nar_c] at V171; exact V171
       have K173 : Keep h0 h169 [] := K166.wr W169 (Or.inr sz157)
       have N174 := Fr.snoc X169 N167 ge155
       refine w_astore X169 hx (hb hby at_138) rfl (L' := #[.val (.int p0), .val (.int p1), .val (.int p2), .val (.int p3), .val (.ref b20), .val (.ref b40), .val (.int (if (p3 &&& (1 : Int32)) = (0 : Int32) then (0 : Int32) else (1 : Int32))), .val (.int (p0 &&& (3 : Int32))), .unset, .val (.ref b154), .unset]) rfl (pc' := 140) rfl ?_
       refine w_new X169 hx hZ hown (wd_1 hw) (wd_2 hw) (wd_3 hw) e169 (hb hby at_140) (by decide) (by decide) (pc' := 143) rfl ?_
       intro T175 h175 b175 X175 e175 E175 g175 A175 D175
       have le177 : h0.size ≤ h154.size := (Nat.le_trans le156 E154.1)
       have le178 : h0.size ≤ h162.size := (Nat.le_trans le177 (Keep.of_wr W162).1)
       have le179 : h0.size ≤ h169.size := (Nat.le_trans le178 (Keep.of_wr W169).1)
       have ge176 : n0 ≤ b175 := Nat.le_trans (Nat.le_trans Z0 le179) (Nat.le_of_eq g175.symm)
       have sz180 : h0.size ≤ b175 := Nat.le_trans le179 (Nat.le_of_eq g175.symm)
       have C181 : CHr Z EL s.vm h0 s.vm h175 := C170.trans (CHr.ext E175 C170.1)
       have K182 : Keep h0 h175 [] := K173.ext E175
       have f183 : Fld Z h175 b175 kc1 "coder" "B" (.int (0 : Int32)) := D175 (Or.inr (wd_27 hw)) (ty := .byte) (by decide)
       have f184 : Fld Z h175 b175 kc1 "value" "[B" .null := D175 (Or.inr (wd_29 hw)) (ty := (.array .byte)) (by decide)
       refine w_dup X175 hx (hb hby at_143) rfl (pc' := 144) rfl ?_
       refine w_aload X175 hx (hb hby at_144) rfl rfl (pc' := 146) rfl ?_
       have le185 : h0.size ≤ h175.size := (Nat.le_trans le179 E175.1)
       have f187 : Arv Z h175 b154 k154 .char (2 : Int32) [(.int ((((p1.toUInt32 >>> ((8 : Int32) &&& 31).toUInt32).toInt32) &&& (255 : Int32)).toUInt32.toUInt16.toUInt32.toInt32)), (.int ((((p2.toUInt32 >>> ((8 : Int32) &&& 31).toUInt32).toInt32) &&& (255 : Int32)).toUInt32.toUInt16.toUInt32.toInt32))] (.int (0 : Int32)) := (V172.ext E175)
       have f188 : Old Z n0 h175 := (((((f52.keep K50 (allS ge41 all0)).ext E154).wr W162 ge155).wr W169 ge155).ext E175)
       refine w_special X175 hx (y := yn_1) rfl hown (mvT hZ (wd_4 hw)) (mvT hZ (wd_5 hw)) (mvT hZ (wd_6 hw)) (by decide) (StrChars.Road.backV (W := 1) hZ (own_hws hw) (kI := 4) (wd_2 hw) (cs := ([((((p1.toUInt32 >>> ((8 : Int32) &&& 31).toUInt32).toInt32) &&& (255 : Int32)).toUInt32.toUInt16.toUInt32.toInt32), ((((p2.toUInt32 >>> ((8 : Int32) &&& 31).toUInt32).toInt32) &&& (255 : Int32)).toUInt32.toUInt16.toUInt32.toInt32)] : List Int32)) (bs := ([((((p1.toUInt32 >>> ((8 : Int32) &&& 31).toUInt32).toInt32) &&& (255 : Int32)).toUInt32.toUInt16.toUInt32.toInt32), ((((p2.toUInt32 >>> ((8 : Int32) &&& 31).toUInt32).toInt32) &&& (255 : Int32)).toUInt32.toUInt16.toUInt32.toInt32)] : List Int32).map (fun c => c.toInt8.toInt32)) (n := 2) ge176 (Nat.le_trans Z0 le185) A175 f184 f183 f187 (S_COMPACT_STRINGS.ext f188.2) hP_2 rfl rfl (by decide) (by decide) (List.forall_mem_cons.2 ⟨(own_and255 ((p1.toUInt32 >>> ((8 : Int32) &&& 31).toUInt32).toInt32)), (List.forall_mem_cons.2 ⟨(own_and255 ((p2.toUInt32 >>> ((8 : Int32) &&& 31).toUInt32).toInt32)), (fun _ h => nomatch h)⟩)⟩) rfl (by decide) (by decide)) (by rw [hml]; rfl) [(.ref b154)] (lenOf pd_0 rfl) rfl (Nat.le_of_eq rfl) (hb hby at_146) (fun _ _ => ⟨rfl, e175, (by decide : 5 + 1 ≤ _), (by decide : 14 + 2 ≤ _)⟩) (pc' := 149) rfl ?_
       rintro _ _ ⟨T186, L186, k186, n186⟩ X186 ⟨Lc186, hQ186, l186, y186, z186⟩
       dsimp only [Pt.U, Pt.locs, Pt.cells, Pt.slots] at X186 l186 y186 z186 hQ186 ⊢
       subst l186 y186 z186
       obtain ⟨rfl, N186q, K186, g186_0, g186_1, t_186, kb_186, g186_2, g186_3, g186_4, g186_5, g186_6⟩ := hQ186
       have N189 := Fr.app N174 N186q
       have y190 : Safe Z EL s.vm h175 b175 := (Safe.ext E175 C170.1 (Safe.new (Nat.le_of_eq g175.symm)))
       have C191 : CHr Z EL s.vm h0 s.vm T186.heap := C181.trans (CHr.keep K186 (sfS y190 sf0) C181.1)
       have K192 : Keep h0 T186.heap [] := K182.trans K186 (allS (Or.inr sz180) (all0 (P := fun x => x ∈ [] ∨ h0.size ≤ x)))
       have ge193 : n0 ≤ t_186 := Nat.le_trans (Nat.le_trans Z0 le185) g186_3
       have sz194 : h0.size ≤ t_186 := Nat.le_trans le185 g186_3
       show Runs _ _ _ _ (T186.setTop (mkF m 149 #[.val (.int p0), .val (.int p1), .val (.int p2), .val (.int p3), .val (.ref b20), .val (.ref b40), .val (.int (if (p3 &&& (1 : Int32)) = (0 : Int32) then (0 : Int32) else (1 : Int32))), .val (.int (p0 &&& (3 : Int32))), .unset, .val (.ref b154), .unset] [(.ref b175)]))
       refine w_astore X186 hx (hb hby at_149) rfl (L' := #[.val (.int p0), .val (.int p1), .val (.int p2), .val (.int p3), .val (.ref b20), .val (.ref b40), .val (.int (if (p3 &&& (1 : Int32)) = (0 : Int32) then (0 : Int32) else (1 : Int32))), .val (.int (p0 &&& (3 : Int32))), .val (.ref b175), .val (.ref b154), .unset]) rfl (pc' := 151) rfl ?_
       refine w_new X186 hx hZ hown (wd_30 hw) (wd_31 hw) (wd_32 hw) rfl (hb hby at_151) (by decide) (by decide) (pc' := 154) rfl ?_
       intro T195 h195 b195 X195 e195 E195 g195 A195 D195
       have le197 : h0.size ≤ T186.heap.size := (Nat.le_trans le185 K186.1)
       have ge196 : n0 ≤ b195 := Nat.le_trans (Nat.le_trans Z0 le197) (Nat.le_of_eq g195.symm)
       have sz198 : h0.size ≤ b195 := Nat.le_trans le197 (Nat.le_of_eq g195.symm)
       have C199 : CHr Z EL s.vm h0 s.vm h195 := C191.trans (CHr.ext E195 C191.1)
       have K200 : Keep h0 h195 [] := K192.ext E195
       have f201 : Fld Z h195 b195 kc0 "name" "Ljava/lang/String;" .null := D195 (Or.inr (wd_46 hw)) (ty := (.object kc1)) (by decide)
       have f202 : Fld Z h195 b195 kc0 "valueName" "Ljava/lang/String;" .null := D195 (Or.inr (wd_48 hw)) (ty := (.object kc1)) (by decide)
       have f203 : Fld Z h195 b195 kc0 "required" "Z" (.int (0 : Int32)) := D195 (Or.inr (wd_50 hw)) (ty := .boolean) (by decide)
       have f204 : Fld Z h195 b195 kc0 "letter" "Ljava/lang/Character;" .null := D195 (Or.inr (wd_52 hw)) (ty := (.object kc2)) (by decide)
       refine w_dup X195 hx (hb hby at_154) rfl (pc' := 155) rfl ?_
       refine w_aload X195 hx (hb hby at_155) rfl rfl (pc' := 157) rfl ?_
       refine w_aload X195 hx (hb hby at_157) rfl rfl (pc' := 159) rfl ?_
       refine w_iload X195 hx (hb hby at_159) rfl (pc' := 161) rfl ?_
       have le205 : h0.size ≤ h195.size := (Nat.le_trans le197 E195.1)
       refine w_special X195 hx (y := yn_7) rfl hown (mvT hZ (wd_33 hw)) (mvT hZ (wd_34 hw)) (mvT hZ (wd_35 hw)) (by decide) (backOf (W := 1) (rm_m7_16 l Z aZ hw [] b195 b40 b175 (if (p3 &&& (1 : Int32)) = (0 : Int32) then (0 : Int32) else (1 : Int32)) h195 n0 (Nat.le_trans Z0 le205) A195 f201 f202 f203 nar_ite' f204 ge196) hZ (wd_35 hw) (wd_32 hw) (by decide) (by decide)) (by rw [hml]; rfl) [(.ref b40), (.ref b175), (.int (if (p3 &&& (1 : Int32)) = (0 : Int32) then (0 : Int32) else (1 : Int32)))] (lenOf pd_7 rfl) rfl (Nat.le_of_eq rfl) (hb hby at_161) (fun _ _ => ⟨rfl, e195, (by decide : 7 + 0 ≤ _), (by decide : 20 + 0 ≤ _)⟩) (pc' := 164) rfl ?_
       rintro _ _ ⟨T206, L206, k206, n206⟩ X206 ⟨Lc206, hQ206, l206, y206, z206⟩
       dsimp only [Pt.U, Pt.locs, Pt.cells, Pt.slots] at X206 l206 y206 z206 hQ206 ⊢
       subst l206 y206 z206
       obtain ⟨rfl, N206q, K206, g206_0, g206_1, g206_2, g206_3, g206_4⟩ := hQ206
       have N207 := Fr.app N189 N206q
       have C208 : CHr Z EL s.vm h0 s.vm T206.heap := C199.trans (CHr.keep K206 (sfS (Safe.exa hZ.alike A195 (by decide) (by decide)) sf0) C199.1)
       have K209 : Keep h0 T206.heap [] := K200.trans K206 (allS (Or.inr sz198) (all0 (P := fun x => x ∈ [] ∨ h0.size ≤ x)))
       show Runs _ _ _ _ (T206.setTop (mkF m 164 #[.val (.int p0), .val (.int p1), .val (.int p2), .val (.int p3), .val (.ref b20), .val (.ref b40), .val (.int (if (p3 &&& (1 : Int32)) = (0 : Int32) then (0 : Int32) else (1 : Int32))), .val (.int (p0 &&& (3 : Int32))), .val (.ref b175), .val (.ref b154), .unset] [(.ref b195)]))
       refine w_astore X206 hx (hb hby at_164) rfl (L' := #[.val (.int p0), .val (.int p1), .val (.int p2), .val (.int p3), .val (.ref b20), .val (.ref b40), .val (.int (if (p3 &&& (1 : Int32)) = (0 : Int32) then (0 : Int32) else (1 : Int32))), .val (.int (p0 &&& (3 : Int32))), .val (.ref b175), .val (.ref b195), .unset]) rfl (pc' := 166) rfl ?_
       refine w_iload X206 hx (hb hby at_166) rfl (pc' := 168) rfl ?_
       refine w_ifY X206 hx (hb hby at_168) (feq hc86).2 (pc' := 175) (by decide) (by decide) ?_
       refine w_iconst X206 hx (hb hby at_175) (v := (0 : Int32)) rfl (pc' := 176) rfl ?_
       refine w_istore X206 hx (hb hby at_176) (L' := #[.val (.int p0), .val (.int p1), .val (.int p2), .val (.int p3), .val (.ref b20), .val (.ref b40), .val (.int (if (p3 &&& (1 : Int32)) = (0 : Int32) then (0 : Int32) else (1 : Int32))), .val (.int (p0 &&& (3 : Int32))), .val (.ref b175), .val (.ref b195), .val (.int (0 : Int32))]) rfl (pc' := 178) rfl ?_
       refine w_aload X206 hx (hb hby at_178) rfl rfl (pc' := 180) rfl ?_
       have le210 : h0.size ≤ T206.heap.size := (Nat.le_trans le205 K206.1)
       obtain ⟨cq211, kq211, q211a, q211b, q211c⟩ := isOf hZ rfl g206_0
       refine w_virtual X206 hx (y := yn_10) (z := yn_10) hown (mvT hZ (wd_53 hw)) (mvT hZ (wd_54 hw)) (notFace_of_selects (args := #[]) (mvT hZ (wd_56 hw))) (mvT hZ (wd_56 hw)) (mvT hZ (wd_55 hw)) (by decide) (backOf (W := 0) (rm_m10_18 l Z aZ hw [] b195 b175 T206.heap n0 (Nat.le_trans Z0 le210) g206_2) hZ (wd_57 hw) (wd_32 hw) (by decide) (by decide)) q211a q211c (by rw [hml]; rfl) [] (lenOf pd_6 rfl) rfl (Nat.le_of_eq rfl) (hb hby at_180) (fun _ _ => ⟨rfl, rfl, (by decide : 7 + 0 ≤ _), (by decide : 20 + 0 ≤ _)⟩) (pc' := 183) rfl ?_
       rintro _ _ ⟨T211, L211, k211, n211⟩ X211 ⟨Lc211, hQ211, l211, y211, z211⟩
       dsimp only [Pt.U, Pt.locs, Pt.cells, Pt.slots] at X211 l211 y211 z211 hQ211 ⊢
       subst l211 y211 z211
       obtain ⟨rfl, N211q, e211⟩ := hQ211
       have N212 := Fr.app N207 N211q
       show Runs _ _ _ _ (T211.setTop (mkF m 183 #[.val (.int p0), .val (.int p1), .val (.int p2), .val (.int p3), .val (.ref b20), .val (.ref b40), .val (.int (if (p3 &&& (1 : Int32)) = (0 : Int32) then (0 : Int32) else (1 : Int32))), .val (.int (p0 &&& (3 : Int32))), .val (.ref b175), .val (.ref b195), .val (.int (0 : Int32))] [(.int (0 : Int32))]))
       refine w_iload X211 hx (hb hby at_183) rfl (pc' := 185) rfl ?_
       refine w_icN X211 hx (hb hby at_185) (teq (by decide : (0 : Int32) = (0 : Int32))).2 (pc' := 188) rfl ?_
       refine w_iconst X211 hx (hb hby at_188) (v := (1 : Int32)) rfl (pc' := 189) rfl ?_
       refine w_goto X211 hx (hb hby at_189) (pc' := 193) (by decide) (by decide) ?_
       exact w_doneH X211 hlk (v := some (.int (1 : Int32))) e211 hh hZ (own_EW hw) hS0 (Nat.le_trans (Nat.le_refl _) le210) C208 (fun h => by rw [hret] at h; cases h) (fun fs hr => retN X211 hx (t := .boolean) hret (by simp) (hb hby at_193) hr) (by decide) (by decide) (fun hsy => ⟨rfl, N212⟩)
set_option maxRecDepth 65536 in
set_option maxHeartbeats 40000000 in
theorem comes_1 {Post : Tables → Env → Array Value → State → Outcome → State → Prop} (hpost : ∀ tb e args s v u, (limb_1_1.after args s (.returned v) u = true ∧ limb_1_2.after args s (.returned v) u = true ∧ True) → ReturnedEndW s (.returned v) u (Jvm.fieldLocs frame_1_writes args s ++ Jvm.arrayLocs frame_1_arrays args s ++ Jvm.staticLocs frame_1_statics s) 24 1152 → Post tb e args s (.returned v) u) :
    ArmFor flags0 classFile x code maxLocals ret World_1 tables_1 room_1 Calls_1 rest_1 Pre_1 Post := by
  intro l hfl _ _ p e ha hc hk s m args below hf hA hF happ hP
  obtain ⟨hcalls, hrest, hpre⟩ := hP
  obtain ⟨-, -, -, hnamed, -, -, -, hat⟩ := (Spec.applies_iff hf).mp happ
  obtain ⟨hg, hn⟩ := and_e (Cond.before_iff.mp (show (Jvm.Cond.and given_1 narrow_1).before args s = true from hpre))
  obtain ⟨gv1, gv2⟩ := and_e hg
  obtain ⟨gv3, gv4⟩ := and_e gv2
  obtain ⟨gv5, gv6⟩ := and_e gv4
  obtain ⟨gv7, gv8⟩ := and_e gv6
  obtain ⟨w0, w1, w2, w3, rfl⟩ : ∃ w0 w1 w2 w3 : Value, args = #[w0, w1, w2, w3] := by
    have hs : args.size = 4 := by simpa [Cond.value, given_1] using gv1
    obtain ⟨L⟩ := args
    match L, hs with
    | [w0, w1, w2, w3], _ => exact ⟨w0, w1, w2, w3, rfl⟩
  have hw := fun d (hd : d ∈ tables_1) => atoms_spec (ws := Jvm.Cond.code x code maxLocals ret :: tables_1) hat d (List.mem_cons_of_mem _ hd)
  have hfit : Fit s := fun {y c} hc i hi => by
    obtain ⟨ha, rfl⟩ := Array.getElem?_eq_some_iff.mp hc
    have q := List.all_eq_true.mp ((Array.all_eq_true_iff_forall_mem.mp hF) _ (Array.getElem_mem ha)) i (List.mem_range.mpr hi)
    simpa [Array.getElem?_eq_getElem hi] using q
  obtain ⟨hsets, hown0⟩ := atoms_of _ (rest_1_c_eq ▸ (show rest_1_c.before _ s = true from hrest))
  have hr0 := Cond.before_iff.mp hown0
  obtain ⟨i0, ei0⟩ := is_v gv3
  obtain rfl : w0 = (.int i0) := Option.some.inj ei0
  obtain ⟨i1, ei1⟩ := is_v gv5
  obtain rfl : w1 = (.int i1) := Option.some.inj ei1
  obtain ⟨i2, ei2⟩ := is_v gv7
  obtain rfl : w2 = (.int i2) := Option.some.inj ei2
  obtain ⟨i3, ei3⟩ := is_v gv8
  obtain rfl : w3 = (.int i3) := Option.some.inj ei3
  obtain ⟨G_COMPACT_STRINGS, ev_G_COMPACT_STRINGS⟩ := is_v (Cond.before_iff.mp (hsets _ (List.mem_of_getElem? (i := 1) rfl)))
  have S_COMPACT_STRINGS := Sta.start ev_G_COMPACT_STRINGS (Or.inl (hsets _ (List.mem_of_getElem? (i := 0) rfl)))
  have hP_2 : ¬ (G_COMPACT_STRINGS = (0 : Int32)) := fun q => by
    have h9 := not_v (Cond.before_iff.mp (hsets _ (List.mem_of_getElem? (i := 2) rfl)))
    rw [eq_i ev_G_COMPACT_STRINGS (Term.int_eval 0) (by rw [q])] at h9
    cases h9
  obtain ⟨G_cache, ev_G_cache⟩ := exa_v (Cond.before_iff.mp (hsets _ (List.mem_of_getElem? (i := 12) rfl)))
  have S_cache := Sta.start ev_G_cache (Or.inl (hsets _ (List.mem_of_getElem? (i := 10) rfl)))
  obtain ⟨bxc_G_cache, AB_G_cache⟩ := Arr.start ev_G_cache (Cond.before_iff.mp (hsets _ (List.mem_of_getElem? (i := 11) rfl)))
  obtain ⟨qB_G_cache, eB_G_cache⟩ := own_len ev_G_cache AB_G_cache (Cond.before_iff.mp (hsets _ (List.mem_of_getElem? (i := 13) rfl)))
  have BX_G_cache : Bxs s G_cache bxc_G_cache "java/lang/Character" "C" (128 : Int32) (fun j => .int j) := Bxs.start (fun _ => ev_G_cache) AB_G_cache qB_G_cache eB_G_cache (by decide) (Cond.before_iff.mp (hsets _ (List.mem_of_getElem? (i := 14) rfl))) (fun X j nn h => eqv_i (idx_at nn) h)
  have hCH : CHv s EL s.vm s.heap := CHv.start (own_EW hw) (fun p hp => hcalls.1 p hp) (hsets _ (List.mem_of_getElem? (i := 2) rfl)) (wd_19 hw) (wd_2 hw)
  obtain ⟨n, o, h1, h2, h3, _, L, rfl, ⟨rfl, N⟩, -, hq⟩ := rm_law l s _ hw tables_1 i0 i1 i2 i3 G_COMPACT_STRINGS G_cache bxc_G_cache s.heap s.heap.size (Nat.le_refl _) S_COMPACT_STRINGS (Old.start s) hP_2 S_cache BX_G_cache p e ha hc hk s m _ below hf ((Spec.applies_iff_loose hf).mp happ).1 ⟨rfl, State.Warmed39.refl s, rfl, hCH, fun x hx => nomatch hx⟩ trivial
  refine ⟨n, _, h1, h2, h3, hpost _ _ _ _ _ _ ⟨Cond.after_iff.mpr rfl, Cond.after_iff.mpr (eq_i res_at (Term.int_eval (1)) rfl), trivial⟩ ⟨hq.1, hq.2.1, hq.2.2.1, (hq.2.2.2.sift fun y hy => Or.inr (N y hy)).mono (by decide) (by decide)⟩⟩
theorem main_1_1 : Claimed_1_1 := comes_1 fun _ _ _ _ _ _ h hF => ⟨h.1, hF⟩
theorem main_1_2 : Claimed_1_2 := comes_1 fun _ _ _ _ _ _ h hF => ⟨h.2.1, hF⟩
end Jvm.Pilot.@@N@@
namespace Jvm.Pilot.@@N@@
open Jvm Jvm.ClassFile Sem Op Lib Jvm.Free Jvm.Stand Jvm.Pilot.@@N@@.Jvm.D
/-! MADE BY PROGRAM (witnessworld.py) out of the Statement's table words and the real class files: 24 classes; the members and pool entries that the words name. The judged class is class 1, her method 1. -/
namespace start1
open Jvm.ClassFile
def u (s : String) : CpInfo := .utf8 (stringToUtf16 s)
/-- a pool by its gaps: so many unusable entries, then the entry; so many at the end -/
def gap : Nat → List CpInfo → List CpInfo
  | 0, r => r
  | n + 1, r => .unusable :: gap n r
def poolList (es : List (Nat × CpInfo)) (last : Nat) : List CpInfo := es.foldr (fun e r => gap e.1 (e.2 :: r)) (gap last [])
def pool (es : List (Nat × CpInfo)) (last : Nat) : Array CpInfo := ⟨poolList es last⟩
def fileOf (pool : Array CpInfo) (this : Nat) (attrs : Array Attribute := #[]) (ms : Array MethodInfo := #[]) (fl : Nat := 33) (sup : Nat := 0) (ifs : Array Nat := #[]) (fds : Array FieldInfo := #[]) : ClassFile where
  minorVersion := 0
  majorVersion := 65
  constantPool := pool
  accessFlags := fl
  thisClass := this
  superClass := sup
  interfaces := ifs
  fields := fds
  methods := ms
  attributes := attrs
def plain (name : String) (sup : Option ClassId) : Class where
  name := name
  kind := .ordinary
  loader := none
  accessFlags := 33
  super := sup
  interfaces := #[]
  cf := none
  fields := #[]
  methods := #[]
  instanceTypes := #[]
  staticTypes := #[]
  resolved := #[]
  callSites := []
  init := .initialized
  statics := none
  mirror := none

def pool0 : Array CpInfo := pool [(5, u "<init>"), (0, u "()V"), (1, .class_ 10), (1, u "java/lang/Object")] 113

def k0c0 : Code := { maxStack := 0, maxLocals := 1, code := object_method_1_code, exceptionTable := #[], attributes := #[] }
def k0m0 : Method := { name := "<init>", desc := "()V", sig := { parameters := [], returnType := none }, accessFlags := 1, code := some k0c0 }
/-- java/lang/Object -/
def k0 : Class := { plain "java/lang/Object" none with
  accessFlags := 33
  interfaces := #[]
  cf := some (fileOf pool0 8 #[] #[{ accessFlags := 1, nameIndex := 5, descriptorIndex := 6, attributes := #[] }] 33 0 #[] #[])
  fields := #[]
  methods := #[k0m0]
  instanceTypes := #[]
  staticTypes := #[]
  resolved := Array.replicate 124 none
  statics := none }

def pool1 : Array CpInfo := pool [(2, .class_ 4), (1, u "java/lang/Object"), (0, u "<init>"), (0, u "()V"), (0, .class_ 8), (0, u "java/lang/String"), (0, .methodref 7 10), (0, .nameAndType 5 11), (0, u "([C)V"), (0, .methodref 13 14), (0, .class_ 15), (0, .nameAndType 16 17), (0, u "com/example/indexwright/indexwright/OptionSpec"), (0, u "ofSwitch"), (0, u "(Ljava/lang/String;C)Lcom/example/indexwright/indexwright/OptionSpec;"), (0, .methodref 13 19), (0, .nameAndType 20 21), (0, u "isSwitch"), (0, u "()Z"), (0, .methodref 13 23), (0, .nameAndType 5 24), (0, u "(Ljava/lang/String;Ljava/lang/String;Z)V"), (0, .class_ 26), (0, u "com/example/indexwright/indexwright/OptionSpecIsSwitchPinLaw"), (2, u "law"), (0, u "(IIII)Z")] 5

def k1m0 : Method := { name := "<init>", desc := "()V", sig := { parameters := [], returnType := none }, accessFlags := 1, code := none }
def k1c1 : Code := { maxStack := 5, maxLocals := 11, code := code, exceptionTable := #[], attributes := #[] }
def k1m1 : Method := { name := "law", desc := "(IIII)Z", sig := { parameters := [.int, .int, .int, .int], returnType := some .boolean }, accessFlags := 9, code := some k1c1 }
/-- com/example/indexwright/indexwright/OptionSpecIsSwitchPinLaw -/
def k1 : Class := { plain "com/example/indexwright/indexwright/OptionSpecIsSwitchPinLaw" (some 0) with
  accessFlags := 49
  interfaces := #[]
  cf := some (fileOf pool1 25 #[] #[{ accessFlags := 1, nameIndex := 5, descriptorIndex := 6, attributes := #[] }, { accessFlags := 9, nameIndex := 29, descriptorIndex := 30, attributes := #[] }] 49 2 #[] #[])
  fields := #[]
  methods := #[k1m0, k1m1]
  instanceTypes := #[]
  staticTypes := #[]
  resolved := Array.replicate 36 none
  statics := none }

def pool2 : Array CpInfo := pool [(1, .class_ 2), (0, u "java/io/Serializable"), (0, .class_ 4), (0, u "java/lang/Object")] 2

/-- java/io/Serializable -/
def k2 : Class := { plain "java/io/Serializable" (some 0) with
  accessFlags := 1537
  interfaces := #[]
  cf := some (fileOf pool2 1 #[] #[] 1537 3 #[] #[])
  fields := #[]
  methods := #[]
  instanceTypes := #[]
  staticTypes := #[]
  resolved := Array.replicate 7 none
  statics := none }

def pool3 : Array CpInfo := pool [(1, .class_ 2), (0, u "java/lang/Comparable"), (0, .class_ 4), (0, u "java/lang/Object")] 7

/-- java/lang/Comparable -/
def k3 : Class := { plain "java/lang/Comparable" (some 0) with
  accessFlags := 1537
  interfaces := #[]
  cf := some (fileOf pool3 1 #[] #[] 1537 3 #[] #[])
  fields := #[]
  methods := #[]
  instanceTypes := #[]
  staticTypes := #[]
  resolved := Array.replicate 12 none
  statics := none }

def pool4 : Array CpInfo := pool [(2, .class_ 4), (1, u "java/lang/CharSequence"), (42, .class_ 48), (0, u "java/lang/CharSequence$1CodePointIterator"), (10, .class_ 60), (0, u "java/lang/CharSequence$1CharIterator"), (5, .class_ 67), (0, u "java/lang/Object")] 63

/-- java/lang/CharSequence -/
def k4 : Class := { plain "java/lang/CharSequence" (some 0) with
  accessFlags := 1537
  interfaces := #[]
  cf := some (fileOf pool4 2 #[.nestMembers #[47, 59]] #[] 1537 66 #[] #[])
  fields := #[]
  methods := #[]
  instanceTypes := #[]
  staticTypes := #[]
  resolved := Array.replicate 131 none
  statics := none }

def pool5 : Array CpInfo := pool [(1, .class_ 2), (0, u "java/lang/constant/Constable"), (0, .class_ 4), (0, u "java/lang/Object")] 6

/-- java/lang/constant/Constable -/
def k5 : Class := { plain "java/lang/constant/Constable" (some 0) with
  accessFlags := 1537
  interfaces := #[]
  cf := some (fileOf pool5 1 #[] #[] 1537 3 #[] #[])
  fields := #[]
  methods := #[]
  instanceTypes := #[]
  staticTypes := #[]
  resolved := Array.replicate 11 none
  statics := none }

def pool6 : Array CpInfo := pool [(1, .class_ 2), (0, u "java/lang/constant/ConstantDesc"), (0, .class_ 4), (0, u "java/lang/Object")] 32

/-- java/lang/constant/ConstantDesc -/
def k6 : Class := { plain "java/lang/constant/ConstantDesc" (some 0) with
  accessFlags := 1537
  interfaces := #[]
  cf := some (fileOf pool6 1 #[] #[] 1537 3 #[] #[])
  fields := #[]
  methods := #[]
  instanceTypes := #[]
  staticTypes := #[]
  resolved := Array.replicate 37 none
  statics := none }

def pool7 : Array CpInfo := pool [(1, .methodref 2 3), (0, .class_ 4), (0, .nameAndType 5 6), (0, u "java/lang/Object"), (0, u "<init>"), (0, u "()V"), (0, .string 8), (0, u ""), (0, .fieldref 10 11), (0, .class_ 12), (0, .nameAndType 13 14), (0, u "java/lang/String"), (0, u "value"), (0, u "[B"), (0, .fieldref 10 16), (0, .nameAndType 17 18), (0, u "coder"), (0, u "B"), (2, u "hash"), (0, u "I"), (2, u "hashIsZero"), (0, u "Z"), (0, .methodref 10 28), (0, .nameAndType 5 29), (0, u "([CIILjava/lang/Void;)V"), (8, .fieldref 10 39), (0, .nameAndType 40 26), (0, u "COMPACT_STRINGS"), (1, .class_ 44), (1, u "java/lang/StringUTF16"), (0, u "compress"), (1, .methodref 42 48), (0, .nameAndType 49 50), (0, u "coderFromArrayLen"), (0, u "([BI)B"), (126, .methodref 42 178), (0, .nameAndType 45 179), (0, u "([CII)[B"), (395, .class_ 576), (0, u "java/lang/CharSequence"), (22, u "CASE_INSENSITIVE_ORDER"), (0, u "Ljava/util/Comparator;"), (409, u "([C)V"), (90, u "serialPersistentFields"), (0, u "[Ljava/io/ObjectStreamField;"), (0, .class_ 1104), (0, u "java/lang/String$CaseInsensitiveComparator"), (1, .class_ 1107), (0, u "java/io/Serializable"), (0, .class_ 1109), (0, u "java/lang/Comparable"), (0, .class_ 1111), (0, u "java/lang/constant/Constable"), (0, .class_ 1113), (0, u "java/lang/constant/ConstantDesc"), (2, u "serialVersionUID"), (0, u "J"), (3, u "REPL"), (0, u "C"), (2, u "LATIN1"), (1, u "UTF16")] 323

def k7m0 : Method := { name := "<init>", desc := "()V", sig := { parameters := [], returnType := none }, accessFlags := 1, code := none }
def k7c1 : Code := { maxStack := 5, maxLocals := 2, code := jdk_42_method_3_code, exceptionTable := #[], attributes := #[] }
def k7m1 : Method := { name := "<init>", desc := "([C)V", sig := { parameters := [(.array .char)], returnType := none }, accessFlags := 1, code := some k7c1 }
def k7c2 : Code := { maxStack := 4, maxLocals := 6, code := jdk_42_method_149_code, exceptionTable := #[], attributes := #[] }
def k7m2 : Method := { name := "<init>", desc := "([CIILjava/lang/Void;)V", sig := { parameters := [(.array .char), .int, .int, (.object "java/lang/Void")], returnType := none }, accessFlags := 2, code := some k7c2 }
/-- java/lang/String -/
def k7 : Class := { plain "java/lang/String" (some 0) with
  accessFlags := 49
  interfaces := #[2, 3, 4, 5, 6]
  cf := some (fileOf pool7 10 #[.nestMembers #[1103]] #[{ accessFlags := 1, nameIndex := 5, descriptorIndex := 6, attributes := #[] }, { accessFlags := 1, nameIndex := 5, descriptorIndex := 1010, attributes := #[] }, { accessFlags := 2, nameIndex := 5, descriptorIndex := 29, attributes := #[] }] 49 2 #[1106, 1108, 575, 1110, 1112] #[{ accessFlags := 18, nameIndex := 13, descriptorIndex := 14, attributes := #[] }, { accessFlags := 18, nameIndex := 17, descriptorIndex := 18, attributes := #[] }, { accessFlags := 2, nameIndex := 21, descriptorIndex := 22, attributes := #[] }, { accessFlags := 2, nameIndex := 25, descriptorIndex := 26, attributes := #[] }, { accessFlags := 26, nameIndex := 1116, descriptorIndex := 1117, attributes := #[] }, { accessFlags := 24, nameIndex := 40, descriptorIndex := 26, attributes := #[] }, { accessFlags := 26, nameIndex := 1101, descriptorIndex := 1102, attributes := #[] }, { accessFlags := 26, nameIndex := 1121, descriptorIndex := 1122, attributes := #[] }, { accessFlags := 25, nameIndex := 599, descriptorIndex := 600, attributes := #[] }, { accessFlags := 24, nameIndex := 1125, descriptorIndex := 18, attributes := #[] }, { accessFlags := 24, nameIndex := 1127, descriptorIndex := 18, attributes := #[] }])
  fields := #[{ name := "value", type := (.array .byte), accessFlags := 18, slot := 0, constantValue := 0 }, { name := "coder", type := .byte, accessFlags := 18, slot := 1, constantValue := 0 }, { name := "hash", type := .int, accessFlags := 2, slot := 2, constantValue := 0 }, { name := "hashIsZero", type := .boolean, accessFlags := 2, slot := 3, constantValue := 0 }, { name := "serialVersionUID", type := .long, accessFlags := 26, slot := 0, constantValue := 0 }, { name := "COMPACT_STRINGS", type := .boolean, accessFlags := 24, slot := 1, constantValue := 0 }, { name := "serialPersistentFields", type := (.array (.object "java/io/ObjectStreamField")), accessFlags := 26, slot := 2, constantValue := 0 }, { name := "REPL", type := .char, accessFlags := 26, slot := 3, constantValue := 0 }, { name := "CASE_INSENSITIVE_ORDER", type := (.object "java/util/Comparator"), accessFlags := 25, slot := 4, constantValue := 0 }, { name := "LATIN1", type := .byte, accessFlags := 24, slot := 5, constantValue := 0 }, { name := "UTF16", type := .byte, accessFlags := 24, slot := 6, constantValue := 0 }]
  methods := #[k7m0, k7m1, k7m2]
  instanceTypes := #[(.array .byte), .byte, .int, .boolean]
  staticTypes := #[.long, .boolean, (.array (.object "java/io/ObjectStreamField")), .char, (.object "java/util/Comparator"), .byte, .byte]
  resolved := Array.replicate 1451 none
  statics := some 0 }

def pool8 : Array CpInfo := pool [(6, .class_ 8), (1, u "java/lang/Object"), (0, u "<init>"), (0, u "()V"), (1, .class_ 14), (1, u "java/lang/StringUTF16"), (31, u "$assertionsDisabled"), (0, u "Z"), (13, u "HI_BYTE_SHIFT"), (0, u "I"), (2, u "LO_BYTE_SHIFT"), (49, .methodref 12 116), (0, .nameAndType 117 118), (0, u "compress"), (0, u "([CI[BII)I"), (3, u "([CII)[B"), (138, u "coderFromArrayLen"), (0, u "([BI)B"), (106, .class_ 371), (1, u "java/lang/StringUTF16$LinesSpliterator"), (58, u "MAX_LENGTH"), (196, .class_ 628), (0, u "java/lang/StringUTF16$CodePointsSpliterator"), (0, .class_ 630), (0, u "java/lang/StringUTF16$CharsSpliterator")] 4

def k8m0 : Method := { name := "<init>", desc := "()V", sig := { parameters := [], returnType := none }, accessFlags := 0, code := none }
def k8c1 : Code := { maxStack := 2, maxLocals := 2, code := jdk_52_method_15_code, exceptionTable := #[], attributes := #[] }
def k8m1 : Method := { name := "coderFromArrayLen", desc := "([BI)B", sig := { parameters := [(.array .byte), .int], returnType := some .byte }, accessFlags := 8, code := some k8c1 }
def k8c2 : Code := { maxStack := 5, maxLocals := 6, code := jdk_52_method_16_code, exceptionTable := #[], attributes := #[] }
def k8m2 : Method := { name := "compress", desc := "([CII)[B", sig := { parameters := [(.array .char), .int, .int], returnType := some (.array .byte) }, accessFlags := 9, code := some k8c2 }
def k8c3 : Code := { maxStack := 3, maxLocals := 7, code := jdk_52_method_21_code, exceptionTable := #[], attributes := #[] }
def k8m3 : Method := { name := "compress", desc := "([CI[BII)I", sig := { parameters := [(.array .char), .int, (.array .byte), .int, .int], returnType := some .int }, accessFlags := 9, code := some k8c3 }
/-- java/lang/StringUTF16 -/
def k8 : Class := { plain "java/lang/StringUTF16" (some 0) with
  accessFlags := 48
  interfaces := #[]
  cf := some (fileOf pool8 12 #[.nestMembers #[627, 629, 369]] #[{ accessFlags := 0, nameIndex := 9, descriptorIndex := 10, attributes := #[] }, { accessFlags := 8, nameIndex := 261, descriptorIndex := 262, attributes := #[] }, { accessFlags := 9, nameIndex := 117, descriptorIndex := 122, attributes := #[] }, { accessFlags := 9, nameIndex := 117, descriptorIndex := 118, attributes := #[] }] 48 6 #[] #[{ accessFlags := 26, nameIndex := 61, descriptorIndex := 62, attributes := #[] }, { accessFlags := 26, nameIndex := 65, descriptorIndex := 62, attributes := #[] }, { accessFlags := 24, nameIndex := 430, descriptorIndex := 62, attributes := #[] }, { accessFlags := 4120, nameIndex := 46, descriptorIndex := 47, attributes := #[] }])
  fields := #[{ name := "HI_BYTE_SHIFT", type := .int, accessFlags := 26, slot := 0, constantValue := 0 }, { name := "LO_BYTE_SHIFT", type := .int, accessFlags := 26, slot := 1, constantValue := 0 }, { name := "MAX_LENGTH", type := .int, accessFlags := 24, slot := 2, constantValue := 0 }, { name := "$assertionsDisabled", type := .boolean, accessFlags := 4120, slot := 3, constantValue := 0 }]
  methods := #[k8m0, k8m1, k8m2, k8m3]
  instanceTypes := #[]
  staticTypes := #[.int, .int, .int, .boolean]
  resolved := Array.replicate 635 none
  statics := none }

def pool9 : Array CpInfo := pool [(1, .methodref 2 3), (0, .class_ 4), (0, .nameAndType 5 6), (0, u "java/lang/Object"), (0, u "<init>"), (0, u "()V"), (0, .class_ 8), (0, u "java/lang/Record")] 13

def k9c0 : Code := { maxStack := 1, maxLocals := 1, code := jdk_30_method_1_code, exceptionTable := #[], attributes := #[] }
def k9m0 : Method := { name := "<init>", desc := "()V", sig := { parameters := [], returnType := none }, accessFlags := 4, code := some k9c0 }
/-- java/lang/Record -/
def k9 : Class := { plain "java/lang/Record" (some 0) with
  accessFlags := 1057
  interfaces := #[]
  cf := some (fileOf pool9 7 #[] #[{ accessFlags := 4, nameIndex := 5, descriptorIndex := 6, attributes := #[] }] 1057 2 #[] #[])
  fields := #[]
  methods := #[k9m0]
  instanceTypes := #[]
  staticTypes := #[]
  resolved := Array.replicate 22 none
  statics := none }

def pool10 : Array CpInfo := pool [(1, .methodref 2 3), (0, .class_ 4), (0, .nameAndType 5 6), (0, u "java/lang/Record"), (0, u "<init>"), (0, u "()V"), (0, .fieldref 8 9), (0, .class_ 10), (0, .nameAndType 11 12), (0, u "com/example/indexwright/indexwright/OptionSpec"), (0, u "name"), (0, u "Ljava/lang/String;"), (0, .fieldref 8 14), (0, .nameAndType 15 12), (0, u "valueName"), (0, .fieldref 8 17), (0, .nameAndType 18 19), (0, u "required"), (0, u "Z"), (0, .fieldref 8 21), (0, .nameAndType 22 23), (0, u "letter"), (0, u "Ljava/lang/Character;"), (0, .methodref 8 25), (0, .nameAndType 5 26), (0, u "(Ljava/lang/String;Ljava/lang/String;ZLjava/lang/Character;)V"), (0, .methodref 28 29), (0, .class_ 30), (0, .nameAndType 31 32), (0, u "java/lang/Character"), (0, u "valueOf"), (0, u "(C)Ljava/lang/Character;"), (21, u "isSwitch"), (0, u "()Z"), (15, u "(Ljava/lang/String;Ljava/lang/String;Z)V"), (3, u "ofSwitch"), (0, u "(Ljava/lang/String;C)Lcom/example/indexwright/indexwright/OptionSpec;")] 49

def k10c0 : Code := { maxStack := 5, maxLocals := 4, code := prog_4_method_1_code, exceptionTable := #[], attributes := #[] }
def k10m0 : Method := { name := "<init>", desc := "(Ljava/lang/String;Ljava/lang/String;Z)V", sig := { parameters := [(.object "java/lang/String"), (.object "java/lang/String"), .boolean], returnType := none }, accessFlags := 0, code := some k10c0 }
def k10c1 : Code := { maxStack := 2, maxLocals := 5, code := prog_4_method_2_code, exceptionTable := #[], attributes := #[] }
def k10m1 : Method := { name := "<init>", desc := "(Ljava/lang/String;Ljava/lang/String;ZLjava/lang/Character;)V", sig := { parameters := [(.object "java/lang/String"), (.object "java/lang/String"), .boolean, (.object "java/lang/Character")], returnType := none }, accessFlags := 0, code := some k10c1 }
def k10c2 : Code := { maxStack := 6, maxLocals := 2, code := prog_4_method_3_code, exceptionTable := #[], attributes := #[] }
def k10m2 : Method := { name := "ofSwitch", desc := "(Ljava/lang/String;C)Lcom/example/indexwright/indexwright/OptionSpec;", sig := { parameters := [(.object "java/lang/String"), .char], returnType := some (.object "com/example/indexwright/indexwright/OptionSpec") }, accessFlags := 8, code := some k10c2 }
def k10c3 : Code := { maxStack := 1, maxLocals := 1, code := prog_4_method_4_code, exceptionTable := #[], attributes := #[] }
def k10m3 : Method := { name := "isSwitch", desc := "()Z", sig := { parameters := [], returnType := some .boolean }, accessFlags := 0, code := some k10c3 }
/-- com/example/indexwright/indexwright/OptionSpec -/
def k10 : Class := { plain "com/example/indexwright/indexwright/OptionSpec" (some 9) with
  accessFlags := 48
  interfaces := #[]
  cf := some (fileOf pool10 8 #[] #[{ accessFlags := 0, nameIndex := 5, descriptorIndex := 71, attributes := #[] }, { accessFlags := 0, nameIndex := 5, descriptorIndex := 26, attributes := #[] }, { accessFlags := 8, nameIndex := 75, descriptorIndex := 76, attributes := #[] }, { accessFlags := 0, nameIndex := 54, descriptorIndex := 55, attributes := #[] }] 48 2 #[] #[{ accessFlags := 18, nameIndex := 11, descriptorIndex := 12, attributes := #[] }, { accessFlags := 18, nameIndex := 15, descriptorIndex := 12, attributes := #[] }, { accessFlags := 18, nameIndex := 18, descriptorIndex := 19, attributes := #[] }, { accessFlags := 18, nameIndex := 22, descriptorIndex := 23, attributes := #[] }])
  fields := #[{ name := "name", type := (.object "java/lang/String"), accessFlags := 18, slot := 0, constantValue := 0 }, { name := "valueName", type := (.object "java/lang/String"), accessFlags := 18, slot := 1, constantValue := 0 }, { name := "required", type := .boolean, accessFlags := 18, slot := 2, constantValue := 0 }, { name := "letter", type := (.object "java/lang/Character"), accessFlags := 18, slot := 3, constantValue := 0 }]
  methods := #[k10m0, k10m1, k10m2, k10m3]
  instanceTypes := #[(.object "java/lang/String"), (.object "java/lang/String"), .boolean, (.object "java/lang/Character")]
  staticTypes := #[]
  resolved := Array.replicate 126 none
  statics := none }

def pool11 : Array CpInfo := pool [(1, .class_ 2), (0, u "java/lang/Character"), (16, .fieldref 1 20), (0, .nameAndType 21 22), (0, u "value"), (0, u "C"), (4, u "valueOf"), (13, .methodref 42 43), (0, .class_ 44), (0, .nameAndType 45 46), (0, u "java/lang/Object"), (0, u "<init>"), (0, u "()V"), (0, .fieldref 48 49), (0, .class_ 50), (0, .nameAndType 51 52), (0, u "java/lang/Character$CharacterCache"), (0, u "cache"), (0, u "[Ljava/lang/Character;"), (0, .methodref 1 54), (0, .nameAndType 45 55), (0, u "(C)V"), (228, u "$assertionsDisabled"), (0, u "Z"), (21, .class_ 309), (1, u "java/lang/Character$UnicodeBlock"), (73, u "TYPE"), (0, u "Ljava/lang/Class;"), (0, .class_ 386), (0, u "java/io/Serializable"), (0, .class_ 388), (0, u "java/lang/Comparable"), (0, .class_ 390), (0, u "java/lang/constant/Constable"), (0, u "MIN_RADIX"), (0, u "I"), (2, u "MAX_RADIX"), (1, u "MIN_VALUE"), (1, u "MAX_VALUE"), (3, u "UNASSIGNED"), (0, u "B"), (0, u "UPPERCASE_LETTER"), (1, u "LOWERCASE_LETTER"), (0, u "TITLECASE_LETTER"), (1, u "MODIFIER_LETTER"), (1, u "OTHER_LETTER"), (1, u "NON_SPACING_MARK"), (1, u "ENCLOSING_MARK"), (1, u "COMBINING_SPACING_MARK"), (1, u "DECIMAL_DIGIT_NUMBER"), (1, u "LETTER_NUMBER"), (1, u "OTHER_NUMBER"), (1, u "SPACE_SEPARATOR"), (1, u "LINE_SEPARATOR"), (1, u "PARAGRAPH_SEPARATOR"), (1, u "CONTROL"), (1, u "FORMAT"), (1, u "PRIVATE_USE"), (1, u "SURROGATE"), (1, u "DASH_PUNCTUATION"), (1, u "START_PUNCTUATION"), (1, u "END_PUNCTUATION"), (1, u "CONNECTOR_PUNCTUATION"), (1, u "OTHER_PUNCTUATION"), (1, u "MATH_SYMBOL"), (1, u "CURRENCY_SYMBOL"), (1, u "MODIFIER_SYMBOL"), (1, u "OTHER_SYMBOL"), (1, u "INITIAL_QUOTE_PUNCTUATION"), (1, u "FINAL_QUOTE_PUNCTUATION"), (1, u "ERROR"), (1, u "DIRECTIONALITY_UNDEFINED"), (0, u "DIRECTIONALITY_LEFT_TO_RIGHT"), (0, u "DIRECTIONALITY_RIGHT_TO_LEFT"), (0, u "DIRECTIONALITY_RIGHT_TO_LEFT_ARABIC"), (0, u "DIRECTIONALITY_EUROPEAN_NUMBER"), (0, u "DIRECTIONALITY_EUROPEAN_NUMBER_SEPARATOR"), (0, u "DIRECTIONALITY_EUROPEAN_NUMBER_TERMINATOR"), (0, u "DIRECTIONALITY_ARABIC_NUMBER"), (0, u "DIRECTIONALITY_COMMON_NUMBER_SEPARATOR"), (0, u "DIRECTIONALITY_NONSPACING_MARK"), (0, u "DIRECTIONALITY_BOUNDARY_NEUTRAL"), (0, u "DIRECTIONALITY_PARAGRAPH_SEPARATOR"), (0, u "DIRECTIONALITY_SEGMENT_SEPARATOR"), (0, u "DIRECTIONALITY_WHITESPACE"), (0, u "DIRECTIONALITY_OTHER_NEUTRALS"), (0, u "DIRECTIONALITY_LEFT_TO_RIGHT_EMBEDDING"), (0, u "DIRECTIONALITY_LEFT_TO_RIGHT_OVERRIDE"), (0, u "DIRECTIONALITY_RIGHT_TO_LEFT_EMBEDDING"), (0, u "DIRECTIONALITY_RIGHT_TO_LEFT_OVERRIDE"), (1, u "DIRECTIONALITY_POP_DIRECTIONAL_FORMAT"), (0, u "DIRECTIONALITY_LEFT_TO_RIGHT_ISOLATE"), (0, u "DIRECTIONALITY_RIGHT_TO_LEFT_ISOLATE"), (0, u "DIRECTIONALITY_FIRST_STRONG_ISOLATE"), (0, u "DIRECTIONALITY_POP_DIRECTIONAL_ISOLATE"), (0, u "MIN_HIGH_SURROGATE"), (0, u "MAX_HIGH_SURROGATE"), (1, u "MIN_LOW_SURROGATE"), (0, u "MAX_LOW_SURROGATE"), (1, u "MIN_SURROGATE"), (0, u "MAX_SURROGATE"), (0, u "MIN_SUPPLEMENTARY_CODE_POINT"), (0, u "MIN_CODE_POINT"), (0, u "MAX_CODE_POINT"), (1, u "serialVersionUID"), (0, u "J"), (2, u "SIZE"), (0, u "BYTES"), (14, u "(C)Ljava/lang/Character;"), (73, .class_ 596), (0, u "java/lang/Character$UnicodeScript"), (0, .class_ 598), (0, u "java/lang/Character$Subset")] 5

def k11c0 : Code := { maxStack := 2, maxLocals := 2, code := jdk_89_method_2_code, exceptionTable := #[], attributes := #[] }
def k11m0 : Method := { name := "<init>", desc := "(C)V", sig := { parameters := [.char], returnType := none }, accessFlags := 1, code := some k11c0 }
def k11c1 : Code := { maxStack := 3, maxLocals := 1, code := jdk_89_method_3_code, exceptionTable := #[], attributes := #[] }
def k11m1 : Method := { name := "valueOf", desc := "(C)Ljava/lang/Character;", sig := { parameters := [.char], returnType := some (.object "java/lang/Character") }, accessFlags := 9, code := some k11c1 }
/-- java/lang/Character -/
def k11 : Class := { plain "java/lang/Character" (some 0) with
  accessFlags := 49
  interfaces := #[2, 3, 5]
  cf := some (fileOf pool11 1 #[.nestMembers #[48, 595, 307, 597]] #[{ accessFlags := 1, nameIndex := 45, descriptorIndex := 55, attributes := #[] }, { accessFlags := 9, nameIndex := 27, descriptorIndex := 521, attributes := #[] }] 49 42 #[385, 387, 389] #[{ accessFlags := 25, nameIndex := 391, descriptorIndex := 392, attributes := #[] }, { accessFlags := 25, nameIndex := 395, descriptorIndex := 392, attributes := #[] }, { accessFlags := 25, nameIndex := 397, descriptorIndex := 22, attributes := #[] }, { accessFlags := 25, nameIndex := 399, descriptorIndex := 22, attributes := #[] }, { accessFlags := 25, nameIndex := 383, descriptorIndex := 384, attributes := #[] }, { accessFlags := 25, nameIndex := 403, descriptorIndex := 404, attributes := #[] }, { accessFlags := 25, nameIndex := 405, descriptorIndex := 404, attributes := #[] }, { accessFlags := 25, nameIndex := 407, descriptorIndex := 404, attributes := #[] }, { accessFlags := 25, nameIndex := 408, descriptorIndex := 404, attributes := #[] }, { accessFlags := 25, nameIndex := 410, descriptorIndex := 404, attributes := #[] }, { accessFlags := 25, nameIndex := 412, descriptorIndex := 404, attributes := #[] }, { accessFlags := 25, nameIndex := 414, descriptorIndex := 404, attributes := #[] }, { accessFlags := 25, nameIndex := 416, descriptorIndex := 404, attributes := #[] }, { accessFlags := 25, nameIndex := 418, descriptorIndex := 404, attributes := #[] }, { accessFlags := 25, nameIndex := 420, descriptorIndex := 404, attributes := #[] }, { accessFlags := 25, nameIndex := 422, descriptorIndex := 404, attributes := #[] }, { accessFlags := 25, nameIndex := 424, descriptorIndex := 404, attributes := #[] }, { accessFlags := 25, nameIndex := 426, descriptorIndex := 404, attributes := #[] }, { accessFlags := 25, nameIndex := 428, descriptorIndex := 404, attributes := #[] }, { accessFlags := 25, nameIndex := 430, descriptorIndex := 404, attributes := #[] }, { accessFlags := 25, nameIndex := 432, descriptorIndex := 404, attributes := #[] }, { accessFlags := 25, nameIndex := 434, descriptorIndex := 404, attributes := #[] }, { accessFlags := 25, nameIndex := 436, descriptorIndex := 404, attributes := #[] }, { accessFlags := 25, nameIndex := 438, descriptorIndex := 404, attributes := #[] }, { accessFlags := 25, nameIndex := 440, descriptorIndex := 404, attributes := #[] }, { accessFlags := 25, nameIndex := 442, descriptorIndex := 404, attributes := #[] }, { accessFlags := 25, nameIndex := 444, descriptorIndex := 404, attributes := #[] }, { accessFlags := 25, nameIndex := 446, descriptorIndex := 404, attributes := #[] }, { accessFlags := 25, nameIndex := 448, descriptorIndex := 404, attributes := #[] }, { accessFlags := 25, nameIndex := 450, descriptorIndex := 404, attributes := #[] }, { accessFlags := 25, nameIndex := 452, descriptorIndex := 404, attributes := #[] }, { accessFlags := 25, nameIndex := 454, descriptorIndex := 404, attributes := #[] }, { accessFlags := 25, nameIndex := 456, descriptorIndex := 404, attributes := #[] }, { accessFlags := 25, nameIndex := 458, descriptorIndex := 404, attributes := #[] }, { accessFlags := 25, nameIndex := 460, descriptorIndex := 404, attributes := #[] }, { accessFlags := 24, nameIndex := 462, descriptorIndex := 392, attributes := #[] }, { accessFlags := 25, nameIndex := 464, descriptorIndex := 404, attributes := #[] }, { accessFlags := 25, nameIndex := 465, descriptorIndex := 404, attributes := #[] }, { accessFlags := 25, nameIndex := 466, descriptorIndex := 404, attributes := #[] }, { accessFlags := 25, nameIndex := 467, descriptorIndex := 404, attributes := #[] }, { accessFlags := 25, nameIndex := 468, descriptorIndex := 404, attributes := #[] }, { accessFlags := 25, nameIndex := 469, descriptorIndex := 404, attributes := #[] }, { accessFlags := 25, nameIndex := 470, descriptorIndex := 404, attributes := #[] }, { accessFlags := 25, nameIndex := 471, descriptorIndex := 404, attributes := #[] }, { accessFlags := 25, nameIndex := 472, descriptorIndex := 404, attributes := #[] }, { accessFlags := 25, nameIndex := 473, descriptorIndex := 404, attributes := #[] }, { accessFlags := 25, nameIndex := 474, descriptorIndex := 404, attributes := #[] }, { accessFlags := 25, nameIndex := 475, descriptorIndex := 404, attributes := #[] }, { accessFlags := 25, nameIndex := 476, descriptorIndex := 404, attributes := #[] }, { accessFlags := 25, nameIndex := 477, descriptorIndex := 404, attributes := #[] }, { accessFlags := 25, nameIndex := 478, descriptorIndex := 404, attributes := #[] }, { accessFlags := 25, nameIndex := 479, descriptorIndex := 404, attributes := #[] }, { accessFlags := 25, nameIndex := 480, descriptorIndex := 404, attributes := #[] }, { accessFlags := 25, nameIndex := 481, descriptorIndex := 404, attributes := #[] }, { accessFlags := 25, nameIndex := 482, descriptorIndex := 404, attributes := #[] }, { accessFlags := 25, nameIndex := 484, descriptorIndex := 404, attributes := #[] }, { accessFlags := 25, nameIndex := 485, descriptorIndex := 404, attributes := #[] }, { accessFlags := 25, nameIndex := 486, descriptorIndex := 404, attributes := #[] }, { accessFlags := 25, nameIndex := 487, descriptorIndex := 404, attributes := #[] }, { accessFlags := 25, nameIndex := 488, descriptorIndex := 404, attributes := #[] }, { accessFlags := 25, nameIndex := 489, descriptorIndex := 22, attributes := #[] }, { accessFlags := 25, nameIndex := 490, descriptorIndex := 22, attributes := #[] }, { accessFlags := 25, nameIndex := 492, descriptorIndex := 22, attributes := #[] }, { accessFlags := 25, nameIndex := 493, descriptorIndex := 22, attributes := #[] }, { accessFlags := 25, nameIndex := 495, descriptorIndex := 22, attributes := #[] }, { accessFlags := 25, nameIndex := 496, descriptorIndex := 22, attributes := #[] }, { accessFlags := 25, nameIndex := 497, descriptorIndex := 392, attributes := #[] }, { accessFlags := 25, nameIndex := 498, descriptorIndex := 392, attributes := #[] }, { accessFlags := 25, nameIndex := 499, descriptorIndex := 392, attributes := #[] }, { accessFlags := 18, nameIndex := 21, descriptorIndex := 22, attributes := #[] }, { accessFlags := 26, nameIndex := 501, descriptorIndex := 502, attributes := #[] }, { accessFlags := 25, nameIndex := 505, descriptorIndex := 392, attributes := #[] }, { accessFlags := 25, nameIndex := 506, descriptorIndex := 392, attributes := #[] }, { accessFlags := 4120, nameIndex := 284, descriptorIndex := 285, attributes := #[] }])
  fields := #[{ name := "MIN_RADIX", type := .int, accessFlags := 25, slot := 0, constantValue := 0 }, { name := "MAX_RADIX", type := .int, accessFlags := 25, slot := 1, constantValue := 0 }, { name := "MIN_VALUE", type := .char, accessFlags := 25, slot := 2, constantValue := 0 }, { name := "MAX_VALUE", type := .char, accessFlags := 25, slot := 3, constantValue := 0 }, { name := "TYPE", type := (.object "java/lang/Class"), accessFlags := 25, slot := 4, constantValue := 0 }, { name := "UNASSIGNED", type := .byte, accessFlags := 25, slot := 5, constantValue := 0 }, { name := "UPPERCASE_LETTER", type := .byte, accessFlags := 25, slot := 6, constantValue := 0 }, { name := "LOWERCASE_LETTER", type := .byte, accessFlags := 25, slot := 7, constantValue := 0 }, { name := "TITLECASE_LETTER", type := .byte, accessFlags := 25, slot := 8, constantValue := 0 }, { name := "MODIFIER_LETTER", type := .byte, accessFlags := 25, slot := 9, constantValue := 0 }, { name := "OTHER_LETTER", type := .byte, accessFlags := 25, slot := 10, constantValue := 0 }, { name := "NON_SPACING_MARK", type := .byte, accessFlags := 25, slot := 11, constantValue := 0 }, { name := "ENCLOSING_MARK", type := .byte, accessFlags := 25, slot := 12, constantValue := 0 }, { name := "COMBINING_SPACING_MARK", type := .byte, accessFlags := 25, slot := 13, constantValue := 0 }, { name := "DECIMAL_DIGIT_NUMBER", type := .byte, accessFlags := 25, slot := 14, constantValue := 0 }, { name := "LETTER_NUMBER", type := .byte, accessFlags := 25, slot := 15, constantValue := 0 }, { name := "OTHER_NUMBER", type := .byte, accessFlags := 25, slot := 16, constantValue := 0 }, { name := "SPACE_SEPARATOR", type := .byte, accessFlags := 25, slot := 17, constantValue := 0 }, { name := "LINE_SEPARATOR", type := .byte, accessFlags := 25, slot := 18, constantValue := 0 }, { name := "PARAGRAPH_SEPARATOR", type := .byte, accessFlags := 25, slot := 19, constantValue := 0 }, { name := "CONTROL", type := .byte, accessFlags := 25, slot := 20, constantValue := 0 }, { name := "FORMAT", type := .byte, accessFlags := 25, slot := 21, constantValue := 0 }, { name := "PRIVATE_USE", type := .byte, accessFlags := 25, slot := 22, constantValue := 0 }, { name := "SURROGATE", type := .byte, accessFlags := 25, slot := 23, constantValue := 0 }, { name := "DASH_PUNCTUATION", type := .byte, accessFlags := 25, slot := 24, constantValue := 0 }, { name := "START_PUNCTUATION", type := .byte, accessFlags := 25, slot := 25, constantValue := 0 }, { name := "END_PUNCTUATION", type := .byte, accessFlags := 25, slot := 26, constantValue := 0 }, { name := "CONNECTOR_PUNCTUATION", type := .byte, accessFlags := 25, slot := 27, constantValue := 0 }, { name := "OTHER_PUNCTUATION", type := .byte, accessFlags := 25, slot := 28, constantValue := 0 }, { name := "MATH_SYMBOL", type := .byte, accessFlags := 25, slot := 29, constantValue := 0 }, { name := "CURRENCY_SYMBOL", type := .byte, accessFlags := 25, slot := 30, constantValue := 0 }, { name := "MODIFIER_SYMBOL", type := .byte, accessFlags := 25, slot := 31, constantValue := 0 }, { name := "OTHER_SYMBOL", type := .byte, accessFlags := 25, slot := 32, constantValue := 0 }, { name := "INITIAL_QUOTE_PUNCTUATION", type := .byte, accessFlags := 25, slot := 33, constantValue := 0 }, { name := "FINAL_QUOTE_PUNCTUATION", type := .byte, accessFlags := 25, slot := 34, constantValue := 0 }, { name := "ERROR", type := .int, accessFlags := 24, slot := 35, constantValue := 0 }, { name := "DIRECTIONALITY_UNDEFINED", type := .byte, accessFlags := 25, slot := 36, constantValue := 0 }, { name := "DIRECTIONALITY_LEFT_TO_RIGHT", type := .byte, accessFlags := 25, slot := 37, constantValue := 0 }, { name := "DIRECTIONALITY_RIGHT_TO_LEFT", type := .byte, accessFlags := 25, slot := 38, constantValue := 0 }, { name := "DIRECTIONALITY_RIGHT_TO_LEFT_ARABIC", type := .byte, accessFlags := 25, slot := 39, constantValue := 0 }, { name := "DIRECTIONALITY_EUROPEAN_NUMBER", type := .byte, accessFlags := 25, slot := 40, constantValue := 0 }, { name := "DIRECTIONALITY_EUROPEAN_NUMBER_SEPARATOR", type := .byte, accessFlags := 25, slot := 41, constantValue := 0 }, { name := "DIRECTIONALITY_EUROPEAN_NUMBER_TERMINATOR", type := .byte, accessFlags := 25, slot := 42, constantValue := 0 }, { name := "DIRECTIONALITY_ARABIC_NUMBER", type := .byte, accessFlags := 25, slot := 43, constantValue := 0 }, { name := "DIRECTIONALITY_COMMON_NUMBER_SEPARATOR", type := .byte, accessFlags := 25, slot := 44, constantValue := 0 }, { name := "DIRECTIONALITY_NONSPACING_MARK", type := .byte, accessFlags := 25, slot := 45, constantValue := 0 }, { name := "DIRECTIONALITY_BOUNDARY_NEUTRAL", type := .byte, accessFlags := 25, slot := 46, constantValue := 0 }, { name := "DIRECTIONALITY_PARAGRAPH_SEPARATOR", type := .byte, accessFlags := 25, slot := 47, constantValue := 0 }, { name := "DIRECTIONALITY_SEGMENT_SEPARATOR", type := .byte, accessFlags := 25, slot := 48, constantValue := 0 }, { name := "DIRECTIONALITY_WHITESPACE", type := .byte, accessFlags := 25, slot := 49, constantValue := 0 }, { name := "DIRECTIONALITY_OTHER_NEUTRALS", type := .byte, accessFlags := 25, slot := 50, constantValue := 0 }, { name := "DIRECTIONALITY_LEFT_TO_RIGHT_EMBEDDING", type := .byte, accessFlags := 25, slot := 51, constantValue := 0 }, { name := "DIRECTIONALITY_LEFT_TO_RIGHT_OVERRIDE", type := .byte, accessFlags := 25, slot := 52, constantValue := 0 }, { name := "DIRECTIONALITY_RIGHT_TO_LEFT_EMBEDDING", type := .byte, accessFlags := 25, slot := 53, constantValue := 0 }, { name := "DIRECTIONALITY_RIGHT_TO_LEFT_OVERRIDE", type := .byte, accessFlags := 25, slot := 54, constantValue := 0 }, { name := "DIRECTIONALITY_POP_DIRECTIONAL_FORMAT", type := .byte, accessFlags := 25, slot := 55, constantValue := 0 }, { name := "DIRECTIONALITY_LEFT_TO_RIGHT_ISOLATE", type := .byte, accessFlags := 25, slot := 56, constantValue := 0 }, { name := "DIRECTIONALITY_RIGHT_TO_LEFT_ISOLATE", type := .byte, accessFlags := 25, slot := 57, constantValue := 0 }, { name := "DIRECTIONALITY_FIRST_STRONG_ISOLATE", type := .byte, accessFlags := 25, slot := 58, constantValue := 0 }, { name := "DIRECTIONALITY_POP_DIRECTIONAL_ISOLATE", type := .byte, accessFlags := 25, slot := 59, constantValue := 0 }, { name := "MIN_HIGH_SURROGATE", type := .char, accessFlags := 25, slot := 60, constantValue := 0 }, { name := "MAX_HIGH_SURROGATE", type := .char, accessFlags := 25, slot := 61, constantValue := 0 }, { name := "MIN_LOW_SURROGATE", type := .char, accessFlags := 25, slot := 62, constantValue := 0 }, { name := "MAX_LOW_SURROGATE", type := .char, accessFlags := 25, slot := 63, constantValue := 0 }, { name := "MIN_SURROGATE", type := .char, accessFlags := 25, slot := 64, constantValue := 0 }, { name := "MAX_SURROGATE", type := .char, accessFlags := 25, slot := 65, constantValue := 0 }, { name := "MIN_SUPPLEMENTARY_CODE_POINT", type := .int, accessFlags := 25, slot := 66, constantValue := 0 }, { name := "MIN_CODE_POINT", type := .int, accessFlags := 25, slot := 67, constantValue := 0 }, { name := "MAX_CODE_POINT", type := .int, accessFlags := 25, slot := 68, constantValue := 0 }, { name := "value", type := .char, accessFlags := 18, slot := 0, constantValue := 0 }, { name := "serialVersionUID", type := .long, accessFlags := 26, slot := 69, constantValue := 0 }, { name := "SIZE", type := .int, accessFlags := 25, slot := 70, constantValue := 0 }, { name := "BYTES", type := .int, accessFlags := 25, slot := 71, constantValue := 0 }, { name := "$assertionsDisabled", type := .boolean, accessFlags := 4120, slot := 72, constantValue := 0 }]
  methods := #[k11m0, k11m1]
  instanceTypes := #[.char]
  staticTypes := #[.int, .int, .char, .char, (.object "java/lang/Class"), .byte, .byte, .byte, .byte, .byte, .byte, .byte, .byte, .byte, .byte, .byte, .byte, .byte, .byte, .byte, .byte, .byte, .byte, .byte, .byte, .byte, .byte, .byte, .byte, .byte, .byte, .byte, .byte, .byte, .byte, .int, .byte, .byte, .byte, .byte, .byte, .byte, .byte, .byte, .byte, .byte, .byte, .byte, .byte, .byte, .byte, .byte, .byte, .byte, .byte, .byte, .byte, .byte, .byte, .byte, .char, .char, .char, .char, .char, .char, .int, .int, .int, .long, .int, .int, .boolean]
  resolved := Array.replicate 604 none
  statics := none }

def pool12 : Array CpInfo := pool [(2, .class_ 4), (1, u "java/lang/Object"), (0, u "<init>"), (0, u "()V"), (0, .class_ 8), (0, u "java/lang/Character"), (7, .class_ 18), (1, u "java/lang/Character$CharacterCache"), (0, u "$assertionsDisabled"), (0, u "Z"), (8, u "archivedCache"), (0, u "[Ljava/lang/Character;"), (5, u "cache")] 22

def k12m0 : Method := { name := "<init>", desc := "()V", sig := { parameters := [], returnType := none }, accessFlags := 2, code := none }
/-- java/lang/Character$CharacterCache -/
def k12 : Class := { plain "java/lang/Character$CharacterCache" (some 0) with
  accessFlags := 48
  interfaces := #[]
  cf := some (fileOf pool12 16 #[.nestHost 7] #[{ accessFlags := 2, nameIndex := 5, descriptorIndex := 6, attributes := #[] }] 48 2 #[] #[{ accessFlags := 24, nameIndex := 36, descriptorIndex := 30, attributes := #[] }, { accessFlags := 8, nameIndex := 29, descriptorIndex := 30, attributes := #[] }, { accessFlags := 4120, nameIndex := 19, descriptorIndex := 20, attributes := #[] }])
  fields := #[{ name := "cache", type := (.array (.object "java/lang/Character")), accessFlags := 24, slot := 0, constantValue := 0 }, { name := "archivedCache", type := (.array (.object "java/lang/Character")), accessFlags := 8, slot := 1, constantValue := 0 }, { name := "$assertionsDisabled", type := .boolean, accessFlags := 4120, slot := 2, constantValue := 0 }]
  methods := #[k12m0]
  instanceTypes := #[]
  staticTypes := #[(.array (.object "java/lang/Character")), (.array (.object "java/lang/Character")), .boolean]
  resolved := Array.replicate 59 none
  statics := some 1 }

def pool13 : Array CpInfo := pool [(4, .class_ 6), (1, u "java/lang/Object"), (0, u "<init>"), (0, u "()V"), (5, .class_ 16), (1, u "java/lang/StringLatin1"), (104, u "$assertionsDisabled"), (0, u "Z"), (98, .class_ 223), (1, u "java/lang/StringLatin1$LinesSpliterator"), (166, .class_ 391), (0, u "java/lang/StringLatin1$CharsSpliterator")] 3

def k13m0 : Method := { name := "<init>", desc := "()V", sig := { parameters := [], returnType := none }, accessFlags := 0, code := none }
/-- java/lang/StringLatin1 -/
def k13 : Class := { plain "java/lang/StringLatin1" (some 0) with
  accessFlags := 48
  interfaces := #[]
  cf := some (fileOf pool13 14 #[.nestMembers #[390, 221]] #[{ accessFlags := 0, nameIndex := 7, descriptorIndex := 8, attributes := #[] }] 48 4 #[] #[{ accessFlags := 4120, nameIndex := 121, descriptorIndex := 122, attributes := #[] }])
  fields := #[{ name := "$assertionsDisabled", type := .boolean, accessFlags := 4120, slot := 0, constantValue := 0 }]
  methods := #[k13m0]
  instanceTypes := #[]
  staticTypes := #[.boolean]
  resolved := Array.replicate 395 none
  statics := none }

def pool14 : Array CpInfo := pool [(2, .class_ 4), (1, u "java/lang/Object"), (0, u "<init>"), (0, u "()V"), (17, .class_ 26), (1, u "jdk/internal/util/Preconditions"), (28, .class_ 56), (0, u "jdk/internal/util/Preconditions$4"), (57, .class_ 115), (0, u "jdk/internal/util/Preconditions$1"), (7, u "SIOOBE_FORMATTER"), (0, u "Ljava/util/function/BiFunction;"), (0, .class_ 126), (0, u "jdk/internal/util/Preconditions$2"), (3, u "AIOOBE_FORMATTER"), (0, .class_ 132), (0, u "jdk/internal/util/Preconditions$3"), (3, u "IOOBE_FORMATTER")] 57

def k14m0 : Method := { name := "<init>", desc := "()V", sig := { parameters := [], returnType := none }, accessFlags := 1, code := none }
/-- jdk/internal/util/Preconditions -/
def k14 : Class := { plain "jdk/internal/util/Preconditions" (some 0) with
  accessFlags := 33
  interfaces := #[]
  cf := some (fileOf pool14 24 #[.nestMembers #[55, 131, 125, 114]] #[{ accessFlags := 1, nameIndex := 5, descriptorIndex := 6, attributes := #[] }] 33 2 #[] #[{ accessFlags := 25, nameIndex := 123, descriptorIndex := 124, attributes := #[] }, { accessFlags := 25, nameIndex := 130, descriptorIndex := 124, attributes := #[] }, { accessFlags := 25, nameIndex := 136, descriptorIndex := 124, attributes := #[] }])
  fields := #[{ name := "SIOOBE_FORMATTER", type := (.object "java/util/function/BiFunction"), accessFlags := 25, slot := 0, constantValue := 0 }, { name := "AIOOBE_FORMATTER", type := (.object "java/util/function/BiFunction"), accessFlags := 25, slot := 1, constantValue := 0 }, { name := "IOOBE_FORMATTER", type := (.object "java/util/function/BiFunction"), accessFlags := 25, slot := 2, constantValue := 0 }]
  methods := #[k14m0]
  instanceTypes := #[]
  staticTypes := #[(.object "java/util/function/BiFunction"), (.object "java/util/function/BiFunction"), (.object "java/util/function/BiFunction")]
  resolved := Array.replicate 194 none
  statics := some 2 }

def pool15 : Array CpInfo := pool [(9, u "<init>"), (6, .class_ 18), (1, u "java/lang/Object"), (0, u "()V"), (1, .class_ 23), (1, u "jdk/internal/util/ArraysSupport"), (0, u "LOG2_ARRAY_LONG_INDEX_SCALE"), (0, u "I"), (2, u "U"), (0, u "Ljdk/internal/misc/Unsafe;"), (8, u "BIG_ENDIAN"), (0, u "Z"), (8, u "LOG2_BYTE_BIT_SIZE"), (4, u "LOG2_ARRAY_INT_INDEX_SCALE"), (54, u "JLA"), (0, u "Ljdk/internal/access/JavaLangAccess;"), (11, u "LOG2_ARRAY_BOOLEAN_INDEX_SCALE"), (9, u "LOG2_ARRAY_BYTE_INDEX_SCALE"), (5, u "LOG2_ARRAY_CHAR_INDEX_SCALE"), (5, u "LOG2_ARRAY_SHORT_INDEX_SCALE"), (18, u "LOG2_ARRAY_FLOAT_INDEX_SCALE"), (24, u "LOG2_ARRAY_DOUBLE_INDEX_SCALE"), (89, u "T_BOOLEAN"), (2, u "T_CHAR"), (1, u "T_FLOAT"), (1, u "T_DOUBLE"), (1, u "T_BYTE"), (1, u "T_SHORT"), (1, u "T_INT"), (1, u "T_LONG"), (1, u "SOFT_MAX_ARRAY_LENGTH")] 83

def k15m0 : Method := { name := "<init>", desc := "()V", sig := { parameters := [], returnType := none }, accessFlags := 2, code := none }
/-- jdk/internal/util/ArraysSupport -/
def k15 : Class := { plain "jdk/internal/util/ArraysSupport" (some 0) with
  accessFlags := 33
  interfaces := #[]
  cf := some (fileOf pool15 21 #[] #[{ accessFlags := 2, nameIndex := 9, descriptorIndex := 19, attributes := #[] }] 33 16 #[] #[{ accessFlags := 24, nameIndex := 28, descriptorIndex := 29, attributes := #[] }, { accessFlags := 26, nameIndex := 38, descriptorIndex := 39, attributes := #[] }, { accessFlags := 25, nameIndex := 121, descriptorIndex := 25, attributes := #[] }, { accessFlags := 25, nameIndex := 131, descriptorIndex := 25, attributes := #[] }, { accessFlags := 25, nameIndex := 137, descriptorIndex := 25, attributes := #[] }, { accessFlags := 25, nameIndex := 143, descriptorIndex := 25, attributes := #[] }, { accessFlags := 25, nameIndex := 53, descriptorIndex := 25, attributes := #[] }, { accessFlags := 25, nameIndex := 24, descriptorIndex := 25, attributes := #[] }, { accessFlags := 25, nameIndex := 162, descriptorIndex := 25, attributes := #[] }, { accessFlags := 25, nameIndex := 187, descriptorIndex := 25, attributes := #[] }, { accessFlags := 26, nameIndex := 48, descriptorIndex := 25, attributes := #[] }, { accessFlags := 25, nameIndex := 277, descriptorIndex := 25, attributes := #[] }, { accessFlags := 25, nameIndex := 280, descriptorIndex := 25, attributes := #[] }, { accessFlags := 25, nameIndex := 282, descriptorIndex := 25, attributes := #[] }, { accessFlags := 25, nameIndex := 284, descriptorIndex := 25, attributes := #[] }, { accessFlags := 25, nameIndex := 286, descriptorIndex := 25, attributes := #[] }, { accessFlags := 25, nameIndex := 288, descriptorIndex := 25, attributes := #[] }, { accessFlags := 25, nameIndex := 290, descriptorIndex := 25, attributes := #[] }, { accessFlags := 25, nameIndex := 292, descriptorIndex := 25, attributes := #[] }, { accessFlags := 26, nameIndex := 108, descriptorIndex := 109, attributes := #[] }, { accessFlags := 25, nameIndex := 294, descriptorIndex := 25, attributes := #[] }])
  fields := #[{ name := "U", type := (.object "jdk/internal/misc/Unsafe"), accessFlags := 24, slot := 0, constantValue := 0 }, { name := "BIG_ENDIAN", type := .boolean, accessFlags := 26, slot := 1, constantValue := 0 }, { name := "LOG2_ARRAY_BOOLEAN_INDEX_SCALE", type := .int, accessFlags := 25, slot := 2, constantValue := 0 }, { name := "LOG2_ARRAY_BYTE_INDEX_SCALE", type := .int, accessFlags := 25, slot := 3, constantValue := 0 }, { name := "LOG2_ARRAY_CHAR_INDEX_SCALE", type := .int, accessFlags := 25, slot := 4, constantValue := 0 }, { name := "LOG2_ARRAY_SHORT_INDEX_SCALE", type := .int, accessFlags := 25, slot := 5, constantValue := 0 }, { name := "LOG2_ARRAY_INT_INDEX_SCALE", type := .int, accessFlags := 25, slot := 6, constantValue := 0 }, { name := "LOG2_ARRAY_LONG_INDEX_SCALE", type := .int, accessFlags := 25, slot := 7, constantValue := 0 }, { name := "LOG2_ARRAY_FLOAT_INDEX_SCALE", type := .int, accessFlags := 25, slot := 8, constantValue := 0 }, { name := "LOG2_ARRAY_DOUBLE_INDEX_SCALE", type := .int, accessFlags := 25, slot := 9, constantValue := 0 }, { name := "LOG2_BYTE_BIT_SIZE", type := .int, accessFlags := 26, slot := 10, constantValue := 0 }, { name := "T_BOOLEAN", type := .int, accessFlags := 25, slot := 11, constantValue := 0 }, { name := "T_CHAR", type := .int, accessFlags := 25, slot := 12, constantValue := 0 }, { name := "T_FLOAT", type := .int, accessFlags := 25, slot := 13, constantValue := 0 }, { name := "T_DOUBLE", type := .int, accessFlags := 25, slot := 14, constantValue := 0 }, { name := "T_BYTE", type := .int, accessFlags := 25, slot := 15, constantValue := 0 }, { name := "T_SHORT", type := .int, accessFlags := 25, slot := 16, constantValue := 0 }, { name := "T_INT", type := .int, accessFlags := 25, slot := 17, constantValue := 0 }, { name := "T_LONG", type := .int, accessFlags := 25, slot := 18, constantValue := 0 }, { name := "JLA", type := (.object "jdk/internal/access/JavaLangAccess"), accessFlags := 26, slot := 19, constantValue := 0 }, { name := "SOFT_MAX_ARRAY_LENGTH", type := .int, accessFlags := 25, slot := 20, constantValue := 0 }]
  methods := #[k15m0]
  instanceTypes := #[]
  staticTypes := #[(.object "jdk/internal/misc/Unsafe"), .boolean, .int, .int, .int, .int, .int, .int, .int, .int, .int, .int, .int, .int, .int, .int, .int, .int, .int, (.object "jdk/internal/access/JavaLangAccess"), .int]
  resolved := Array.replicate 378 none
  statics := none }

def pool16 : Array CpInfo := pool [(1, u "java/lang/Cloneable"), (0, .class_ 1), (0, u "java/lang/Object"), (0, .class_ 3)] 3

/-- java/lang/Cloneable -/
def k16 : Class := { plain "java/lang/Cloneable" (some 0) with
  accessFlags := 1537
  interfaces := #[]
  cf := some (fileOf pool16 2 #[] #[] 1537 4 #[] #[])
  fields := #[]
  methods := #[]
  instanceTypes := #[]
  staticTypes := #[]
  resolved := Array.replicate 8 none
  statics := none }

/-- the primitive byte -/
def k17 : Class := { plain "byte" none with kind := .primitive 'B', accessFlags := 0x411 }
/-- [B -/
def k18 : Class := { plain "[B" (some 0) with kind := .array 17 .byte, interfaces := #[16, 2], accessFlags := 1041 }

/-- the primitive char -/
def k19 : Class := { plain "char" none with kind := .primitive 'C', accessFlags := 0x411 }
/-- [C -/
def k20 : Class := { plain "[C" (some 0) with kind := .array 19 .char, interfaces := #[16, 2], accessFlags := 1041 }

/-- the primitive int -/
def k21 : Class := { plain "int" none with kind := .primitive 'I', accessFlags := 0x411 }
/-- [I -/
def k22 : Class := { plain "[I" (some 0) with kind := .array 21 .int, interfaces := #[16, 2], accessFlags := 1041 }

/-- [Ljava/lang/Character; -/
def k23 : Class := { plain "[Ljava/lang/Character;" (some 0) with kind := .array 11 (.object "java/lang/Character"), interfaces := #[16, 2], accessFlags := 1041 }

def heap : Heap := #[{ cls := 7, slots := #[.long 0, .int 1, .null, .int 0, .null, .int 0, .int 0], vm := .statics 7 },
  { cls := 12, slots := #[.ref 3, .null, .int 0], vm := .statics 12 },
  { cls := 14, slots := #[.null, .null, .null], vm := .statics 14 },
  { cls := 23, slots := #[.ref 4, .ref 5, .ref 6, .ref 7, .ref 8, .ref 9, .ref 10, .ref 11, .ref 12, .ref 13, .ref 14, .ref 15, .ref 16, .ref 17, .ref 18, .ref 19, .ref 20, .ref 21, .ref 22, .ref 23, .ref 24, .ref 25, .ref 26, .ref 27, .ref 28, .ref 29, .ref 30, .ref 31, .ref 32, .ref 33, .ref 34, .ref 35, .ref 36, .ref 37, .ref 38, .ref 39, .ref 40, .ref 41, .ref 42, .ref 43, .ref 44, .ref 45, .ref 46, .ref 47, .ref 48, .ref 49, .ref 50, .ref 51, .ref 52, .ref 53, .ref 54, .ref 55, .ref 56, .ref 57, .ref 58, .ref 59, .ref 60, .ref 61, .ref 62, .ref 63, .ref 64, .ref 65, .ref 66, .ref 67, .ref 68, .ref 69, .ref 70, .ref 71, .ref 72, .ref 73, .ref 74, .ref 75, .ref 76, .ref 77, .ref 78, .ref 79, .ref 80, .ref 81, .ref 82, .ref 83, .ref 84, .ref 85, .ref 86, .ref 87, .ref 88, .ref 89, .ref 90, .ref 91, .ref 92, .ref 93, .ref 94, .ref 95, .ref 96, .ref 97, .ref 98, .ref 99, .ref 100, .ref 101, .ref 102, .ref 103, .ref 104, .ref 105, .ref 106, .ref 107, .ref 108, .ref 109, .ref 110, .ref 111, .ref 112, .ref 113, .ref 114, .ref 115, .ref 116, .ref 117, .ref 118, .ref 119, .ref 120, .ref 121, .ref 122, .ref 123, .ref 124, .ref 125, .ref 126, .ref 127, .ref 128, .ref 129, .ref 130, .ref 131], vm := .none },
  { cls := 11, slots := #[.int 0], vm := .none },
  { cls := 11, slots := #[.int 1], vm := .none },
  { cls := 11, slots := #[.int 2], vm := .none },
  { cls := 11, slots := #[.int 3], vm := .none },
  { cls := 11, slots := #[.int 4], vm := .none },
  { cls := 11, slots := #[.int 5], vm := .none },
  { cls := 11, slots := #[.int 6], vm := .none },
  { cls := 11, slots := #[.int 7], vm := .none },
  { cls := 11, slots := #[.int 8], vm := .none },
  { cls := 11, slots := #[.int 9], vm := .none },
  { cls := 11, slots := #[.int 10], vm := .none },
  { cls := 11, slots := #[.int 11], vm := .none },
  { cls := 11, slots := #[.int 12], vm := .none },
  { cls := 11, slots := #[.int 13], vm := .none },
  { cls := 11, slots := #[.int 14], vm := .none },
  { cls := 11, slots := #[.int 15], vm := .none },
  { cls := 11, slots := #[.int 16], vm := .none },
  { cls := 11, slots := #[.int 17], vm := .none },
  { cls := 11, slots := #[.int 18], vm := .none },
  { cls := 11, slots := #[.int 19], vm := .none },
  { cls := 11, slots := #[.int 20], vm := .none },
  { cls := 11, slots := #[.int 21], vm := .none },
  { cls := 11, slots := #[.int 22], vm := .none },
  { cls := 11, slots := #[.int 23], vm := .none },
  { cls := 11, slots := #[.int 24], vm := .none },
  { cls := 11, slots := #[.int 25], vm := .none },
  { cls := 11, slots := #[.int 26], vm := .none },
  { cls := 11, slots := #[.int 27], vm := .none },
  { cls := 11, slots := #[.int 28], vm := .none },
  { cls := 11, slots := #[.int 29], vm := .none },
  { cls := 11, slots := #[.int 30], vm := .none },
  { cls := 11, slots := #[.int 31], vm := .none },
  { cls := 11, slots := #[.int 32], vm := .none },
  { cls := 11, slots := #[.int 33], vm := .none },
  { cls := 11, slots := #[.int 34], vm := .none },
  { cls := 11, slots := #[.int 35], vm := .none },
  { cls := 11, slots := #[.int 36], vm := .none },
  { cls := 11, slots := #[.int 37], vm := .none },
  { cls := 11, slots := #[.int 38], vm := .none },
  { cls := 11, slots := #[.int 39], vm := .none },
  { cls := 11, slots := #[.int 40], vm := .none },
  { cls := 11, slots := #[.int 41], vm := .none },
  { cls := 11, slots := #[.int 42], vm := .none },
  { cls := 11, slots := #[.int 43], vm := .none },
  { cls := 11, slots := #[.int 44], vm := .none },
  { cls := 11, slots := #[.int 45], vm := .none },
  { cls := 11, slots := #[.int 46], vm := .none },
  { cls := 11, slots := #[.int 47], vm := .none },
  { cls := 11, slots := #[.int 48], vm := .none },
  { cls := 11, slots := #[.int 49], vm := .none },
  { cls := 11, slots := #[.int 50], vm := .none },
  { cls := 11, slots := #[.int 51], vm := .none },
  { cls := 11, slots := #[.int 52], vm := .none },
  { cls := 11, slots := #[.int 53], vm := .none },
  { cls := 11, slots := #[.int 54], vm := .none },
  { cls := 11, slots := #[.int 55], vm := .none },
  { cls := 11, slots := #[.int 56], vm := .none },
  { cls := 11, slots := #[.int 57], vm := .none },
  { cls := 11, slots := #[.int 58], vm := .none },
  { cls := 11, slots := #[.int 59], vm := .none },
  { cls := 11, slots := #[.int 60], vm := .none },
  { cls := 11, slots := #[.int 61], vm := .none },
  { cls := 11, slots := #[.int 62], vm := .none },
  { cls := 11, slots := #[.int 63], vm := .none },
  { cls := 11, slots := #[.int 64], vm := .none },
  { cls := 11, slots := #[.int 65], vm := .none },
  { cls := 11, slots := #[.int 66], vm := .none },
  { cls := 11, slots := #[.int 67], vm := .none },
  { cls := 11, slots := #[.int 68], vm := .none },
  { cls := 11, slots := #[.int 69], vm := .none },
  { cls := 11, slots := #[.int 70], vm := .none },
  { cls := 11, slots := #[.int 71], vm := .none },
  { cls := 11, slots := #[.int 72], vm := .none },
  { cls := 11, slots := #[.int 73], vm := .none },
  { cls := 11, slots := #[.int 74], vm := .none },
  { cls := 11, slots := #[.int 75], vm := .none },
  { cls := 11, slots := #[.int 76], vm := .none },
  { cls := 11, slots := #[.int 77], vm := .none },
  { cls := 11, slots := #[.int 78], vm := .none },
  { cls := 11, slots := #[.int 79], vm := .none },
  { cls := 11, slots := #[.int 80], vm := .none },
  { cls := 11, slots := #[.int 81], vm := .none },
  { cls := 11, slots := #[.int 82], vm := .none },
  { cls := 11, slots := #[.int 83], vm := .none },
  { cls := 11, slots := #[.int 84], vm := .none },
  { cls := 11, slots := #[.int 85], vm := .none },
  { cls := 11, slots := #[.int 86], vm := .none },
  { cls := 11, slots := #[.int 87], vm := .none },
  { cls := 11, slots := #[.int 88], vm := .none },
  { cls := 11, slots := #[.int 89], vm := .none },
  { cls := 11, slots := #[.int 90], vm := .none },
  { cls := 11, slots := #[.int 91], vm := .none },
  { cls := 11, slots := #[.int 92], vm := .none },
  { cls := 11, slots := #[.int 93], vm := .none },
  { cls := 11, slots := #[.int 94], vm := .none },
  { cls := 11, slots := #[.int 95], vm := .none },
  { cls := 11, slots := #[.int 96], vm := .none },
  { cls := 11, slots := #[.int 97], vm := .none },
  { cls := 11, slots := #[.int 98], vm := .none },
  { cls := 11, slots := #[.int 99], vm := .none },
  { cls := 11, slots := #[.int 100], vm := .none },
  { cls := 11, slots := #[.int 101], vm := .none },
  { cls := 11, slots := #[.int 102], vm := .none },
  { cls := 11, slots := #[.int 103], vm := .none },
  { cls := 11, slots := #[.int 104], vm := .none },
  { cls := 11, slots := #[.int 105], vm := .none },
  { cls := 11, slots := #[.int 106], vm := .none },
  { cls := 11, slots := #[.int 107], vm := .none },
  { cls := 11, slots := #[.int 108], vm := .none },
  { cls := 11, slots := #[.int 109], vm := .none },
  { cls := 11, slots := #[.int 110], vm := .none },
  { cls := 11, slots := #[.int 111], vm := .none },
  { cls := 11, slots := #[.int 112], vm := .none },
  { cls := 11, slots := #[.int 113], vm := .none },
  { cls := 11, slots := #[.int 114], vm := .none },
  { cls := 11, slots := #[.int 115], vm := .none },
  { cls := 11, slots := #[.int 116], vm := .none },
  { cls := 11, slots := #[.int 117], vm := .none },
  { cls := 11, slots := #[.int 118], vm := .none },
  { cls := 11, slots := #[.int 119], vm := .none },
  { cls := 11, slots := #[.int 120], vm := .none },
  { cls := 11, slots := #[.int 121], vm := .none },
  { cls := 11, slots := #[.int 122], vm := .none },
  { cls := 11, slots := #[.int 123], vm := .none },
  { cls := 11, slots := #[.int 124], vm := .none },
  { cls := 11, slots := #[.int 125], vm := .none },
  { cls := 11, slots := #[.int 126], vm := .none },
  { cls := 11, slots := #[.int 127], vm := .none }]
def classes : Array Class := #[k0, k1, k2, k3, k4, k5, k6, k7, k8, k9, k10, k11, k12, k13, k14, k15, k16, k17, k18, k19, k20, k21, k22, k23]
def interned : List (Array UInt16 × Addr) := []
def slotsUsed : Nat := 269
def theMethod : MethodId := ⟨1, 1⟩
def args0 : Array Value := #[.int 5, .int 5, .int 5, .int 5]
def aboutOver (below : List Frame) : State where
  vm := { classes := classes, interned := interned.toArray }
  heap := heap
  slotsUsed := slotsUsed
  threads := #[{ frames := .invoking theMethod args0 :: below }]
def below0 : List Frame := [.native { method := ⟨0, 0⟩, args := #[] }]
def about1 : State := aboutOver below0
def p0 : Program := .bare "" "" ""
def e0 : Env := launch0.env 0 0 0
theorem w_frames : about1.frames = Frame.invoking theMethod args0 :: below0 := rfl
set_option maxRecDepth 65536 in
theorem w_args : argsFit about1.vm theMethod args0 = true := by decide +kernel
set_option maxRecDepth 65536 in
theorem w_heap : heapFits about1 = true := by decide +kernel
set_option maxRecDepth 65536 in
theorem w_runnable : about1.curStatus? = some .runnable := by decide +kernel
set_option maxRecDepth 65536 in
theorem w_alone : about1.alone = true := by decide +kernel
set_option maxRecDepth 65536 in
theorem w_named : about1.methodNamed? x = some theMethod := by decide +kernel
set_option maxRecDepth 65536 in
theorem w_hears : about1.hears theMethod below0 = true := by decide +kernel
set_option maxRecDepth 65536 in
theorem w_ripe : about1.ripe theMethod args0 below0 = true := by decide +kernel
theorem w_running : about1.status = .running := rfl
set_option maxRecDepth 65536 in
theorem w_room : about1.hasRoom e0.platform room_1 = true :=
  launch0.hasRoom_least _ room_1 (by decide +kernel) (by decide +kernel) (by decide +kernel) (by decide +kernel) (by decide +kernel) (by decide +kernel)
theorem allAtoms_all (ts : List Jvm.Cond) (a : Array Jvm.Value) (st : Jvm.State) : (allAtoms ts).before a st = ts.all (fun c => c.before a st) := by
  induction ts with
  | nil => rfl
  | cons c t ih =>
    show (Jvm.Cond.and c (allAtoms t)).before a st = _
    rw [Jvm.Cond.before_and, ih, List.all_cons]
def words1 : List Jvm.Cond := Jvm.Cond.code x code maxLocals ret :: tables_1
/-- a 'code' word, met by the world's own term for the bytes: nothing is compared byte by byte -/
theorem code_word {y : MethodName} {bytes : ByteArray} {mx : Nat} {rt : Option FieldType} {a : Array Value} {s : State} {m : MethodId} {meth : Method} {c : Code} (h1 : s.methodNamed? y = some m) (h2 : s.vm.method? m = some meth) (h3 : meth.code = some c) (h4 : c.code = bytes)
    (h5 : (c.maxLocals == mx && c.exceptionTable.isEmpty && decide (c.maxStack ≤ mostOperands) && decide (meth.sig.returnType = rt) && !meth.locks && decide (parseMethodDescriptor y.desc = some meth.sig)) = true) : (Jvm.Cond.code y bytes mx rt).before a s = true := by
  simp only [Bool.and_eq_true, beq_iff_eq, Bool.not_eq_true', decide_eq_true_eq] at h5
  obtain ⟨⟨⟨⟨⟨g1, g2⟩, g3⟩, g4⟩, g5⟩, g6⟩ := h5
  simp [Cond.before, Cond.holds, Cond.value, h1, h2, h3, h4, g1, g2, g3, g4, g5, g6]
def isCode : Jvm.Cond → Bool
  | .code _ _ _ _ => true
  | _ => false
theorem all_split {L : List Jvm.Cond} {P : Jvm.Cond → Bool} (h1 : L.all (fun c => isCode c || P c) = true) (h2 : ∀ c ∈ L.filter isCode, P c = true) : L.all P = true := by
  refine List.all_eq_true.mpr fun c hc => ?_
  have h := List.all_eq_true.mp h1 c hc
  rcases Bool.eq_false_or_eq_true (isCode c) with hi | hi
  · exact h2 c (List.mem_filter.mpr ⟨hc, hi⟩)
  · simpa [hi] using h
set_option maxRecDepth 65536 in
theorem w_c0 : (Jvm.Cond.code x code maxLocals ret).before args0 about1 = true := code_word (m := ⟨1, 1⟩) (meth := k1m1) (c := k1c1) (by decide +kernel) rfl rfl rfl (by decide +kernel)
set_option maxRecDepth 65536 in
theorem w_c1 : (Jvm.Cond.code ({ cls := "java/lang/String", name := "<init>", desc := "([C)V" } : Jvm.MethodName) jdk_42_method_3_code (2 : Nat) (Option.none : Option Jvm.ClassFile.FieldType)).before args0 about1 = true := code_word (m := ⟨7, 1⟩) (meth := k7m1) (c := k7c1) (by decide +kernel) rfl rfl rfl (by decide +kernel)
set_option maxRecDepth 65536 in
theorem w_c2 : (Jvm.Cond.code ({ cls := "java/lang/String", name := "<init>", desc := "([CIILjava/lang/Void;)V" } : Jvm.MethodName) jdk_42_method_149_code (6 : Nat) (Option.none : Option Jvm.ClassFile.FieldType)).before args0 about1 = true := code_word (m := ⟨7, 2⟩) (meth := k7m2) (c := k7c2) (by decide +kernel) rfl rfl rfl (by decide +kernel)
set_option maxRecDepth 65536 in
theorem w_c3 : (Jvm.Cond.code ({ cls := "java/lang/Object", name := "<init>", desc := "()V" } : Jvm.MethodName) object_method_1_code (1 : Nat) (Option.none : Option Jvm.ClassFile.FieldType)).before args0 about1 = true := code_word (m := ⟨0, 0⟩) (meth := k0m0) (c := k0c0) (by decide +kernel) rfl rfl rfl (by decide +kernel)
set_option maxRecDepth 65536 in
theorem w_c4 : (Jvm.Cond.code ({ cls := "java/lang/StringUTF16", name := "compress", desc := "([CII)[B" } : Jvm.MethodName) jdk_52_method_16_code (6 : Nat) (Option.some (Jvm.ClassFile.FieldType.array Jvm.ClassFile.FieldType.byte))).before args0 about1 = true := code_word (m := ⟨8, 2⟩) (meth := k8m2) (c := k8c2) (by decide +kernel) rfl rfl rfl (by decide +kernel)
set_option maxRecDepth 65536 in
theorem w_c5 : (Jvm.Cond.code ({ cls := "java/lang/StringUTF16", name := "compress", desc := "([CI[BII)I" } : Jvm.MethodName) jdk_52_method_21_code (7 : Nat) (Option.some Jvm.ClassFile.FieldType.int)).before args0 about1 = true := code_word (m := ⟨8, 3⟩) (meth := k8m3) (c := k8c3) (by decide +kernel) rfl rfl rfl (by decide +kernel)
set_option maxRecDepth 65536 in
theorem w_c6 : (Jvm.Cond.code ({ cls := "java/lang/StringUTF16", name := "coderFromArrayLen", desc := "([BI)B" } : Jvm.MethodName) jdk_52_method_15_code (2 : Nat) (Option.some Jvm.ClassFile.FieldType.byte)).before args0 about1 = true := code_word (m := ⟨8, 1⟩) (meth := k8m1) (c := k8c1) (by decide +kernel) rfl rfl rfl (by decide +kernel)
set_option maxRecDepth 65536 in
theorem w_c7 : (Jvm.Cond.code ({ cls := "com/example/indexwright/indexwright/OptionSpec", name := "<init>", desc := "(Ljava/lang/String;Ljava/lang/String;Z)V" } : Jvm.MethodName) prog_4_method_1_code (4 : Nat) (Option.none : Option Jvm.ClassFile.FieldType)).before args0 about1 = true := code_word (m := ⟨10, 0⟩) (meth := k10m0) (c := k10c0) (by decide +kernel) rfl rfl rfl (by decide +kernel)
set_option maxRecDepth 65536 in
theorem w_c8 : (Jvm.Cond.code ({ cls := "com/example/indexwright/indexwright/OptionSpec", name := "<init>", desc := "(Ljava/lang/String;Ljava/lang/String;ZLjava/lang/Character;)V" } : Jvm.MethodName) prog_4_method_2_code (5 : Nat) (Option.none : Option Jvm.ClassFile.FieldType)).before args0 about1 = true := code_word (m := ⟨10, 1⟩) (meth := k10m1) (c := k10c1) (by decide +kernel) rfl rfl rfl (by decide +kernel)
set_option maxRecDepth 65536 in
theorem w_c9 : (Jvm.Cond.code ({ cls := "java/lang/Record", name := "<init>", desc := "()V" } : Jvm.MethodName) jdk_30_method_1_code (1 : Nat) (Option.none : Option Jvm.ClassFile.FieldType)).before args0 about1 = true := code_word (m := ⟨9, 0⟩) (meth := k9m0) (c := k9c0) (by decide +kernel) rfl rfl rfl (by decide +kernel)
set_option maxRecDepth 65536 in
theorem w_c10 : (Jvm.Cond.code ({ cls := "com/example/indexwright/indexwright/OptionSpec", name := "isSwitch", desc := "()Z" } : Jvm.MethodName) prog_4_method_4_code (1 : Nat) (Option.some Jvm.ClassFile.FieldType.boolean)).before args0 about1 = true := code_word (m := ⟨10, 3⟩) (meth := k10m3) (c := k10c3) (by decide +kernel) rfl rfl rfl (by decide +kernel)
set_option maxRecDepth 65536 in
theorem w_c11 : (Jvm.Cond.code ({ cls := "com/example/indexwright/indexwright/OptionSpec", name := "ofSwitch", desc := "(Ljava/lang/String;C)Lcom/example/indexwright/indexwright/OptionSpec;" } : Jvm.MethodName) prog_4_method_3_code (2 : Nat) (Option.some (Jvm.ClassFile.FieldType.object "com/example/indexwright/indexwright/OptionSpec"))).before args0 about1 = true := code_word (m := ⟨10, 2⟩) (meth := k10m2) (c := k10c2) (by decide +kernel) rfl rfl rfl (by decide +kernel)
set_option maxRecDepth 65536 in
theorem w_c12 : (Jvm.Cond.code ({ cls := "java/lang/Character", name := "valueOf", desc := "(C)Ljava/lang/Character;" } : Jvm.MethodName) jdk_89_method_3_code (1 : Nat) (Option.some (Jvm.ClassFile.FieldType.object "java/lang/Character"))).before args0 about1 = true := code_word (m := ⟨11, 1⟩) (meth := k11m1) (c := k11c1) (by decide +kernel) rfl rfl rfl (by decide +kernel)
set_option maxRecDepth 65536 in
theorem w_c13 : (Jvm.Cond.code ({ cls := "java/lang/Character", name := "<init>", desc := "(C)V" } : Jvm.MethodName) jdk_89_method_2_code (2 : Nat) (Option.none : Option Jvm.ClassFile.FieldType)).before args0 about1 = true := code_word (m := ⟨11, 0⟩) (meth := k11m0) (c := k11c0) (by decide +kernel) rfl rfl rfl (by decide +kernel)
def codes1 : List Jvm.Cond := [Jvm.Cond.code x code maxLocals ret, Jvm.Cond.code ({ cls := "java/lang/String", name := "<init>", desc := "([C)V" } : Jvm.MethodName) jdk_42_method_3_code (2 : Nat) (Option.none : Option Jvm.ClassFile.FieldType), Jvm.Cond.code ({ cls := "java/lang/String", name := "<init>", desc := "([CIILjava/lang/Void;)V" } : Jvm.MethodName) jdk_42_method_149_code (6 : Nat) (Option.none : Option Jvm.ClassFile.FieldType), Jvm.Cond.code ({ cls := "java/lang/Object", name := "<init>", desc := "()V" } : Jvm.MethodName) object_method_1_code (1 : Nat) (Option.none : Option Jvm.ClassFile.FieldType), Jvm.Cond.code ({ cls := "java/lang/StringUTF16", name := "compress", desc := "([CII)[B" } : Jvm.MethodName) jdk_52_method_16_code (6 : Nat) (Option.some (Jvm.ClassFile.FieldType.array Jvm.ClassFile.FieldType.byte)), Jvm.Cond.code ({ cls := "java/lang/StringUTF16", name := "compress", desc := "([CI[BII)I" } : Jvm.MethodName) jdk_52_method_21_code (7 : Nat) (Option.some Jvm.ClassFile.FieldType.int), Jvm.Cond.code ({ cls := "java/lang/StringUTF16", name := "coderFromArrayLen", desc := "([BI)B" } : Jvm.MethodName) jdk_52_method_15_code (2 : Nat) (Option.some Jvm.ClassFile.FieldType.byte), Jvm.Cond.code ({ cls := "com/example/indexwright/indexwright/OptionSpec", name := "<init>", desc := "(Ljava/lang/String;Ljava/lang/String;Z)V" } : Jvm.MethodName) prog_4_method_1_code (4 : Nat) (Option.none : Option Jvm.ClassFile.FieldType), Jvm.Cond.code ({ cls := "com/example/indexwright/indexwright/OptionSpec", name := "<init>", desc := "(Ljava/lang/String;Ljava/lang/String;ZLjava/lang/Character;)V" } : Jvm.MethodName) prog_4_method_2_code (5 : Nat) (Option.none : Option Jvm.ClassFile.FieldType), Jvm.Cond.code ({ cls := "java/lang/Record", name := "<init>", desc := "()V" } : Jvm.MethodName) jdk_30_method_1_code (1 : Nat) (Option.none : Option Jvm.ClassFile.FieldType), Jvm.Cond.code ({ cls := "com/example/indexwright/indexwright/OptionSpec", name := "isSwitch", desc := "()Z" } : Jvm.MethodName) prog_4_method_4_code (1 : Nat) (Option.some Jvm.ClassFile.FieldType.boolean), Jvm.Cond.code ({ cls := "com/example/indexwright/indexwright/OptionSpec", name := "ofSwitch", desc := "(Ljava/lang/String;C)Lcom/example/indexwright/indexwright/OptionSpec;" } : Jvm.MethodName) prog_4_method_3_code (2 : Nat) (Option.some (Jvm.ClassFile.FieldType.object "com/example/indexwright/indexwright/OptionSpec")), Jvm.Cond.code ({ cls := "java/lang/Character", name := "valueOf", desc := "(C)Ljava/lang/Character;" } : Jvm.MethodName) jdk_89_method_3_code (1 : Nat) (Option.some (Jvm.ClassFile.FieldType.object "java/lang/Character")), Jvm.Cond.code ({ cls := "java/lang/Character", name := "<init>", desc := "(C)V" } : Jvm.MethodName) jdk_89_method_2_code (2 : Nat) (Option.none : Option Jvm.ClassFile.FieldType)]
set_option maxRecDepth 65536 in
theorem codes_eq : words1.filter isCode = codes1 := rfl
theorem w_codes : ∀ c ∈ words1.filter isCode, c.before args0 about1 = true := by
  rw [codes_eq]
  intro c hc
  simp only [codes1, List.mem_cons, List.not_mem_nil, or_false] at hc
  rcases hc with rfl | rfl | rfl | rfl | rfl | rfl | rfl | rfl | rfl | rfl | rfl | rfl | rfl | rfl
  · exact w_c0
  · exact w_c1
  · exact w_c2
  · exact w_c3
  · exact w_c4
  · exact w_c5
  · exact w_c6
  · exact w_c7
  · exact w_c8
  · exact w_c9
  · exact w_c10
  · exact w_c11
  · exact w_c12
  · exact w_c13
set_option maxRecDepth 65536 in
theorem w_t1 : (words1.take 24).all (fun c => isCode c || c.before args0 about1) = true := by decide +kernel
set_option maxRecDepth 65536 in
theorem w_t2 : ((words1.drop 24).take 24).all (fun c => isCode c || c.before args0 about1) = true := by decide +kernel
set_option maxRecDepth 65536 in
theorem w_t3 : (((words1.drop 24).drop 24).take 24).all (fun c => isCode c || c.before args0 about1) = true := by decide +kernel
set_option maxRecDepth 65536 in
theorem w_t4 : (((words1.drop 24).drop 24).drop 24).all (fun c => isCode c || c.before args0 about1) = true := by decide +kernel
theorem w_tables : (allAtoms (Jvm.Cond.code x code maxLocals ret :: tables_1)).before args0 about1 = true := by
  rw [allAtoms_all]
  show words1.all (fun c => c.before args0 about1) = true
  refine all_split ?_ w_codes
  rw [← List.take_append_drop 24 words1, List.all_append, w_t1, ← List.take_append_drop 24 (words1.drop 24), List.all_append, w_t2, ← List.take_append_drop 24 ((words1.drop 24).drop 24), List.all_append, w_t3, w_t4]
  rfl
set_option maxRecDepth 65536 in
theorem w_rest : rest_1_c.before args0 about1 = true := by decide +kernel
set_option maxRecDepth 65536 in
theorem w_case : (Jvm.Cond.and given_1 narrow_1).before args0 about1 = true := by decide +kernel
set_option maxRecDepth 65536 in
theorem w_consts : constsHeld consts_1 about1 := Jvm.Lit.constsHeldB_iff.mp (by decide +kernel)
theorem w_applies : (headSpec (Jvm.Cond.code x code maxLocals ret :: tables_1) room_1).applies x e0.platform about1 = true :=
  (Spec.applies_iff w_frames).mpr ⟨w_running, w_runnable, w_alone, w_named, w_hears, w_ripe, w_room, w_tables⟩
theorem atStart : AtStart classFile x code maxLocals ret World_1 tables_1 room_1 Calls_1 rest_1 Pre_1 launch0 p0 e0 about1 theMethod args0 below0 :=
  ⟨lists_1, trivial, launch0.admits_env _ _ _, launch0.least_env, fairChoices_fair.cas, fairChoices_fair.clock, w_frames, w_args, w_heap, w_applies, ⟨w_consts, trivial⟩, w_rest, w_case⟩
end start1
theorem witness_1 : WitnessClaimed_1 := ⟨start1.p0, start1.e0, start1.about1, start1.theMethod, start1.args0, start1.below0, start1.atStart⟩
end Jvm.Pilot.@@N@@
