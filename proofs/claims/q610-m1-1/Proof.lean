import JvmDerived
import JvmDerived.Pilot.@@N@@Statement
import JvmDerived.Pilot.@@N@@Code
set_option linter.unusedVariables false
set_option linter.unusedSimpArgs false
namespace Jvm.RoadKit
open Sem ClassFile Op Lib Jvm.Stand Jvm.Free Jvm.LawKit
section Own
variable {p : Program} {l : Launch} {e : Env} {R : Room} {s : State} {m : MethodId} {args : Array Value} {below : List Frame} {meth : Method} {c : Code} {T : State} {locs : List Loc} {cells slots : Nat}
theorem retI (X : Stand p l e R s m args below meth c T locs cells slots) (hx : p.tables.exec = Jvm.exec) {pc : Nat} {Ls : Array Slot} {z : Int32} {rest : List Value} (hret : meth.sig.returnType = some .int) (hd : decode c.code pc = .ok (.ireturn, 1)) {fs : List Frame}
    (hl : ∀ (f : JFrame) (acts : List Action), f.method = m → f.locked = none → f.entered = [] → (doReturn e (T.setTop f) acts (some (.int z))).1 = T.setFrames fs) : Steps p.tables e below (T.setTop (mkF m pc Ls (.int z :: rest))) (T.setFrames fs) :=
  retOut X hx hret rfl (Or.inl ⟨rfl, Or.inl rfl, _, rfl⟩) hd hl
variable {Q : Option Value → Heap → List Loc → Prop} {kc ks : Nat} {S S' : State}
section H
variable {Z : State} {EL : List (String × Nat)} {QH : Option Value → Heap → List Loc → (Addr → Prop) → Prop} {a0 : Array Value} {h : Heap} {vm0 : Vm}
/-- a callee that may intern, at a site: what is Safe there goes in, what is Safe at its end comes out -/
theorem backOfY {y : MethodName} {bytes : ByteArray} {maxL : Nat} {ret : Option FieldType} {rm : Room} {len W : Nat} {as' : Array Value} {sf : List Addr}
    (hM : MetFree l y (head1 [Cond.code y bytes maxL ret] rm) (fun a U => a = as' ∧ Z.Warmed39 U.vm ∧ U.heap = h ∧ CHv Z EL U.vm h ∧ ∀ x ∈ sf, Safe Z EL U.vm h x) (fun _ _ _ _ _ => True) (fun _ U o U' => ∃ v L, o = .returned v ∧ QH v U'.heap L (Safe Z EL U'.vm U'.heap) ∧ CHr Z EL U.vm U.heap U'.vm U'.heap ∧ ReturnedEndW U o U' L rm.cells rm.slots))
    (hZ : Z.Warmed39 vm0) (wc : (Cond.code y bytes maxL ret).before a0 Z = true) (wz : (Cond.initialized y.cls).before a0 Z = true) (hf : rm.frames + 1 ≤ R.frames) (hl : W + (maxL + 11) + rm.locals ≤ R.locals) (hEL : EW Z a0 EL) (H : CHv Z EL vm0 h) (hs : ∀ x ∈ sf, Safe Z EL vm0 h x) (hlt : ∀ x ∈ sf, x < h.size) :
    BackS l R p e below (s.setVm vm0) args y len W (fun A a => a = as' ∧ A.U.heap = h ∧ A.cells + rm.cells ≤ R.cells ∧ A.slots + rm.slots ≤ R.slots)
      (fun A _ v B => ∃ L, QH v B.U.heap L (Safe Z EL B.U.vm B.U.heap) ∧ B.locs = A.locs ++ L ∧ B.cells = A.cells + rm.cells ∧ B.slots = A.slots + rm.slots ∧ CHr Z EL vm0 h B.U.vm B.U.heap) := by
  refine BackS.of_freeW (bytes := bytes) (maxL := maxL) (ret := ret) (E := fun _ first o t L k n => k = rm.cells ∧ n = rm.slots ∧ (∃ v, o = .returned v ∧ QH v t.heap L (Safe Z EL t.vm t.heap)) ∧ CHr Z EL first.vm first.heap t.vm t.heap) hM hf hl ?_ ?_ (fun _ _ _ _ _ _ _ _ _ => trivial) ?_ ?_
  · intro m meth c A a Y hp
    have hU : Z.Warmed39 A.U.vm := wtrans (s := s.setVm vm0) hZ Y.warmed
    exact ⟨by show (Cond.and _ .tt).before a A.U = true; rw [Cond.before_and, mv hU wc]; rfl, mv hU wc, mv hU wz, hp.2.2.1, hp.2.2.2⟩
  · intro m meth c A a g mk Y hp
    have q := CHv.at Y hZ hEL H
    exact ⟨hp.1, wtrans (s := s.setVm vm0) hZ Y.warmed, hp.2.1, q.1, fun x hx => q.safe (hlt x hx) (hs x hx)⟩
  · rintro _ _ _ _ ⟨v, L, h1, h2, h3, h4⟩
    exact ⟨L, _, _, h4, rfl, rfl, ⟨v, h1, h2⟩, h3⟩
  · rintro m meth c A a g mk v t L k n Y hp - - ⟨e1, e2, ⟨v', e3, e4⟩, e5⟩
    cases e3; subst e1 e2
    refine ⟨L, e4, rfl, rfl, rfl, (CHv.at Y hZ hEL H).trans ?_⟩
    rw [← hp.2.1]; exact e5
end H
theorem own_len {Z : State} {args : Array Value} {t : Term} {a : Addr} {c : Cell} {ty : FieldType} {z : Int32} (ev : t.eval args Z none [] Z = some (.ref a)) (A : Arr Z Z.heap a c ty) (h : (Cond.eq (.length t) (.int z)).value args Z none Z [] = some true) : c.slots.size < 2 ^ 31 ∧ c.slots.size.toInt32 = z := by
  have ha := A.fin (U := Z) (Vm.Alike.refl _)
  by_cases q : c.slots.size < 2 ^ 31
  · exact ⟨q, gotT (Cond.eq_ints (len_f ev ha q) (Term.int_eval z)) h⟩
  · simp [Cond.value, Term.eval, ev, ha, q] at h
theorem own_narref {t : FieldType} {w : Value} (h : w.isRef = true) : narrow t w = w := by
  rcases XT.refc h with rfl | ⟨r, rfl⟩ <;> cases t <;> rfl
theorem own_fitsref {t : FieldType} {w : Value} (ht : t.isReference = true) (h : w.isRef = true) : fits t w = true := by
  rcases XT.refc h with rfl | ⟨r, rfl⟩ <;> cases t <;> first | rfl | (cases ht)
theorem nar_c (x : Int32) : nar .char x.toUInt32.toUInt16.toUInt32.toInt32 = x.toUInt32.toUInt16.toUInt32.toInt32 := by
  have := XT.narrow_c x
  simpa [narrow, nar] using this
theorem nar_b (x : Int32) : nar .byte x.toInt8.toInt32 = x.toInt8.toInt32 := by
  have := XT.narrow_b x
  simpa [narrow, nar] using this
theorem nar_ite {P : Prop} [Decidable P] : nar .boolean (if P then (1 : Int32) else 0) = (if P then (1 : Int32) else 0) := by split <;> decide
theorem nar_ite' {P : Prop} [Decidable P] : nar .boolean (if P then (0 : Int32) else 1) = (if P then (0 : Int32) else 1) := by split <;> decide
theorem narrow_nar {t : FieldType} {z : Int32} (ht : t = .boolean ∨ t = .byte ∨ t = .char ∨ t = .short) (h : nar t z = z) : narrow t (.int z) = .int z := by
  have hn : narrow t (.int z) = .int (nar t z) := by rcases ht with rfl | rfl | rfl | rfl <;> rfl
  rw [hn, h]
end Own
/-- the run that stands in S ends as E says -/
def Runs (p : Program) (e : Env) (below : List Frame) (E : State → Outcome → Prop) (S : State) : Prop :=
  ∃ s₂ o, Steps p.tables e below S s₂ ∧ s₂.status = .running ∧ Ended s₂ below o ∧ E s₂ o
theorem Runs.by {p : Program} {e : Env} {below : List Frame} {E : State → Outcome → Prop} {S S' : State} (k : Runs p e below E S') (st : ∀ t, Steps p.tables e below S' t → Steps p.tables e below S t) : Runs p e below E S := by
  obtain ⟨s₂, o, h1, h2⟩ := k
  exact ⟨s₂, o, st _ h1, h2⟩
theorem Runs.tr {p : Program} {e : Env} {below : List Frame} {E : State → Outcome → Prop} {S S' : State} (k : Runs p e below E S') (st : Steps p.tables e below S S') : Runs p e below E S := by
  obtain ⟨s₂, o, h1, h2⟩ := k
  exact ⟨s₂, o, st.trans h1, h2⟩
def EndN (s : State) (Q : Option Value → Heap → List Loc → Prop) (kc ks : Nat) : State → Outcome → Prop := fun s₂ o => ∃ v L, o = .returned v ∧ Q v s₂.heap L ∧ FrameEnd s o s₂ L kc ks
def EndH (s Z : State) (EL : List (String × Nat)) (Q : Option Value → Heap → List Loc → (Addr → Prop) → Prop) (kc ks : Nat) : State → Outcome → Prop := fun s₂ o => ∃ v L, o = .returned v ∧ Q v s₂.heap L (Safe Z EL s₂.vm s₂.heap) ∧ CHr Z EL s.vm s.heap s₂.vm s₂.heap ∧ ReturnedEndW s o s₂ L kc ks
section W
variable {p : Program} {l : Launch} {e : Env} {Rm : Room} {s : State} {m : MethodId} {args : Array Value} {below : List Frame} {meth : Method} {c : Code} {T : State} {locs : List Loc} {cells slots : Nat} {E : State → Outcome → Prop} {pc pc' : Nat} {Ls : Array Slot} {st : List Value}
theorem w_done (X : Stand p l e Rm s m args below meth c T locs cells slots) (hlk : meth.locks = false) {Q : Option Value → Heap → List Loc → Prop} {kc ks : Nat} {h : Heap} {v : Option Value} {g : JFrame} (eT : T.heap = h) (hv : meth.sig.returnType = none → v = none)
    (hr : ∀ fs, (∀ (f : JFrame) (acts : List Action), f.method = m → f.locked = none → f.entered = [] → (doReturn e (T.setTop f) acts v).1 = T.setFrames fs) → Steps p.tables e below (T.setTop g) (T.setFrames fs)) (hc : cells ≤ kc) (hn : slots ≤ ks) (hQ : Q v h locs) : Runs p e below (EndN s Q kc ks) (T.setTop g) := by
  obtain ⟨fs, h1, hrun, hended, hW, hsame⟩ := X.leave hv hlk
  subst eT
  exact ⟨_, _, hr fs h1, hrun, hended, v, locs, rfl, hQ, ⟨_, rfl⟩, hW, hsame.mono hc hn⟩
theorem w_aload (X : Stand p l e Rm s m args below meth c T locs cells slots) (hx : p.tables.exec = Jvm.exec) {k : Nat} {v : Value} (hd : decode c.code pc = .ok (.aload k, 2)) (hl : Ls[k]? = some (.val v)) (hv : v.isRef = true) (hp : pc + 2 = pc') (K : Runs p e below E (T.setTop (mkF m pc' Ls (v :: st)))) : Runs p e below E (T.setTop (mkF m pc Ls st)) := by
  subst hp; exact K.by fun _ k => XS.aload X.here hx rfl hd hl hv k
theorem w_aloadN (X : Stand p l e Rm s m args below meth c T locs cells slots) (hx : p.tables.exec = Jvm.exec) {k : Fin 4} {v : Value} (hd : decode c.code pc = .ok (.aload_n k, 1)) (hl : Ls[k.val]? = some (.val v)) (hv : v.isRef = true) (hp : pc + 1 = pc') (K : Runs p e below E (T.setTop (mkF m pc' Ls (v :: st)))) : Runs p e below E (T.setTop (mkF m pc Ls st)) := by
  subst hp; exact K.by fun _ k => XS.aloadN X.here hx rfl hd hl hv k
theorem w_iload (X : Stand p l e Rm s m args below meth c T locs cells slots) (hx : p.tables.exec = Jvm.exec) {k : Nat} {v : Int32} (hd : decode c.code pc = .ok (.iload k, 2)) (hl : Ls[k]? = some (.val (.int v))) (hp : pc + 2 = pc') (K : Runs p e below E (T.setTop (mkF m pc' Ls (.int v :: st)))) : Runs p e below E (T.setTop (mkF m pc Ls st)) := by
  subst hp; exact K.by fun _ k => XS.iload X.here hx rfl hd hl k
theorem w_iloadN (X : Stand p l e Rm s m args below meth c T locs cells slots) (hx : p.tables.exec = Jvm.exec) {k : Fin 4} {v : Int32} (hd : decode c.code pc = .ok (.iload_n k, 1)) (hl : Ls[k.val]? = some (.val (.int v))) (hp : pc + 1 = pc') (K : Runs p e below E (T.setTop (mkF m pc' Ls (.int v :: st)))) : Runs p e below E (T.setTop (mkF m pc Ls st)) := by
  subst hp; exact K.by fun _ k => XS.iloadN X.here hx rfl hd hl k
theorem w_istore (X : Stand p l e Rm s m args below meth c T locs cells slots) (hx : p.tables.exec = Jvm.exec) {k : Nat} {x : Int32} {L' : Array Slot} (hd : decode c.code pc = .ok (.istore k, 2)) (hl : storeLocals Ls k (.int x) = some L') (hp : pc + 2 = pc') (K : Runs p e below E (T.setTop (mkF m pc' L' st))) : Runs p e below E (T.setTop (mkF m pc Ls (.int x :: st))) := by
  subst hp; exact K.by fun _ k => XS.istore X.here hx rfl hd rfl hl k
theorem w_istoreN (X : Stand p l e Rm s m args below meth c T locs cells slots) (hx : p.tables.exec = Jvm.exec) {k : Fin 4} {x : Int32} {L' : Array Slot} (hd : decode c.code pc = .ok (.istore_n k, 1)) (hl : storeLocals Ls k.val (.int x) = some L') (hp : pc + 1 = pc') (K : Runs p e below E (T.setTop (mkF m pc' L' st))) : Runs p e below E (T.setTop (mkF m pc Ls (.int x :: st))) := by
  subst hp; exact K.by fun _ k => XS.istoreN X.here hx rfl hd rfl hl k
theorem w_astore (X : Stand p l e Rm s m args below meth c T locs cells slots) (hx : p.tables.exec = Jvm.exec) {k : Nat} {x : Value} {L' : Array Slot} (hd : decode c.code pc = .ok (.astore k, 2)) (hv : x.isRef = true) (hl : storeLocals Ls k x = some L') (hp : pc + 2 = pc') (K : Runs p e below E (T.setTop (mkF m pc' L' st))) : Runs p e below E (T.setTop (mkF m pc Ls (x :: st))) := by
  subst hp; exact K.by fun _ k => XS.astore X.here hx rfl hd rfl hv hl k
theorem w_astoreN (X : Stand p l e Rm s m args below meth c T locs cells slots) (hx : p.tables.exec = Jvm.exec) {k : Fin 4} {x : Value} {L' : Array Slot} (hd : decode c.code pc = .ok (.astore_n k, 1)) (hv : x.isRef = true) (hl : storeLocals Ls k.val x = some L') (hp : pc + 1 = pc') (K : Runs p e below E (T.setTop (mkF m pc' L' st))) : Runs p e below E (T.setTop (mkF m pc Ls (x :: st))) := by
  subst hp; exact K.by fun _ k => XS.astoreN X.here hx rfl hd rfl hv hl k
theorem w_iconst (X : Stand p l e Rm s m args below meth c T locs cells slots) (hx : p.tables.exec = Jvm.exec) {i : Int} {v : Int32} (hd : decode c.code pc = .ok (.iconst i, 1)) (hv : Int32.ofInt i = v) (hp : pc + 1 = pc') (K : Runs p e below E (T.setTop (mkF m pc' Ls (.int v :: st)))) : Runs p e below E (T.setTop (mkF m pc Ls st)) := by
  subst hp; exact K.by fun _ k => XT.iconstV X.here hx rfl v hd hv k
theorem w_bipush (X : Stand p l e Rm s m args below meth c T locs cells slots) (hx : p.tables.exec = Jvm.exec) {i : Int} {v : Int32} (hd : decode c.code pc = .ok (.bipush i, 2)) (hv : (Int8.ofInt i).toInt32 = v) (hp : pc + 2 = pc') (K : Runs p e below E (T.setTop (mkF m pc' Ls (.int v :: st)))) : Runs p e below E (T.setTop (mkF m pc Ls st)) := by
  subst hp; exact K.by fun _ k => XT.bipushV X.here hx rfl v hd hv k
theorem w_sipush (X : Stand p l e Rm s m args below meth c T locs cells slots) (hx : p.tables.exec = Jvm.exec) {i : Int} {v : Int32} (hd : decode c.code pc = .ok (.sipush i, 3)) (hv : (Int16.ofInt i).toInt32 = v) (hp : pc + 3 = pc') (K : Runs p e below E (T.setTop (mkF m pc' Ls (.int v :: st)))) : Runs p e below E (T.setTop (mkF m pc Ls st)) := by
  subst hp; exact K.by fun _ k => XT.sipushV X.here hx rfl v hd hv k
theorem w_null (X : Stand p l e Rm s m args below meth c T locs cells slots) (hx : p.tables.exec = Jvm.exec)  (hd : decode c.code pc = .ok (.aconst_null, 1))  (hp : pc + 1 = pc') (K : Runs p e below E (T.setTop (mkF m pc' Ls (.null :: st)))) : Runs p e below E (T.setTop (mkF m pc Ls st)) := by
  subst hp; exact K.by fun _ k => XS.aconstNull X.here hx rfl hd k
theorem w_iand (X : Stand p l e Rm s m args below meth c T locs cells slots) (hx : p.tables.exec = Jvm.exec) {x y : Int32} (hd : decode c.code pc = .ok (.iand, 1))  (hp : pc + 1 = pc') (K : Runs p e below E (T.setTop (mkF m pc' Ls (.int (x &&& y) :: st)))) : Runs p e below E (T.setTop (mkF m pc Ls (.int y :: .int x :: st))) := by
  subst hp; exact K.by fun _ k => XS.iand X.here hx rfl hd rfl k
theorem w_i2b (X : Stand p l e Rm s m args below meth c T locs cells slots) (hx : p.tables.exec = Jvm.exec) {x : Int32} (hd : decode c.code pc = .ok (.i2b, 1))  (hp : pc + 1 = pc') (K : Runs p e below E (T.setTop (mkF m pc' Ls (.int (x.toInt8.toInt32) :: st)))) : Runs p e below E (T.setTop (mkF m pc Ls (.int x :: st))) := by
  subst hp; exact K.by fun _ k => XS.i2b X.here hx rfl hd rfl k
theorem w_i2c (X : Stand p l e Rm s m args below meth c T locs cells slots) (hx : p.tables.exec = Jvm.exec) {x : Int32} (hd : decode c.code pc = .ok (.i2c, 1))  (hp : pc + 1 = pc') (K : Runs p e below E (T.setTop (mkF m pc' Ls (.int (x.toUInt32.toUInt16.toUInt32.toInt32) :: st)))) : Runs p e below E (T.setTop (mkF m pc Ls (.int x :: st))) := by
  subst hp; exact K.by fun _ k => XS.i2c X.here hx rfl hd rfl k
theorem w_iushr (X : Stand p l e Rm s m args below meth c T locs cells slots) (hx : p.tables.exec = Jvm.exec) {x y : Int32} (hd : decode c.code pc = .ok (.iushr, 1))  (hp : pc + 1 = pc') (K : Runs p e below E (T.setTop (mkF m pc' Ls (.int ((x.toUInt32 >>> (y &&& 31).toUInt32).toInt32) :: st)))) : Runs p e below E (T.setTop (mkF m pc Ls (.int y :: .int x :: st))) := by
  subst hp; exact K.by fun _ k => XS.iushr X.here hx rfl hd rfl k
theorem w_dup (X : Stand p l e Rm s m args below meth c T locs cells slots) (hx : p.tables.exec = Jvm.exec) {x : Value} (hd : decode c.code pc = .ok (.dup, 1)) (hc : x.category = 1) (hp : pc + 1 = pc') (K : Runs p e below E (T.setTop (mkF m pc' Ls (x :: x :: st)))) : Runs p e below E (T.setTop (mkF m pc Ls (x :: st))) := by
  subst hp; exact K.by fun _ k => XS.dup X.here hx rfl hd rfl hc k
theorem w_goto (X : Stand p l e Rm s m args below meth c T locs cells slots) (hx : p.tables.exec = Jvm.exec) {o : Int} (hd : decode c.code pc = .ok (.goto o, 3))  (ho : 0 ≤ (pc : Int) + o) (hp : ((pc : Int) + o).toNat = pc') (K : Runs p e below E (T.setTop (mkF m pc' Ls st))) : Runs p e below E (T.setTop (mkF m pc Ls st)) := by
  exact K.by fun _ k => XS.goto X.here hx rfl rfl hd ho hp k
theorem w_ifY (X : Stand p l e Rm s m args below meth c T locs cells slots) (hx : p.tables.exec = Jvm.exec) {cd : ClassFile.Cond} {x : Int32} {o : Int} (hd : decode c.code pc = .ok (.ifCond cd o, 3)) (hc : if_icmp.holds cd x 0 = true) (ho : 0 ≤ (pc : Int) + o) (hp : ((pc : Int) + o).toNat = pc') (K : Runs p e below E (T.setTop (mkF m pc' Ls st))) : Runs p e below E (T.setTop (mkF m pc Ls (.int x :: st))) := by
  exact K.by fun _ k => XS.ifYes X.here hx rfl rfl hd rfl ((if0 _ _).trans hc) ho hp k
theorem w_ifN (X : Stand p l e Rm s m args below meth c T locs cells slots) (hx : p.tables.exec = Jvm.exec) {cd : ClassFile.Cond} {x : Int32} {o : Int} (hd : decode c.code pc = .ok (.ifCond cd o, 3)) (hc : if_icmp.holds cd x 0 = false) (hp : pc + 3 = pc') (K : Runs p e below E (T.setTop (mkF m pc' Ls st))) : Runs p e below E (T.setTop (mkF m pc Ls (.int x :: st))) := by
  subst hp; exact K.by fun _ k => XS.ifNo X.here hx rfl hd rfl ((if0 _ _).trans hc) k
theorem w_icN (X : Stand p l e Rm s m args below meth c T locs cells slots) (hx : p.tables.exec = Jvm.exec) {cd : ClassFile.Cond} {x y : Int32} {o : Int} (hd : decode c.code pc = .ok (.if_icmp cd o, 3)) (hc : if_icmp.holds cd x y = false) (hp : pc + 3 = pc') (K : Runs p e below E (T.setTop (mkF m pc' Ls st))) : Runs p e below E (T.setTop (mkF m pc Ls (.int y :: .int x :: st))) := by
  subst hp; exact K.by fun _ k => XS.icmpNo X.here hx rfl hd rfl hc k
theorem w_ifnonnullY (X : Stand p l e Rm s m args below meth c T locs cells slots) (hx : p.tables.exec = Jvm.exec) {b : Addr} {o : Int} (hd : decode c.code pc = .ok (.ifnonnull o, 3))  (ho : 0 ≤ (pc : Int) + o) (hp : ((pc : Int) + o).toNat = pc') (K : Runs p e below E (T.setTop (mkF m pc' Ls st))) : Runs p e below E (T.setTop (mkF m pc Ls (.ref b :: st))) := by
  exact K.by fun _ k => XS.ifnonnullYes X.here hx rfl rfl hd rfl ho hp k
theorem w_ifnonnullN (X : Stand p l e Rm s m args below meth c T locs cells slots) (hx : p.tables.exec = Jvm.exec) {o : Int} (hd : decode c.code pc = .ok (.ifnonnull o, 3))  (hp : pc + 3 = pc') (K : Runs p e below E (T.setTop (mkF m pc' Ls st))) : Runs p e below E (T.setTop (mkF m pc Ls (.null :: st))) := by
  subst hp; exact K.by fun _ k => XS.ifnonnullNo X.here hx rfl hd rfl k
theorem w_acmp (X : Stand p l e Rm s m args below meth c T locs cells slots) (hx : p.tables.exec = Jvm.exec) {cd : ACond} {x y : Value} {o : Int} {same : Bool} (hd : decode c.code pc = .ok (.if_acmp cd o, 3)) (h1 : x.isRef = true) (h2 : y.isRef = true) (hq : decide (x = y) = same) (ho : 0 ≤ (pc : Int) + o) (hp : pc' = if acV cd same = true then ((pc : Int) + o).toNat else pc + 3) (K : Runs p e below E (T.setTop (mkF m pc' Ls st))) : Runs p e below E (T.setTop (mkF m pc Ls (y :: x :: st))) := by
  exact K.by fun _ k => Jvm.RoadKit.acmp (g := mkF m pc Ls _) X hx rfl h1 h2 rfl hd rfl hq ho hp k
theorem w_getF (X : Stand p l e Rm s m args below meth c T locs cells slots) (hx : p.tables.exec = Jvm.exec) {Z : State} {a0 : Array Value} {h : Heap} {own R0 O n d : String} (host : String) {index : Nat} {a : Addr} {v : Value} (hZ : Z.Warmed39 s.vm) (hown : s.vm.findClass own = some m.cls) (w : (Cond.fieldLink own index R0 n d).before a0 Z = true ∨ (Cond.fieldLinkNest own index R0 n d host).before a0 Z = true) (via : Via Z R0 O n d) (eT : T.heap = h) (F : Fld Z h a O n d v) (hd : decode c.code pc = .ok (.getfield index, 3)) (hp : pc + 3 = pc') (K : ∀ T' : State, Stand p l e Rm s m args below meth c T' locs cells slots → T'.heap = h → Runs p e below E (T'.setTop (mkF m pc' Ls (v :: st)))) : Runs p e below E (T.setTop (mkF m pc Ls (.ref a :: st))) := by
  subst hp
  obtain ⟨T1, X1, e1, st1⟩ := getF X hx hZ hown (host := host) w via eT F (g := mkF m pc Ls (.ref a :: st)) rfl rfl hd
  exact (K T1 X1 e1).by st1
theorem w_getS (X : Stand p l e Rm s m args below meth c T locs cells slots) (hx : p.tables.exec = Jvm.exec) {Z : State} {a0 : Array Value} {h : Heap} {own R0 O n d : String} (host : String) {index : Nat} {v : Value} (hZ : Z.Warmed39 s.vm) (hown : s.vm.findClass own = some m.cls) (w : (Cond.fieldLink own index R0 n d).before a0 Z = true ∨ (Cond.fieldLinkNest own index R0 n d host).before a0 Z = true) (via : Via Z R0 O n d) (eT : T.heap = h) (F : Sta Z h O n d v) (hd : decode c.code pc = .ok (.getstatic index, 3)) (hp : pc + 3 = pc') (K : ∀ T' : State, Stand p l e Rm s m args below meth c T' locs cells slots → T'.heap = h → Runs p e below E (T'.setTop (mkF m pc' Ls (v :: st)))) : Runs p e below E (T.setTop (mkF m pc Ls st)) := by
  subst hp
  obtain ⟨T1, X1, e1, st1⟩ := getS2 X hx hZ hown (host := host) w via eT F (g := mkF m pc Ls st) rfl hd
  exact (K T1 X1 e1).by st1
theorem w_putF (X : Stand p l e Rm s m args below meth c T locs cells slots) (hx : p.tables.exec = Jvm.exec) {Z : State} {a0 : Array Value} {h : Heap} {own R0 O n d C : String} (host : String) {index kk : Nat} {ty : FieldType} {a : Addr} {v old : Value} (hZ : Z.Warmed39 s.vm) (hown : s.vm.findClass own = some m.cls) (w : (Cond.fieldLink own index R0 n d).before a0 Z = true ∨ (Cond.fieldLinkNest own index R0 n d host).before a0 Z = true) (via : Via Z R0 O n d) (eT : T.heap = h) (F : Fld Z h a O n d old) (Ex : Exa Z h a C) (Ly : (Cond.lays C O n d).before a0 Z = true ∨ ((Cond.laysFinal C O n d).before a0 Z = true ∧ own = O ∧ meth.name = "<init>")) (wi : (Cond.instantiable C kk).before a0 Z = true) (hty : parseFieldDescriptor d = some ty) (hn : narrow ty v = v) (hf : fits ty v = true) (hd : decode c.code pc = .ok (.putfield index, 3)) (hp : pc + 3 = pc') (K : ∀ (T' : State) (h' : Heap), Stand p l e Rm s m args below meth c T' (locs ++ [⟨a, slotOf Z O n d⟩]) cells slots → T'.heap = h' → Wr h h' a (slotOf Z O n d) v → Runs p e below E (T'.setTop (mkF m pc' Ls st))) : Runs p e below E (T.setTop (mkF m pc Ls (v :: .ref a :: st))) := by
  subst hp
  obtain ⟨T1, h1, X1, e1, W1, st1⟩ := putF X hx hZ hown (host := host) w via eT F Ex Ly wi hty hn hf (g := mkF m pc Ls (v :: .ref a :: st)) rfl rfl hd
  exact (K T1 h1 X1 e1 W1).by st1
theorem w_new (X : Stand p l e Rm s m args below meth c T locs cells slots) (hx : p.tables.exec = Jvm.exec) {Z : State} {a0 : Array Value} {h : Heap} {own C : String} {index n : Nat} (hZ : Z.Warmed39 s.vm) (hown : s.vm.findClass own = some m.cls) (w : (Cond.classLink own index C).before a0 Z = true) (wi : (Cond.instantiable C n).before a0 Z = true) (wz : (Cond.initialized C).before a0 Z = true) (eT : T.heap = h) (hd : decode c.code pc = .ok (.new index, 3)) (hc : cells + 1 ≤ Rm.cells) (hl : slots + n ≤ Rm.slots) (hp : pc + 3 = pc') (K : ∀ (T' : State) (h' : Heap) (b : Addr), Stand p l e Rm s m args below meth c T' locs (cells + 1) (slots + n) → T'.heap = h' → Ext h h' → b = h.size → Exa Z h' b C → (∀ {O nm d : String} {ty : FieldType}, Laid Z a0 C O nm d → parseFieldDescriptor d = some ty → Fld Z h' b O nm d (defaultValue ty)) → Runs p e below E (T'.setTop (mkF m pc' Ls (.ref b :: st)))) : Runs p e below E (T.setTop (mkF m pc Ls st)) := by
  subst hp
  obtain ⟨T1, h1, X1, e1, E1, A1, D1, -, st1⟩ := newO X hx hZ hown w wi wz eT (g := mkF m pc Ls st) rfl hd hc hl
  exact (K T1 h1 _ X1 e1 E1 rfl A1 D1).by st1
theorem w_newP (X : Stand p l e Rm s m args below meth c T locs cells slots) (hx : p.tables.exec = Jvm.exec) {Z : State} {a0 : Array Value} {h : Heap} (aty : ArrayType) (ty : FieldType) {n : Int32} (cap : Nat) (hty : newarray.typeOf aty = ty) (hZ : Z.Warmed39 s.vm) (w : (Cond.arrayClass ty).before a0 Z = true) (eT : T.heap = h) (hd : decode c.code pc = .ok (.newarray aty, 2)) (hn : ¬ n < 0) (hcap : n.toNatClampNeg ≤ cap) (hb : cap * 8 ≤ 536870912) (hc : cells + 1 ≤ Rm.cells) (hl : slots + cap ≤ Rm.slots) (hp : pc + 2 = pc') (K : ∀ (T' : State) (h' : Heap) (k : ClassId) (b : Addr), Stand p l e Rm s m args below meth c T' locs (cells + 1) (slots + cap) → T'.heap = h' → Ext h h' → b = h.size → Arr Z h' b (newA k ty n) ty → Runs p e below E (T'.setTop (mkF m pc' Ls (.ref b :: st)))) : Runs p e below E (T.setTop (mkF m pc Ls (.int n :: st))) := by
  subst hp
  subst hty
  obtain ⟨T1, h1, k1, X1, e1, E1, A1, st1⟩ := newP X hx hZ w eT (g := mkF m pc Ls (.int n :: st)) rfl hd rfl hn hcap hb hc hl
  exact (K T1 h1 k1 _ X1 e1 E1 rfl A1).by st1
theorem w_stC (X : Stand p l e Rm s m args below meth c T locs cells slots) (hx : p.tables.exec = Jvm.exec) {Z : State} {h : Heap} {a : Addr} {cl : Cell} {j : Int32} {x : Int32} (hZ : Z.Warmed39 s.vm) (eT : T.heap = h) (A : Arr Z h a cl .char) (hj : ¬ (j < 0 ∨ cl.slots.size ≤ j.toNatClampNeg)) (hd : decode c.code pc = .ok (.castore, 1)) (hp : pc + 1 = pc') (K : ∀ (T' : State) (h' : Heap), Stand p l e Rm s m args below meth c T' (locs ++ [⟨a, j.toNatClampNeg⟩]) cells slots → T'.heap = h' → Wr h h' a j.toNatClampNeg (.int (nar .char x)) → Runs p e below E (T'.setTop (mkF m pc' Ls st))) : Runs p e below E (T.setTop (mkF m pc Ls (.int x :: .int j :: .ref a :: st))) := by
  subst hp
  obtain ⟨T1, h1, X1, e1, W1, st1⟩ := stC X hx hZ eT A (j := j) hj (g := mkF m pc Ls (.int x :: .int j :: .ref a :: st)) rfl rfl hd
  exact (K T1 h1 X1 e1 W1).by st1
theorem w_stB (X : Stand p l e Rm s m args below meth c T locs cells slots) (hx : p.tables.exec = Jvm.exec) {Z : State} {h : Heap} {a : Addr} {cl : Cell} {j : Int32} {x : Int32} (hZ : Z.Warmed39 s.vm) (eT : T.heap = h) (A : Arr Z h a cl .byte) (hj : ¬ (j < 0 ∨ cl.slots.size ≤ j.toNatClampNeg)) (hd : decode c.code pc = .ok (.bastore, 1)) (hp : pc + 1 = pc') (K : ∀ (T' : State) (h' : Heap), Stand p l e Rm s m args below meth c T' (locs ++ [⟨a, j.toNatClampNeg⟩]) cells slots → T'.heap = h' → Wr h h' a j.toNatClampNeg (.int (nar .byte x)) → Runs p e below E (T'.setTop (mkF m pc' Ls st))) : Runs p e below E (T.setTop (mkF m pc Ls (.int x :: .int j :: .ref a :: st))) := by
  subst hp
  obtain ⟨T1, h1, X1, e1, W1, st1⟩ := stB X hx hZ eT A (j := j) hj (g := mkF m pc Ls (.int x :: .int j :: .ref a :: st)) rfl rfl hd
  exact (K T1 h1 X1 e1 W1).by st1
theorem w_initO (X : Stand p l e Rm s m args below meth c T locs cells slots) (hx : p.tables.exec = Jvm.exec) {Z : State} {a0 : Array Value} {h : Heap} {own : String} {index : Nat} {a : Addr} (W : Nat) (hZ : Z.Warmed39 s.vm) (hown : s.vm.findClass own = some m.cls) (w1 : (Cond.methodLink own index Lib.objectInit).before a0 Z = true) (w2 : (Cond.instanceMethod Lib.objectInit).before a0 Z = true) (w3 : (Cond.code Lib.objectInit ⟨#[0xb1]⟩ 1 none).before a0 Z = true) (eT : T.heap = h) (hsz : Ls.size = c.maxLocals) (hd : decode c.code pc = .ok (.invokespecial index, 3)) (hf : 1 ≤ Rm.frames) (hW : (st.map fun v => v.category).sum ≤ W) (hl : W + 12 ≤ Rm.locals) (hp : pc + 3 = pc') (K : ∀ T' : State, Stand p l e Rm s m args below meth c T' locs cells slots → T'.heap = h → Runs p e below E (T'.setTop (mkF m pc' Ls st))) : Runs p e below E (T.setTop (mkF m pc Ls (.ref a :: st))) := by
  subst hp
  obtain ⟨T1, X1, e1, st1⟩ := initO X hx hZ hown w1 w2 w3 eT (g := mkF m pc Ls (.ref a :: st)) rfl hsz rfl hd hf (W := W) (by show 2 * 0 + _ ≤ _; omega) hl
  exact (K T1 X1 e1).by st1
theorem w_static (X : Stand p l e Rm s m args below meth c T locs cells slots) (hx : p.tables.exec = Jvm.exec) {stk : List Value} {own : String} {index : Nat} {y : MethodName} {bytes : ByteArray} {maxL : Nat} {ret : Option FieldType} {W : Nat} {Pre : Pt → Array Value → Prop} {Post : Pt → Array Value → Option Value → Pt → Prop} (hown : s.vm.findClass own = some m.cls) (hlink : (Cond.methodLink own index y).before args s = true) (hstat : (Cond.static y).before args s = true) (hinit : (Cond.initialized y.cls).before args s = true) (hcode : (Cond.code y bytes maxL ret).before args s = true) (hy : y.cls ≠ "java/lang/invoke/MethodHandle" ∧ y.cls ≠ "java/lang/invoke/VarHandle") (hK : Back l Rm p e below s args y 3 W Pre Post) (hsz : Ls.size = c.maxLocals) (argsL : List Value) (hlen : ∀ sig, parseMethodDescriptor y.desc = some sig → argsL.length = sig.parameters.length) (hst : stk = argsL.reverse ++ st) (hW : (st.map fun v => v.category).sum ≤ W) (hd : decode c.code pc = .ok (.invokestatic index, 3)) (hpre : ∀ vm₁, s.WarmedH vm₁ → Pre ⟨T.setVm vm₁, locs, cells, slots⟩ argsL.toArray) (hp : pc + 3 = pc') (K : ∀ (v : Option Value) (vm₁ : Vm) (B : Pt), Stand p l e Rm s m args below meth c B.U B.locs B.cells B.slots → Post ⟨T.setVm vm₁, locs, cells, slots⟩ argsL.toArray v B → Runs p e below E (B.U.setTop (mkF m pc' Ls (v.toList ++ st)))) : Runs p e below E (T.setTop (mkF m pc Ls stk)) := by
  subst hp
  obtain ⟨v1, vm1, B1, -, X1, q1, st1⟩ := Jvm.LawKit.callS X hx hown hlink hstat hinit hcode hy hK (g := mkF m pc Ls stk) rfl hsz (argsL := argsL) (rest := st) hlen hst (by show 2 * 0 + _ ≤ _; omega) hd hpre
  exact (K v1 vm1 B1 X1 q1).by st1
theorem w_special (X : Stand p l e Rm s m args below meth c T locs cells slots) (hx : p.tables.exec = Jvm.exec) {stk : List Value} {own : String} {index : Nat} {y : MethodName} {bytes : ByteArray} {maxL : Nat} {a : Addr} {W : Nat} {Pre : Pt → Array Value → Prop} {Post : Pt → Array Value → Option Value → Pt → Prop} (hy1 : y.name = "<init>") (hown : s.vm.findClass own = some m.cls) (hlink : (Cond.methodLink own index y).before args s = true) (hinst : (Cond.instanceMethod y).before args s = true) (hcode : (Cond.code y bytes maxL none).before args s = true) (hy : y.cls ≠ "java/lang/invoke/MethodHandle" ∧ y.cls ≠ "java/lang/invoke/VarHandle") (hK : Back l Rm p e below s args y 3 W Pre Post) (hsz : Ls.size = c.maxLocals) (argsL : List Value) (hlen : ∀ sig, parseMethodDescriptor y.desc = some sig → argsL.length = sig.parameters.length) (hst : stk = argsL.reverse ++ .ref a :: st) (hW : (st.map fun v => v.category).sum ≤ W) (hd : decode c.code pc = .ok (.invokespecial index, 3)) (hpre : ∀ vm₁, s.WarmedH vm₁ → Pre ⟨T.setVm vm₁, locs, cells, slots⟩ (.ref a :: argsL).toArray) (hp : pc + 3 = pc') (K : ∀ (v : Option Value) (vm₁ : Vm) (B : Pt), Stand p l e Rm s m args below meth c B.U B.locs B.cells B.slots → Post ⟨T.setVm vm₁, locs, cells, slots⟩ (.ref a :: argsL).toArray v B → Runs p e below E (B.U.setTop (mkF m pc' Ls (v.toList ++ st)))) : Runs p e below E (T.setTop (mkF m pc Ls stk)) := by
  subst hp
  obtain ⟨v1, vm1, B1, -, X1, q1, st1⟩ := X.specialBack hx hy1 hown hlink hinst hcode hy hK (g := mkF m pc Ls stk) rfl hsz (Steps.refl _) (a := a) (argsL := argsL) (rest := st) hlen hst (by show 2 * 0 + _ ≤ _; omega) hd hpre
  exact (K v1 vm1 B1 X1 q1).tr st1
theorem w_virtual (X : Stand p l e Rm s m args below meth c T locs cells slots) (hx : p.tables.exec = Jvm.exec) {stk : List Value} {own C : String} {index : Nat} {y z : MethodName} {b : Addr} {cB : ClassId} {W : Nat} {Pre : Pt → Array Value → Prop} {Post : Pt → Array Value → Option Value → Pt → Prop} (hown : s.vm.findClass own = some m.cls) (hlink : (Cond.methodLink own index y).before args s = true) (hdecl : (Cond.declares y).before args s = true) (hnf : NotFace s y) (hsel : (Cond.selects C y z).before args s = true) (hinst : (Cond.instanceMethod z).before args s = true) (hy : y.cls ≠ "java/lang/invoke/MethodHandle" ∧ y.cls ≠ "java/lang/invoke/VarHandle") (hK : Back l Rm p e below s args z 3 W Pre Post) (hcB : s.vm.findClass C = some cB) (hrecv : IsOf cB T b) (hsz : Ls.size = c.maxLocals) (argsL : List Value) (hlen : ∀ sig, parseMethodDescriptor y.desc = some sig → argsL.length = sig.parameters.length) (hst : stk = argsL.reverse ++ .ref b :: st) (hW : (st.map fun v => v.category).sum ≤ W) (hd : decode c.code pc = .ok (.invokevirtual index, 3)) (hpre : ∀ vm₁, s.WarmedH vm₁ → Pre ⟨T.setVm vm₁, locs, cells, slots⟩ (.ref b :: argsL).toArray) (hp : pc + 3 = pc') (K : ∀ (v : Option Value) (vm₁ : Vm) (B : Pt), Stand p l e Rm s m args below meth c B.U B.locs B.cells B.slots → Post ⟨T.setVm vm₁, locs, cells, slots⟩ (.ref b :: argsL).toArray v B → Runs p e below E (B.U.setTop (mkF m pc' Ls (v.toList ++ st)))) : Runs p e below E (T.setTop (mkF m pc Ls stk)) := by
  subst hp
  obtain ⟨v1, vm1, B1, -, X1, q1, st1⟩ := X.virtualBack hx hown hlink hdecl hnf hsel hinst hy hK hcB hrecv (g := mkF m pc Ls stk) rfl hsz (Steps.refl _) (argsL := argsL) (rest := st) hlen hst (by show 2 * 0 + _ ≤ _; omega) hd hpre
  exact (K v1 vm1 B1 X1 q1).tr st1
end W

/-- a body's contract, and how a walk shows it -/
abbrev MetN (l : Launch) (Z : State) (y : MethodName) (bytes : ByteArray) (maxL : Nat) (ret : Option FieldType) (ws : List Cond) (rm : Room) (as' : Array Value) (h : Heap) (Q : Option Value → Heap → List Loc → Prop) : Prop :=
  MetFree l y (head1 (Cond.code y bytes maxL ret :: ws) rm) (fun a U => a = as' ∧ Z.Warmed39 U.vm ∧ U.heap = h) (fun _ _ _ _ _ => True) (fun _ U o U' => ∃ v L, o = .returned v ∧ Q v U'.heap L ∧ FrameEnd U o U' L rm.cells rm.slots)
theorem MetN.of {l : Launch} {Z : State} {y : MethodName} {bytes : ByteArray} {maxL : Nat} {ret : Option FieldType} {ws : List Cond} {rm : Room} {as' : Array Value} {h : Heap} {Q : Option Value → Heap → List Loc → Prop} (hp : plainFor y = true)
    (H : ∀ (p : Program) (e : Env) (s : State) (m : MethodId) (below : List Frame) (meth : Method) (c : Code) (s₁ : State), meth.sig.returnType = ret → p.tables.exec = Jvm.exec → c.code = bytes → c.maxLocals = maxL → s.vm.findClass y.cls = some m.cls → meth.name = y.name → meth.locks = false → Z.Warmed39 s.vm → Stand p l e rm s m as' below meth c s₁ [] 0 0 → s₁.heap = h → Runs p e below (EndN s Q rm.cells rm.slots) (s₁.setTop (entryFrame m as' maxL))) :
    MetN l Z y bytes maxL ret ws rm as' h Q := by
  refine MetFree.of_bodySF hp hisR ?_
  intro p e s m args below meth c s₁ Bd hml hP hK
  obtain ⟨rfl, hZ, hh⟩ := hP
  exact H p e s m below meth c s₁ Bd.returns Bd.exec Bd.bytes hml (findClass_of_methodNamed Bd.named) (name_of_methodNamed Bd.named Bd.method).1 Bd.notSynchronized hZ (Stand.of_body Bd) (by rw [← hh, Bd.state]; rfl)
abbrev MetH (l : Launch) (Z : State) (EL : List (String × Nat)) (y : MethodName) (bytes : ByteArray) (maxL : Nat) (ret : Option FieldType) (ws : List Cond) (rm : Room) (as' : Array Value) (h : Heap) (Q : Option Value → Heap → List Loc → (Addr → Prop) → Prop) (sf : List Addr) : Prop :=
  MetFree l y (head1 (Cond.code y bytes maxL ret :: ws) rm) (fun a U => a = as' ∧ Z.Warmed39 U.vm ∧ U.heap = h ∧ CHv Z EL U.vm h ∧ ∀ x ∈ sf, Safe Z EL U.vm h x) (fun _ _ _ _ _ => True) (fun _ U o U' => ∃ v L, o = .returned v ∧ Q v U'.heap L (Safe Z EL U'.vm U'.heap) ∧ CHr Z EL U.vm U.heap U'.vm U'.heap ∧ ReturnedEndW U o U' L rm.cells rm.slots)
theorem MetH.of {l : Launch} {Z : State} {EL : List (String × Nat)} {y : MethodName} {bytes : ByteArray} {maxL : Nat} {ret : Option FieldType} {ws : List Cond} {rm : Room} {as' : Array Value} {h : Heap} {Q : Option Value → Heap → List Loc → (Addr → Prop) → Prop} {sf : List Addr} (hp : plainFor y = true)
    (H : ∀ (p : Program) (e : Env) (s : State) (m : MethodId) (below : List Frame) (meth : Method) (c : Code) (s₁ : State), meth.sig.returnType = ret → p.tables.exec = Jvm.exec → c.code = bytes → c.maxLocals = maxL → s.vm.findClass y.cls = some m.cls → meth.name = y.name → meth.locks = false → Z.Warmed39 s.vm → Stand p l e rm (s.setVm s.vm) m as' below meth c s₁ [] 0 0 → s₁.heap = h → s.heap = h → CHv Z EL s.vm h → (∀ x ∈ sf, Safe Z EL s.vm h x) → s.Since s.vm h.size → CHr Z EL s.vm h s.vm h → Runs p e below (EndH s Z EL Q rm.cells rm.slots) (s₁.setTop (entryFrame m as' maxL))) :
    MetH l Z EL y bytes maxL ret ws rm as' h Q sf := by
  refine MetFree.of_bodySF hp hisR ?_
  intro p e s m args below meth c s₁ Bd hml hP hK
  obtain ⟨rfl, hZ, hh, hH, hsf⟩ := hP
  exact H p e s m below meth c s₁ Bd.returns Bd.exec Bd.bytes hml (findClass_of_methodNamed Bd.named) (name_of_methodNamed Bd.named Bd.method).1 Bd.notSynchronized hZ (Stand.of_body Bd) (by rw [← hh, Bd.state]; rfl) hh hH hsf ((State.WarmedH.refl s).since _) (CHr.refl hH)
end Jvm.RoadKit
/- laws to paste: Road.backV (cut by pick.py; bodies as the Statement names them) -/
namespace Jvm.Pilot.@@N@@
namespace StrChars
open Jvm Sem ClassFile Op Lib Jvm.Stand Jvm.Free.XT Jvm.Free.ALB Jvm.Free.JM Jvm.Free
open Jvm.Lib.Cold (StaticIs)
/-- a char array whose places are chars -/
def Ch (a : Addr) (A : Cell) (U : State) : Prop := Arr .char a A U ∧ Typed .char A
theorem Ch.mv {a : Addr} {A : Cell} {U U' : State} (h : Ch a A U) (hal : U.vm.Alike U'.vm) (hh : U'.heap = U.heap) : Ch a A U' := ⟨h.1.mv hal hh, h.2⟩
theorem Ch.keep {a : Addr} {A : Cell} {U U' : State} (h : Ch a A U) (hal : U.vm.Alike U'.vm) (hk : U'.heap[a]? = some A) : Ch a A U' := ⟨h.1.keep hal hk, h.2⟩
/-- what place i of a char[]'s cell holds -/
def cv (A : Cell) (i : Nat) : Int32 := match A.slots[i]? with | some (.int x) => x | _ => 0
theorem Ch.get {a : Addr} {A : Cell} {U : State} (h : Ch a A U) {i : Nat} (hi : i < A.slots.size) : A.slots[i]? = some (.int (cv A i)) := by
  have e := Array.getElem?_eq_getElem hi
  have f := h.2 i _ e
  unfold cv; rw [e]
  generalize A.slots[i] = v at f
  cases v <;> simp [fits] at f ⊢
/-- the byte that i2b leaves of a char -/
def lo8 (x : Int32) : Int32 := x.toInt8.toInt32
theorem fits_lo8 (y : Int32) : fits .byte (.int (lo8 y)) = true := by
  have h1 := y.toInt8.le_toInt
  have h2 := y.toInt8.toInt_lt
  simp only [lo8, fits, Bool.and_eq_true, decide_eq_true_eq, Int32.le_iff_toInt_le, Int8.toInt_toInt32, show (-128 : Int32).toInt = -128 from by decide, show (127 : Int32).toInt = 127 from by decide]
  omega
/-- A' is A but that each place j of lo .. hi - 1 holds f j -/
def Laid (A A' : Cell) (lo hi : Nat) (f : Nat → Value) : Prop := A'.cls = A.cls ∧ A'.vm = A.vm ∧ A'.slots.size = A.slots.size ∧ ∀ i, A'.slots[i]? = if lo ≤ i ∧ i < hi then some (f i) else A.slots[i]?
theorem Laid.zero (A : Cell) (lo : Nat) (f : Nat → Value) : Laid A A lo (lo + 0) f := ⟨rfl, rfl, rfl, fun i => by rw [if_neg (by omega)]⟩
theorem Laid.step {A Ak : Cell} {lo k : Nat} {f : Nat → Value} {v : Value} (h : Laid A Ak lo k f) (hlo : lo ≤ k) (hk : k < Ak.slots.size) (hv : v = f k) : Laid A (Ak.setSlot k v) lo (k + 1) f := by
  refine ⟨h.1, h.2.1, by simpa [Cell.setSlot] using h.2.2.1, fun i => ?_⟩
  by_cases e : k = i
  · subst e; rw [Cell.slots_setSlot_self v hk, if_pos (by omega), hv]
  · rw [Cell.slots_setSlot_ne v e, h.2.2.2 i]
    by_cases q : lo ≤ i ∧ i < k
    · rw [if_pos q, if_pos (by omega)]
    · rw [if_neg q, if_neg (by omega)]
def U16 : String := "java/lang/StringUTF16"
namespace Cmp5
def yN : MethodName := ⟨"java/lang/StringUTF16", "compress", "([CI[BII)I"⟩
abbrev yB : ByteArray := jdk_52_method_21_code
theorem d0 : decode yB 0 = .ok (.iconst 0, 1) := by decide +kernel
theorem d1 : decode yB 1 = .ok (.istore 5, 2) := by decide +kernel
theorem d3 : decode yB 3 = .ok (.iload 5, 2) := by decide +kernel
theorem d5 : decode yB 5 = .ok (.iload 4, 2) := by decide +kernel
theorem d7 : decode yB 7 = .ok (.if_icmp (.ge) 37, 3) := by decide +kernel
theorem d10 : decode yB 10 = .ok (.aload_n 0, 1) := by decide +kernel
theorem d11 : decode yB 11 = .ok (.iload_n 1, 1) := by decide +kernel
theorem d12 : decode yB 12 = .ok (.caload, 1) := by decide +kernel
theorem d13 : decode yB 13 = .ok (.istore 6, 2) := by decide +kernel
theorem d15 : decode yB 15 = .ok (.iload 6, 2) := by decide +kernel
theorem d17 : decode yB 17 = .ok (.sipush 255, 3) := by decide +kernel
theorem d20 : decode yB 20 = .ok (.if_icmp (.le) 6, 3) := by decide +kernel
theorem d26 : decode yB 26 = .ok (.aload_n 2, 1) := by decide +kernel
theorem d27 : decode yB 27 = .ok (.iload_n 3, 1) := by decide +kernel
theorem d28 : decode yB 28 = .ok (.iload 6, 2) := by decide +kernel
theorem d30 : decode yB 30 = .ok (.i2b, 1) := by decide +kernel
theorem d31 : decode yB 31 = .ok (.bastore, 1) := by decide +kernel
theorem d32 : decode yB 32 = .ok (.iinc 1 1, 3) := by decide +kernel
theorem d35 : decode yB 35 = .ok (.iinc 3 1, 3) := by decide +kernel
theorem d38 : decode yB 38 = .ok (.iinc 5 1, 3) := by decide +kernel
theorem d41 : decode yB 41 = .ok (.goto (-38), 3) := by decide +kernel
theorem d44 : decode yB 44 = .ok (.iload 4, 2) := by decide +kernel
theorem d46 : decode yB 46 = .ok (.ireturn, 1) := by decide +kernel
def site : List Cond := []
def tab : Cond := tabOf yN yB 7 (some .int) site
def P (b : Addr) (A : Cell) (d : Addr) (B : Cell) (o q len : Nat) (args : Array Value) (s : State) : Prop := args = #[.ref b, .int (Int32.ofNat o), .ref d, .int (Int32.ofNat q), .int (Int32.ofNat len)] ∧ Ch b A s ∧ Arr .byte d B s ∧ b ≠ d ∧ o + len ≤ A.slots.size ∧ q + len ≤ B.slots.size ∧ ∀ i, i < len → ¬ 255 < cv A (o + i)
def E (b : Addr) (A : Cell) (d : Addr) (B : Cell) (o q len : Nat) (r : Option Value) (s u : State) : Prop := r = some (.int (Int32.ofNat len)) ∧ ∃ B', Put d B' s u ∧ Laid B B' q (q + len) (fun j => Value.int (lo8 (cv A (o + (j - q)))))
/-- no char of the range above 255: len; the places written hold each char's low byte -/
theorem law (l : Launch) (b : Addr) (A : Cell) (d : Addr) (B : Cell) (o q len : Nat) : Law l yN 5 5 0 0 yB 7 (some .int) site (P b A d B o q len) (E b A d B o q len) (copyLocs d q len) 0 0 := by
  refine Law.of_walk (plainFor_of_name (by decide +kernel)) (by decide +kernel) (by decide +kernel) (by decide) (fun _ _ h => by rw [h.1]; rfl) (fun _ U U' hal hh h => ⟨h.1, h.2.1.mv hal hh, h.2.2.1.mv hal hh, h.2.2.2⟩) (fun r U U' V V' h1 hal h2 h => ⟨h.1, h.2.elim fun B' q => ⟨B', q.1.mv h1 h2, q.2⟩⟩) ?_
  intro p e s m args below meth c s₁ X0 hexec hbytes hml hret hlk hnm hown hh0 W hP
  obtain ⟨rfl, hA, hB, hne, l1, l2, hp⟩ := hP
  have c1 : Steps p.tables e below (s₁.setTop (entryFrame m #[.ref b, .int (Int32.ofNat o), .ref d, .int (Int32.ofNat q), .int (Int32.ofNat len)] 7)) (s₁.setTop (mkF m 0 #[.val (.ref b), .val (.int (Int32.ofNat o)), .val (.ref d), .val (.int (Int32.ofNat q)), .val (.int (Int32.ofNat len)), .unset, .unset] [])) := entry rfl
  have hA0 := hA.1.mv X0.warmed.alike hh0
  have hB0 := hB.mv X0.warmed.alike hh0
  have a31 := hA.1.2.2.2
  have c2 : Steps p.tables e below (s₁.setTop (entryFrame m #[.ref b, .int (Int32.ofNat o), .ref d, .int (Int32.ofNat q), .int (Int32.ofNat len)] 7)) (s₁.setTop (mkF m 3 #[.val (.ref b), .val (.int (Int32.ofNat o)), .val (.ref d), .val (.int (Int32.ofNat q)), .val (.int (Int32.ofNat len)), .val (.int 0), .unset] [])) := c1.trans (by
    refine iconstV X0.here hexec rfl 0 (hb hbytes d0) (by decide) ?_
    refine XS.istore X0.here hexec rfl (hb hbytes d1) rfl rfl ?_
    exact Steps.refl _)
  have loop : ∀ (r i : Nat), i + r = len → ∀ (z : Slot), (z = .unset ∨ ∃ w, z = .val w ∧ w.category = 1) → ∀ (Tl : State) (Bk : Cell), Stand p l e { frames := 0, locals := 0, cells := 0, slots := 0 } s m #[.ref b, .int (Int32.ofNat o), .ref d, .int (Int32.ofNat q), .int (Int32.ofNat len)] below meth c Tl ([] ++ copyLocs d q i) 0 0 → Put d Bk s₁ Tl → Laid B Bk q (q + i) (fun j => Value.int (lo8 (cv A (o + (j - q))))) →
      Steps p.tables e below (s₁.setTop (entryFrame m #[.ref b, .int (Int32.ofNat o), .ref d, .int (Int32.ofNat q), .int (Int32.ofNat len)] 7)) (Tl.setTop (mkF m 3 #[.val (.ref b), .val (.int (Int32.ofNat (o + i))), .val (.ref d), .val (.int (Int32.ofNat (q + i))), .val (.int (Int32.ofNat len)), .val (.int (Int32.ofNat i)), z] [])) → ∃ (T' : State) (B' : Cell) (z' : Slot), Stand p l e { frames := 0, locals := 0, cells := 0, slots := 0 } s m #[.ref b, .int (Int32.ofNat o), .ref d, .int (Int32.ofNat q), .int (Int32.ofNat len)] below meth c T' ([] ++ copyLocs d q len) 0 0 ∧ Put d B' s₁ T' ∧ Laid B B' q (q + len) (fun j => Value.int (lo8 (cv A (o + (j - q))))) ∧
      Steps p.tables e below (s₁.setTop (entryFrame m #[.ref b, .int (Int32.ofNat o), .ref d, .int (Int32.ofNat q), .int (Int32.ofNat len)] 7)) (T'.setTop (mkF m 3 #[.val (.ref b), .val (.int (Int32.ofNat (o + len))), .val (.ref d), .val (.int (Int32.ofNat (q + len))), .val (.int (Int32.ofNat len)), .val (.int (Int32.ofNat len)), z'] [])) := by
    intro r
    induction r with
    | zero =>
      intro i hi z hz Tl Bk Xl pl fl cl
      have hil : i = len := by omega
      rw [hil] at Xl fl cl
      exact ⟨Tl, Bk, z, Xl, pl, fl, cl⟩
    | succ r ih =>
      intro i hi z hz Tl Bk Xl pl fl cl
      have all := X0.warmed.alike.symm.trans Xl.warmed.alike
      have hAl := hA0.keep all (pl.other hne hA0.1)
      have hBk := hB0.like all pl.1 fl.1 fl.2.1 fl.2.2.1
      have hlt : q + i < Bk.slots.size := by rw [fl.2.2.1]; omega
      have c3 : Steps p.tables e below (s₁.setTop (entryFrame m #[.ref b, .int (Int32.ofNat o), .ref d, .int (Int32.ofNat q), .int (Int32.ofNat len)] 7)) (Tl.setTop (mkF m 12 #[.val (.ref b), .val (.int (Int32.ofNat (o + i))), .val (.ref d), .val (.int (Int32.ofNat (q + i))), .val (.int (Int32.ofNat len)), .val (.int (Int32.ofNat i)), z] [.int (Int32.ofNat (o + i)), .ref b])) := cl.trans (by
        refine XS.iload Xl.here hexec rfl (hb hbytes d3) rfl ?_
        refine XS.iload Xl.here hexec rfl (hb hbytes d5) rfl ?_
        refine XS.icmpNo Xl.here hexec rfl (hb hbytes d7) rfl (ii_ge_f (lt32 (by omega) (by omega))) ?_
        refine XS.aloadN Xl.here hexec rfl (hb hbytes d10) rfl rfl ?_
        refine XS.iloadN Xl.here hexec rfl (hb hbytes d11) rfl ?_
        exact Steps.refl _)
      have c4 : Steps p.tables e below (s₁.setTop (entryFrame m #[.ref b, .int (Int32.ofNat o), .ref d, .int (Int32.ofNat q), .int (Int32.ofNat len)] 7)) (Tl.setTop (mkF m 13 #[.val (.ref b), .val (.int (Int32.ofNat (o + i))), .val (.ref d), .val (.int (Int32.ofNat (q + i))), .val (.int (Int32.ofNat len)), .val (.int (Int32.ofNat i)), z] [.int (cv A (o + i))])) := c3.trans (by
        refine Xl.aget hexec hAl rfl (hA.get (i := o + i) (by omega)) rfl rfl (hb hbytes d12) ?_
        exact Steps.refl _)
      have c5 : Steps p.tables e below (s₁.setTop (entryFrame m #[.ref b, .int (Int32.ofNat o), .ref d, .int (Int32.ofNat q), .int (Int32.ofNat len)] 7)) (Tl.setTop (mkF m 15 #[.val (.ref b), .val (.int (Int32.ofNat (o + i))), .val (.ref d), .val (.int (Int32.ofNat (q + i))), .val (.int (Int32.ofNat len)), .val (.int (Int32.ofNat i)), .val (.int (cv A (o + i)))] [])) := c4.trans (by
        refine XS.istoreS Xl.here hexec rfl (hb hbytes d13) rfl rfl hz ?_
        exact Steps.refl _)
      have c6 : Steps p.tables e below (s₁.setTop (entryFrame m #[.ref b, .int (Int32.ofNat o), .ref d, .int (Int32.ofNat q), .int (Int32.ofNat len)] 7)) (Tl.setTop (mkF m 31 #[.val (.ref b), .val (.int (Int32.ofNat (o + i))), .val (.ref d), .val (.int (Int32.ofNat (q + i))), .val (.int (Int32.ofNat len)), .val (.int (Int32.ofNat i)), .val (.int (cv A (o + i)))] [.int (lo8 (cv A (o + i))), .int (Int32.ofNat (q + i)), .ref d])) := c5.trans (by
        refine XS.iload Xl.here hexec rfl (hb hbytes d15) rfl ?_
        refine sipushV Xl.here hexec rfl 255 (hb hbytes d17) (by decide) ?_
        refine XS.icmpYes Xl.here hexec rfl (pc0 := 20) rfl (hb hbytes d20) rfl (ii_le_t (hp i (by omega))) (by decide) rfl ?_
        refine XS.aloadN Xl.here hexec rfl (hb hbytes d26) rfl rfl ?_
        refine XS.iloadN Xl.here hexec rfl (hb hbytes d27) rfl ?_
        refine XS.iload Xl.here hexec rfl (hb hbytes d28) rfl ?_
        refine i2b Xl.here hexec rfl (hb hbytes d30) rfl ?_
        exact Steps.refl _)
      obtain ⟨T7, X7, p7, st7⟩ := Xl.aput hexec hBk rfl hlt rfl (fits_lo8 (cv A (o + i))) (g := (mkF m 31 #[.val (.ref b), .val (.int (Int32.ofNat (o + i))), .val (.ref d), .val (.int (Int32.ofNat (q + i))), .val (.int (Int32.ofNat len)), .val (.int (Int32.ofNat i)), .val (.int (cv A (o + i)))] [.int (lo8 (cv A (o + i))), .int (Int32.ofNat (q + i)), .ref d])) rfl (rest := []) rfl (hb hbytes d31)
      have c8 : Steps p.tables e below (s₁.setTop (entryFrame m #[.ref b, .int (Int32.ofNat o), .ref d, .int (Int32.ofNat q), .int (Int32.ofNat len)] 7)) (T7.setTop (mkF m 32 #[.val (.ref b), .val (.int (Int32.ofNat (o + i))), .val (.ref d), .val (.int (Int32.ofNat (q + i))), .val (.int (Int32.ofNat len)), .val (.int (Int32.ofNat i)), .val (.int (cv A (o + i)))] [])) := c6.trans (st7 _ (Steps.refl _))
      have c9 : Steps p.tables e below (s₁.setTop (entryFrame m #[.ref b, .int (Int32.ofNat o), .ref d, .int (Int32.ofNat q), .int (Int32.ofNat len)] 7)) (T7.setTop (mkF m 3 #[.val (.ref b), .val (.int (Int32.ofNat (o + i) + 1)), .val (.ref d), .val (.int (Int32.ofNat (q + i) + 1)), .val (.int (Int32.ofNat len)), .val (.int (Int32.ofNat i + 1)), .val (.int (cv A (o + i)))] [])) := c8.trans (by
        refine iincV X7.here hexec rfl 1 (hb hbytes d32) (by decide) rfl rfl ?_
        refine iincV X7.here hexec rfl 1 (hb hbytes d35) (by decide) rfl rfl ?_
        refine iincV X7.here hexec rfl 1 (hb hbytes d38) (by decide) rfl rfl ?_
        refine XS.goto X7.here hexec rfl (pc0 := 41) rfl (hb hbytes d41) (by decide) rfl ?_
        exact Steps.refl _)
      have c10 : Steps p.tables e below (s₁.setTop (entryFrame m #[.ref b, .int (Int32.ofNat o), .ref d, .int (Int32.ofNat q), .int (Int32.ofNat len)] 7)) (T7.setTop (mkF m 3 #[.val (.ref b), .val (.int (Int32.ofNat (o + (i + 1)))), .val (.ref d), .val (.int (Int32.ofNat (q + (i + 1)))), .val (.int (Int32.ofNat len)), .val (.int (Int32.ofNat (i + 1))), .val (.int (cv A (o + i)))] [])) := by
        have := c9
        rw [succ32, succ32, succ32] at this
        exact this
      exact ih (i + 1) (by omega) _ (Or.inr ⟨_, rfl, rfl⟩) T7 _ (by rw [copyLocs_step, ← List.append_assoc]; exact X7) (pl.trans p7) (fl.step (by omega) hlt (by simp)) c10
  obtain ⟨T9, B9, z9, X9, p9, f9, g9⟩ := loop len 0 (by omega) .unset (Or.inl rfl) s₁ B (by simpa [copyLocs] using X0) ⟨hB0.1, fun _ _ => rfl, rfl⟩ (Laid.zero _ _ _) c2
  have c11 : Steps p.tables e below (s₁.setTop (entryFrame m #[.ref b, .int (Int32.ofNat o), .ref d, .int (Int32.ofNat q), .int (Int32.ofNat len)] 7)) (T9.setTop (mkF m 46 #[.val (.ref b), .val (.int (Int32.ofNat (o + len))), .val (.ref d), .val (.int (Int32.ofNat (q + len))), .val (.int (Int32.ofNat len)), .val (.int (Int32.ofNat len)), z9] [.int (Int32.ofNat len)])) := g9.trans (by
    refine XS.iload X9.here hexec rfl (hb hbytes d3) rfl ?_
    refine XS.iload X9.here hexec rfl (hb hbytes d5) rfl ?_
    refine XS.icmpYes X9.here hexec rfl (pc0 := 7) rfl (hb hbytes d7) rfl (ii_ge_t (nlt32 (by omega) (Nat.le_refl _))) (by decide) rfl ?_
    refine XS.iload X9.here hexec rfl (hb hbytes d44) rfl ?_
    exact Steps.refl _)
  exact ⟨T9, some (.int (Int32.ofNat len)), _, _, _, X9, by simp, rfl, rfl, (fun h => by cases h), ⟨rfl, B9, p9.from hh0, f9⟩, fun fs hl => c11.trans (X9.ireturnOut hexec hret rfl (Or.inl rfl) (hb hbytes d46) hl)⟩
end Cmp5
namespace Cmp3
def yN : MethodName := ⟨"java/lang/StringUTF16", "compress", "([CII)[B"⟩
abbrev yB : ByteArray := jdk_52_method_16_code
theorem d0 : decode yB 0 = .ok (.iload_n 2, 1) := by decide +kernel
theorem d1 : decode yB 1 = .ok (.newarray .byte, 2) := by decide +kernel
theorem d3 : decode yB 3 = .ok (.astore_n 3, 1) := by decide +kernel
theorem d4 : decode yB 4 = .ok (.aload_n 0, 1) := by decide +kernel
theorem d5 : decode yB 5 = .ok (.iload_n 1, 1) := by decide +kernel
theorem d6 : decode yB 6 = .ok (.aload_n 3, 1) := by decide +kernel
theorem d7 : decode yB 7 = .ok (.iconst 0, 1) := by decide +kernel
theorem d8 : decode yB 8 = .ok (.iload_n 2, 1) := by decide +kernel
theorem d9 : decode yB 9 = .ok (.invokestatic 115, 3) := by decide +kernel
theorem d12 : decode yB 12 = .ok (.istore 4, 2) := by decide +kernel
theorem d14 : decode yB 14 = .ok (.iload 4, 2) := by decide +kernel
theorem d16 : decode yB 16 = .ok (.iload_n 2, 1) := by decide +kernel
theorem d17 : decode yB 17 = .ok (.if_icmp (.eq) 40, 3) := by decide +kernel
theorem d57 : decode yB 57 = .ok (.aload_n 3, 1) := by decide +kernel
theorem d58 : decode yB 58 = .ok (.areturn, 1) := by decide +kernel
def site : List Cond := [.arrayClass .byte, Cmp5.tab] ++ staticW U16 115 Cmp5.yN
def tab : Cond := tabOf yN yB 6 (some (.array .byte)) site
def P (b : Addr) (A : Cell) (o len : Nat) (args : Array Value) (s : State) : Prop := args = #[.ref b, .int (Int32.ofNat o), .int (Int32.ofNat len)] ∧ Ch b A s ∧ o + len ≤ A.slots.size ∧ len ≤ 536870912 ∧ ∀ i, i < len → ¬ 255 < cv A (o + i)
def E (b : Addr) (A : Cell) (o len : Nat) (r : Option Value) (s u : State) : Prop := NewArr .byte "[B" len (fun j => .int (lo8 (cv A (o + j)))) r s u ∧ u.heap.size = s.heap.size + 1
/-- no char of the range above 255: a new byte[] of their low bytes -/
theorem law (l : Launch) (b : Addr) (A : Cell) (o len : Nat) : Law l yN 3 3 1 18 yB 6 (some (.array .byte)) site (P b A o len) (E b A o len) [] 1 len := by
  refine Law.of_walk (plainFor_of_name (by decide +kernel)) (by decide +kernel) (by decide +kernel) (by decide) (fun _ _ h => by rw [h.1]; rfl) (fun _ U U' hal hh h => ⟨h.1, h.2.1.mv hal hh, h.2.2⟩) (fun r U U' V V' h1 hal h2 h => ⟨NewArr.mv r U U' V V' h1 hal h2 h.1, by rw [h1, h2]; exact h.2⟩) ?_
  intro p e s m args below meth c s₁ X0 hexec hbytes hml hret hlk hnm hown hh0 W hP
  obtain ⟨rfl, hA, l1, l2, hp⟩ := hP
  have a31 := hA.1.2.2.2
  have c1 : Steps p.tables e below (s₁.setTop (entryFrame m #[.ref b, .int (Int32.ofNat o), .int (Int32.ofNat len)] 6)) (s₁.setTop (mkF m 0 #[.val (.ref b), .val (.int (Int32.ofNat o)), .val (.int (Int32.ofNat len)), .unset, .unset, .unset] [])) := entry rfl
  have c2 : Steps p.tables e below (s₁.setTop (entryFrame m #[.ref b, .int (Int32.ofNat o), .int (Int32.ofNat len)] 6)) (s₁.setTop (mkF m 1 #[.val (.ref b), .val (.int (Int32.ofNat o)), .val (.int (Int32.ofNat len)), .unset, .unset, .unset] [.int (Int32.ofNat len)])) := c1.trans (by
    refine XS.iloadN X0.here hexec rfl (hb hbytes d0) rfl ?_
    exact Steps.refl _)
  obtain ⟨T3, B3, X3, ba3, bs3, bv3, bh3, bf3, st3⟩ := X0.anew hexec (atype := .byte) (wk W (.arrayClass .byte)) rfl (by show len * 1 ≤ _; omega) (by omega) (g := (mkF m 1 #[.val (.ref b), .val (.int (Int32.ofNat o)), .val (.int (Int32.ofNat len)), .unset, .unset, .unset] [.int (Int32.ofNat len)])) rfl (hb hbytes d1) (rest := []) rfl (Nat.le_refl _) (by show 0 + len ≤ len; omega)
  rw [hh0] at ba3 st3
  have kp3 : XT.Kept s T3 := (XT.Kept.of_eq hh0).push bh3
  have hA3 := hA.keep X3.warmed.alike (kp3 _ _ hA.1.1)
  have hne : b ≠ s.heap.size := hA.1.ne
  have c4 : Steps p.tables e below (s₁.setTop (entryFrame m #[.ref b, .int (Int32.ofNat o), .int (Int32.ofNat len)] 6)) (T3.setTop (mkF m 3 #[.val (.ref b), .val (.int (Int32.ofNat o)), .val (.int (Int32.ofNat len)), .unset, .unset, .unset] [.ref s.heap.size])) := c2.trans (st3 _ (Steps.refl _))
  have c5 : Steps p.tables e below (s₁.setTop (entryFrame m #[.ref b, .int (Int32.ofNat o), .int (Int32.ofNat len)] 6)) (T3.setTop (mkF m 9 #[.val (.ref b), .val (.int (Int32.ofNat o)), .val (.int (Int32.ofNat len)), .val (.ref s.heap.size), .unset, .unset] [.int (Int32.ofNat len), .int 0, .ref s.heap.size, .int (Int32.ofNat o), .ref b])) := c4.trans (by
    refine XS.astoreN X3.here hexec rfl (hb hbytes d3) rfl rfl rfl ?_
    refine XS.aloadN X3.here hexec rfl (hb hbytes d4) rfl rfl ?_
    refine XS.iloadN X3.here hexec rfl (hb hbytes d5) rfl ?_
    refine XS.aloadN X3.here hexec rfl (hb hbytes d6) rfl rfl ?_
    refine iconstV X3.here hexec rfl 0 (hb hbytes d7) (by decide) ?_
    refine XS.iloadN X3.here hexec rfl (hb hbytes d8) rfl ?_
    exact Steps.refl _)
  obtain ⟨v6, T6, X6, E6, g6⟩ := X3.callS hexec (Cmp5.law l b A s.heap.size B3 o 0 len) hown (wks W (staticW U16 115 Cmp5.yN)) (wk W Cmp5.tab) (W := 0) (Nat.le_of_ble_eq_true rfl) (Nat.le_of_ble_eq_true rfl) (Nat.le_refl _) (by show 0 + len + 0 ≤ len; omega) (g := (mkF m 9 #[.val (.ref b), .val (.int (Int32.ofNat o)), .val (.int (Int32.ofNat len)), .val (.ref s.heap.size), .unset, .unset] [.int (Int32.ofNat len), .int (Int32.ofNat 0), .ref s.heap.size, .int (Int32.ofNat o), .ref b])) rfl (by rw [hml]; rfl) c5 (argsL := [.ref b, .int (Int32.ofNat o), .ref s.heap.size, .int (Int32.ofNat 0), .int (Int32.ofNat len)]) (rest := []) rfl rfl (by show 2 * 0 + 0 ≤ _; decide) (hb hbytes d9) (⟨rfl, hA3, ba3, hne, l1, by rw [bs3]; simp, hp⟩)
  obtain ⟨rfl, B6, p6, f6⟩ := E6
  have c7 : Steps p.tables e below (s₁.setTop (entryFrame m #[.ref b, .int (Int32.ofNat o), .int (Int32.ofNat len)] 6)) (T6.setTop (mkF m 12 #[.val (.ref b), .val (.int (Int32.ofNat o)), .val (.int (Int32.ofNat len)), .val (.ref s.heap.size), .unset, .unset] [.int (Int32.ofNat len)])) := g6
  have c8 : Steps p.tables e below (s₁.setTop (entryFrame m #[.ref b, .int (Int32.ofNat o), .int (Int32.ofNat len)] 6)) (T6.setTop (mkF m 58 #[.val (.ref b), .val (.int (Int32.ofNat o)), .val (.int (Int32.ofNat len)), .val (.ref s.heap.size), .val (.int (Int32.ofNat len)), .unset] [.ref s.heap.size])) := c7.trans (by
    refine XS.istore X6.here hexec rfl (hb hbytes d12) rfl rfl ?_
    refine XS.iload X6.here hexec rfl (hb hbytes d14) rfl ?_
    refine XS.iloadN X6.here hexec rfl (hb hbytes d16) rfl ?_
    refine XS.icmpYes X6.here hexec rfl (pc0 := 17) rfl (hb hbytes d17) rfl (ii_eq_t rfl) (by decide) rfl ?_
    refine XS.aloadN X6.here hexec rfl (hb hbytes d57) rfl rfl ?_
    exact Steps.refl _)
  have X8 := X6.wide (L' := []) (cells' := 1) (slots' := len) (fun x hx hlt => by
    simp only [List.nil_append, copyLocs, List.mem_map, List.mem_range] at hx
    obtain ⟨i, -, rfl⟩ := hx
    exact absurd hlt (Nat.lt_irrefl _)) (Nat.le_refl _) (by omega)
  exact ⟨T6, some (.ref s.heap.size), _, _, _, X8, rfl, rfl, rfl, (fun h => by cases h), ⟨⟨rfl, B6, ba3.like (X3.warmed.alike.symm.trans X6.warmed.alike) p6.1 f6.1 f6.2.1 f6.2.2.1, f6.2.1.trans bv3, by rw [X6.warmed.alike.findClass, f6.1]; exact bf3, by rw [f6.2.2.1, bs3]; simp, fun j hj => by rw [f6.2.2.2 j, if_pos (by omega)]; rfl, kp3.put p6 (Nat.le_refl _)⟩, by rw [p6.2.2, bh3, hh0]; simp⟩, fun fs hl => c8.trans (X8.areturnOut hexec rfl hret rfl (hb hbytes d58) hl)⟩
end Cmp3
namespace CodL
def yN : MethodName := ⟨"java/lang/StringUTF16", "coderFromArrayLen", "([BI)B"⟩
abbrev yB : ByteArray := jdk_52_method_15_code
theorem d0 : decode yB 0 = .ok (.iload_n 1, 1) := by decide +kernel
theorem d1 : decode yB 1 = .ok (.aload_n 0, 1) := by decide +kernel
theorem d2 : decode yB 2 = .ok (.arraylength, 1) := by decide +kernel
theorem d3 : decode yB 3 = .ok (.isub, 1) := by decide +kernel
theorem d4 : decode yB 4 = .ok (.bipush 31, 2) := by decide +kernel
theorem d6 : decode yB 6 = .ok (.iushr, 1) := by decide +kernel
theorem d7 : decode yB 7 = .ok (.i2b, 1) := by decide +kernel
theorem d8 : decode yB 8 = .ok (.ireturn, 1) := by decide +kernel
def site : List Cond := []
def tab : Cond := tabOf yN yB 2 (some .byte) site
def P (d : Addr) (B : Cell) (args : Array Value) (s : State) : Prop := args = #[.ref d, .int (Int32.ofNat B.slots.size)] ∧ Arr .byte d B s
def E (r : Option Value) (s u : State) : Prop := XT.PureE (some (.int 0)) r s u
/-- an array as long as the number of chars: LATIN1 -/
theorem law (l : Launch) (d : Addr) (B : Cell) : Law l yN 2 2 0 0 yB 2 (some .byte) site (P d B) E [] 0 0 := by
  refine Law.of_walk (plainFor_of_name (by decide +kernel)) (by decide +kernel) (by decide +kernel) (by decide) (fun _ _ h => by rw [h.1]; rfl) (fun _ U U' hal hh h => ⟨h.1, h.2.mv hal hh⟩) (fun r U U' V V' h1 hal h2 h => XT.PureE.mv r U U' V V' h1 hal h2 h) ?_
  intro p e s m args below meth c s₁ X0 hexec hbytes hml hret hlk hnm hown hh0 W hP
  obtain ⟨rfl, hB⟩ := hP
  have hB0 := hB.mv X0.warmed.alike hh0
  have c1 : Steps p.tables e below (s₁.setTop (entryFrame m #[.ref d, .int (Int32.ofNat B.slots.size)] 2)) (s₁.setTop (mkF m 0 #[.val (.ref d), .val (.int (Int32.ofNat B.slots.size))] [])) := entry rfl
  have c2 : Steps p.tables e below (s₁.setTop (entryFrame m #[.ref d, .int (Int32.ofNat B.slots.size)] 2)) (s₁.setTop (mkF m 2 #[.val (.ref d), .val (.int (Int32.ofNat B.slots.size))] [.ref d, .int (Int32.ofNat B.slots.size)])) := c1.trans (by
    refine XS.iloadN X0.here hexec rfl (hb hbytes d0) rfl ?_
    refine XS.aloadN X0.here hexec rfl (hb hbytes d1) rfl rfl ?_
    exact Steps.refl _)
  have c3 : Steps p.tables e below (s₁.setTop (entryFrame m #[.ref d, .int (Int32.ofNat B.slots.size)] 2)) (s₁.setTop (mkF m 8 #[.val (.ref d), .val (.int (Int32.ofNat B.slots.size))] [.int (lo8 (ushr (Int32.ofNat B.slots.size - Int32.ofNat B.slots.size) 31))])) := c2.trans (by
    refine X0.alen hexec hB0 rfl rfl (hb hbytes d2) ?_
    refine XS.isub X0.here hexec rfl (hb hbytes d3) rfl ?_
    refine bipushV X0.here hexec rfl 31 (hb hbytes d4) (by decide) ?_
    refine iushr X0.here hexec rfl (hb hbytes d6) rfl ?_
    refine i2b X0.here hexec rfl (hb hbytes d7) rfl ?_
    exact Steps.refl _)
  have e0 : lo8 (ushr (Int32.ofNat B.slots.size - Int32.ofNat B.slots.size) 31) = 0 := by rw [Int32.sub_self]; decide
  rw [e0] at c3
  exact ⟨s₁, some (.int 0), _, _, _, X0, rfl, rfl, rfl, (fun h => by cases h), ⟨rfl, hh0⟩, fun fs hl => c3.trans (X0.ireturnOut hexec hret rfl (Or.inr (Or.inr (Or.inl rfl))) (hb hbytes d8) hl)⟩
end CodL
/-- the String at a is Latin-1 over a new byte[] (the heap's one new cell): the low bytes of the len chars of A from o on; every cell but a is kept -/
def Got (a : Addr) (D : Cell) (fV fC : Field) (A : Cell) (o len : Nat) (r : Option Value) (s u : State) : Prop := r = none ∧ ∃ D' V : Cell, Blank "java/lang/String" a D' u ∧ Same D D' [fV.slot, fC.slot] ∧ D'.slots[fV.slot]? = some (.ref s.heap.size) ∧ D'.slots[fC.slot]? = some (.int 0) ∧ Arr .byte s.heap.size V u ∧ V.vm = .none ∧ u.vm.findClass "[B" = some V.cls ∧ V.slots.size = len ∧ (∀ j, j < len → V.slots[j]? = some (.int (lo8 (cv A (o + j))))) ∧ (∀ (y : Addr) (c : Cell), y ≠ a → s.heap[y]? = some c → u.heap[y]? = some c) ∧ u.heap.size = s.heap.size + 1
theorem Got.mv {a : Addr} {D A : Cell} {fV fC : Field} {o len : Nat} : ∀ r (U U' V V' : State), U'.heap = U.heap → V.vm.Alike V'.vm → V'.heap = V.heap → Got a D fV fC A o len r U V → Got a D fV fC A o len r U' V' :=
  fun r U U' V V' h1 hal h2 ⟨e0, D', X, a1, a2, a3, a4, a5, a6, a7, a8, a9, a10, a11⟩ => ⟨e0, D', X, a1.mv hal h2, a2, by rw [h1]; exact a3, a4, by rw [h1]; exact a5.mv hal h2, a6, by rw [hal.findClass]; exact a7, a8, a9, by rw [h1, h2]; exact a10, by rw [h1, h2]; exact a11⟩
namespace New4
def yN : MethodName := ⟨"java/lang/String", "<init>", "([CIILjava/lang/Void;)V"⟩
abbrev yB : ByteArray := jdk_42_method_149_code
theorem d0 : decode yB 0 = .ok (.aload_n 0, 1) := by decide +kernel
theorem d1 : decode yB 1 = .ok (.invokespecial 1, 3) := by decide +kernel
theorem d4 : decode yB 4 = .ok (.iload_n 3, 1) := by decide +kernel
theorem d5 : decode yB 5 = .ok (.ifCond (.ne) 22, 3) := by decide +kernel
theorem d27 : decode yB 27 = .ok (.getstatic 38, 3) := by decide +kernel
theorem d30 : decode yB 30 = .ok (.ifCond (.eq) 28, 3) := by decide +kernel
theorem d33 : decode yB 33 = .ok (.aload_n 1, 1) := by decide +kernel
theorem d34 : decode yB 34 = .ok (.iload_n 2, 1) := by decide +kernel
theorem d35 : decode yB 35 = .ok (.iload_n 3, 1) := by decide +kernel
theorem d36 : decode yB 36 = .ok (.invokestatic 177, 3) := by decide +kernel
theorem d39 : decode yB 39 = .ok (.astore 5, 2) := by decide +kernel
theorem d41 : decode yB 41 = .ok (.aload_n 0, 1) := by decide +kernel
theorem d42 : decode yB 42 = .ok (.aload 5, 2) := by decide +kernel
theorem d44 : decode yB 44 = .ok (.iload_n 3, 1) := by decide +kernel
theorem d45 : decode yB 45 = .ok (.invokestatic 47, 3) := by decide +kernel
theorem d48 : decode yB 48 = .ok (.putfield 15, 3) := by decide +kernel
theorem d51 : decode yB 51 = .ok (.aload_n 0, 1) := by decide +kernel
theorem d52 : decode yB 52 = .ok (.aload 5, 2) := by decide +kernel
theorem d54 : decode yB 54 = .ok (.putfield 9, 3) := by decide +kernel
theorem d57 : decode yB 57 = .ok (.return_, 1) := by decide +kernel
def site : List Cond := [.fieldLink "java/lang/String" 38 "java/lang/String" "COMPACT_STRINGS" "Z", Cmp3.tab, CodL.tab, .laysFinal "java/lang/String" "java/lang/String" "value" "[B", .fieldLink "java/lang/String" 9 "java/lang/String" "value" "[B", .laysFinal "java/lang/String" "java/lang/String" "coder" "B", .fieldLink "java/lang/String" 15 "java/lang/String" "coder" "B"] ++ objW "java/lang/String" 1 ++ staticW "java/lang/String" 177 Cmp3.yN ++ staticW "java/lang/String" 47 CodL.yN
def tab : Cond := tabOf yN yB 6 none site
def P (a : Addr) (D : Cell) (fV fC : Field) (b : Addr) (A : Cell) (z : Int32) (o len : Nat) (args : Array Value) (s : State) : Prop := args = #[.ref a, .ref b, .int (Int32.ofNat o), .int (Int32.ofNat len), .null] ∧ Blank "java/lang/String" a D s ∧ Found "java/lang/String" "value" "[B" fV s ∧ Found "java/lang/String" "coder" "B" fC s ∧ Ch b A s ∧ StaticIs s "java/lang/String" "COMPACT_STRINGS" "Z" (.int z) ∧ ¬ z = 0 ∧ 0 < len ∧ o + len ≤ A.slots.size ∧ len ≤ 536870912 ∧ ∀ i, i < len → ¬ 255 < cv A (o + i)
def E (a : Addr) (D : Cell) (fV fC : Field) (A : Cell) (o len : Nat) (r : Option Value) (s u : State) : Prop := Got a D fV fC A o len r s u
/-- len > 0, no char of the range above 255: a Latin-1 String of their low bytes -/
theorem law (l : Launch) (a : Addr) (D : Cell) (fV fC : Field) (b : Addr) (A : Cell) (z : Int32) (o len : Nat) : Law l yN 5 4 2 35 yB 6 none site (P a D fV fC b A z o len) (E a D fV fC A o len) [⟨a, fC.slot⟩, ⟨a, fV.slot⟩] 1 len := by
  refine Law.of_walk (plainFor_of_name (by decide +kernel)) (by decide +kernel) (by decide +kernel) (by decide) (fun _ _ h => by rw [h.1]; rfl) (fun _ U U' hal hh h => ⟨h.1, h.2.1.mv hal hh, h.2.2.1.al hal, h.2.2.2.1.al hal, h.2.2.2.2.1.mv hal hh, h.2.2.2.2.2.1.there hal hh, h.2.2.2.2.2.2⟩) (fun r U U' V V' h1 hal h2 h => Got.mv r U U' V V' h1 hal h2 h) ?_
  intro p e s m args below meth c s₁ X0 hexec hbytes hml hret hlk hnm hown hh0 W hP
  obtain ⟨rfl, hB, f1, f2, hA, s1, hz, l0, l1, l2, hp⟩ := hP
  have a31 := hA.1.2.2.2
  have c1 : Steps p.tables e below (s₁.setTop (entryFrame m #[.ref a, .ref b, .int (Int32.ofNat o), .int (Int32.ofNat len), .null] 6)) (s₁.setTop (mkF m 0 #[.val (.ref a), .val (.ref b), .val (.int (Int32.ofNat o)), .val (.int (Int32.ofNat len)), .val .null, .unset] [])) := entry rfl
  have c2 : Steps p.tables e below (s₁.setTop (entryFrame m #[.ref a, .ref b, .int (Int32.ofNat o), .int (Int32.ofNat len), .null] 6)) (s₁.setTop (mkF m 1 #[.val (.ref a), .val (.ref b), .val (.int (Int32.ofNat o)), .val (.int (Int32.ofNat len)), .val .null, .unset] [.ref a])) := c1.trans (by
    refine XS.aloadN X0.here hexec rfl (hb hbytes d0) rfl rfl ?_
    exact Steps.refl _)
  obtain ⟨T3, X3, q3, st3⟩ := X0.oinit hexec hown (wks W (objW "java/lang/String" 1)) (g := (mkF m 1 #[.val (.ref a), .val (.ref b), .val (.int (Int32.ofNat o)), .val (.int (Int32.ofNat len)), .val .null, .unset] [.ref a])) rfl (by rw [hml]; rfl) (rest := []) rfl (hb hbytes d1) (W := 0) (by show 2 * 0 + 0 ≤ _; decide) (Nat.le_of_ble_eq_true rfl) (Nat.le_of_ble_eq_true rfl)
  have hh3 := q3.trans hh0
  have c4 : Steps p.tables e below (s₁.setTop (entryFrame m #[.ref a, .ref b, .int (Int32.ofNat o), .int (Int32.ofNat len), .null] 6)) (T3.setTop (mkF m 27 #[.val (.ref a), .val (.ref b), .val (.int (Int32.ofNat o)), .val (.int (Int32.ofNat len)), .val .null, .unset] [])) := (c2.trans (st3 _ (Steps.refl _))).trans (by
    refine XS.iloadN X3.here hexec rfl (hb hbytes d4) rfl ?_
    refine XS.ifYes X3.here hexec rfl (pc0 := 5) rfl (hb hbytes d5) rfl (i0_ne_t (nz32 (by omega) l0)) (by decide) rfl ?_
    exact Steps.refl _)
  obtain ⟨T5, X5, q5, st5⟩ := X3.sget hexec hown (wk W (.fieldLink "java/lang/String" 38 "java/lang/String" "COMPACT_STRINGS" "Z")) s1 (fun _ _ h => by rw [hh3]; exact h) (g := (mkF m 27 #[.val (.ref a), .val (.ref b), .val (.int (Int32.ofNat o)), .val (.int (Int32.ofNat len)), .val .null, .unset] [])) rfl (hb hbytes d27)
  have hh5 := q5.trans hh3
  have c6 : Steps p.tables e below (s₁.setTop (entryFrame m #[.ref a, .ref b, .int (Int32.ofNat o), .int (Int32.ofNat len), .null] 6)) (T5.setTop (mkF m 30 #[.val (.ref a), .val (.ref b), .val (.int (Int32.ofNat o)), .val (.int (Int32.ofNat len)), .val .null, .unset] [.int z])) := c4.trans (st5 _ (Steps.refl _))
  have c7 : Steps p.tables e below (s₁.setTop (entryFrame m #[.ref a, .ref b, .int (Int32.ofNat o), .int (Int32.ofNat len), .null] 6)) (T5.setTop (mkF m 36 #[.val (.ref a), .val (.ref b), .val (.int (Int32.ofNat o)), .val (.int (Int32.ofNat len)), .val .null, .unset] [.int (Int32.ofNat len), .int (Int32.ofNat o), .ref b])) := c6.trans (by
    refine XS.ifNo X5.here hexec rfl (hb hbytes d30) rfl (i0_eq_f hz) ?_
    refine XS.aloadN X5.here hexec rfl (hb hbytes d33) rfl rfl ?_
    refine XS.iloadN X5.here hexec rfl (hb hbytes d34) rfl ?_
    refine XS.iloadN X5.here hexec rfl (hb hbytes d35) rfl ?_
    exact Steps.refl _)
  obtain ⟨v8, T8, X8, E8, g8⟩ := X5.callS hexec (Cmp3.law l b A o len) hown (wks W (staticW "java/lang/String" 177 Cmp3.yN)) (wk W Cmp3.tab) (W := 0) (Nat.le_of_ble_eq_true rfl) (Nat.le_of_ble_eq_true rfl) (Nat.le_refl _) (by show 0 + len ≤ len; omega) (g := (mkF m 36 #[.val (.ref a), .val (.ref b), .val (.int (Int32.ofNat o)), .val (.int (Int32.ofNat len)), .val .null, .unset] [.int (Int32.ofNat len), .int (Int32.ofNat o), .ref b])) rfl (by rw [hml]; rfl) c7 (argsL := [.ref b, .int (Int32.ofNat o), .int (Int32.ofNat len)]) (rest := []) rfl rfl (by show 2 * 0 + 0 ≤ _; decide) (hb hbytes d36) (⟨rfl, hA.mv X5.warmed.alike hh5, l1, l2, hp⟩)
  obtain ⟨e8, z8⟩ := E8
  obtain ⟨rfl, N, n1, n2, n3, n4, n5, n6⟩ := NewArr.mv _ T5 s _ _ hh5.symm (Vm.Alike.refl _) rfl e8
  rw [hh5] at z8
  have hB1 := hB.keep X8.warmed.alike (n6 _ _ hB.1)
  have hne : s.heap.size ≠ a := (Nat.ne_of_lt (Array.getElem?_eq_some_iff.mp hB.1).1).symm
  have c9 : Steps p.tables e below (s₁.setTop (entryFrame m #[.ref a, .ref b, .int (Int32.ofNat o), .int (Int32.ofNat len), .null] 6)) (T8.setTop (mkF m 39 #[.val (.ref a), .val (.ref b), .val (.int (Int32.ofNat o)), .val (.int (Int32.ofNat len)), .val .null, .unset] [.ref s.heap.size])) := g8
  have c10 : Steps p.tables e below (s₁.setTop (entryFrame m #[.ref a, .ref b, .int (Int32.ofNat o), .int (Int32.ofNat len), .null] 6)) (T8.setTop (mkF m 45 #[.val (.ref a), .val (.ref b), .val (.int (Int32.ofNat o)), .val (.int (Int32.ofNat len)), .val .null, .val (.ref s.heap.size)] [.int (Int32.ofNat N.slots.size), .ref s.heap.size, .ref a])) := by
    have hc : Steps p.tables e below (s₁.setTop (entryFrame m #[.ref a, .ref b, .int (Int32.ofNat o), .int (Int32.ofNat len), .null] 6)) (T8.setTop (mkF m 45 #[.val (.ref a), .val (.ref b), .val (.int (Int32.ofNat o)), .val (.int (Int32.ofNat len)), .val .null, .val (.ref s.heap.size)] [.int (Int32.ofNat len), .ref s.heap.size, .ref a])) := c9.trans (by
      refine XS.astore X8.here hexec rfl (hb hbytes d39) rfl rfl rfl ?_
      refine XS.aloadN X8.here hexec rfl (hb hbytes d41) rfl rfl ?_
      refine XS.aload X8.here hexec rfl (hb hbytes d42) rfl rfl ?_
      refine XS.iloadN X8.here hexec rfl (hb hbytes d44) rfl ?_
      exact Steps.refl _)
    rw [n4]; exact hc
  obtain ⟨v11, T11, X11, E11, g11⟩ := X8.callS hexec (CodL.law l s.heap.size N) hown (wks W (staticW "java/lang/String" 47 CodL.yN)) (wk W CodL.tab) (W := 1) (Nat.le_of_ble_eq_true rfl) (Nat.le_of_ble_eq_true rfl) (Nat.le_refl _) (by show 0 + len + 0 ≤ len; omega) (g := (mkF m 45 #[.val (.ref a), .val (.ref b), .val (.int (Int32.ofNat o)), .val (.int (Int32.ofNat len)), .val .null, .val (.ref s.heap.size)] [.int (Int32.ofNat N.slots.size), .ref s.heap.size, .ref a])) rfl (by rw [hml]; rfl) c10 (argsL := [.ref s.heap.size, .int (Int32.ofNat N.slots.size)]) (rest := [.ref a]) rfl rfl (by show 2 * 0 + (1 + 0) ≤ _; decide) (hb hbytes d45) (⟨rfl, n1⟩)
  obtain ⟨rfl, q11⟩ := E11
  have hB11 := hB1.mv (X8.warmed.alike.symm.trans X11.warmed.alike) q11
  have c12 : Steps p.tables e below (s₁.setTop (entryFrame m #[.ref a, .ref b, .int (Int32.ofNat o), .int (Int32.ofNat len), .null] 6)) (T11.setTop (mkF m 48 #[.val (.ref a), .val (.ref b), .val (.int (Int32.ofNat o)), .val (.int (Int32.ofNat len)), .val .null, .val (.ref s.heap.size)] [.int 0, .ref a])) := g11
  obtain ⟨T13, X13, p13, bl13, sl13, st13⟩ := X11.finit hexec hown (wk W (.fieldLink "java/lang/String" 15 "java/lang/String" "coder" "B")) (Or.inr ⟨_, (wk W (.laysFinal "java/lang/String" "java/lang/String" "coder" "B"))⟩) (Or.inl ⟨rfl, hnm⟩) f2 (Or.inl rfl) hB11 (t := .byte) (by decide +kernel) rfl (g := (mkF m 48 #[.val (.ref a), .val (.ref b), .val (.int (Int32.ofNat o)), .val (.int (Int32.ofNat len)), .val .null, .val (.ref s.heap.size)] [.int 0, .ref a])) rfl (rest := []) rfl (hb hbytes d48)
  have c14 : Steps p.tables e below (s₁.setTop (entryFrame m #[.ref a, .ref b, .int (Int32.ofNat o), .int (Int32.ofNat len), .null] 6)) (T13.setTop (mkF m 54 #[.val (.ref a), .val (.ref b), .val (.int (Int32.ofNat o)), .val (.int (Int32.ofNat len)), .val .null, .val (.ref s.heap.size)] [.ref s.heap.size, .ref a])) := (c12.trans (st13 _ (Steps.refl _))).trans (by
    refine XS.aloadN X13.here hexec rfl (hb hbytes d51) rfl rfl ?_
    refine XS.aload X13.here hexec rfl (hb hbytes d52) rfl rfl ?_
    exact Steps.refl _)
  obtain ⟨T15, X15, p15, bl15, sl15, st15⟩ := X13.finit hexec hown (wk W (.fieldLink "java/lang/String" 9 "java/lang/String" "value" "[B")) (Or.inr ⟨_, (wk W (.laysFinal "java/lang/String" "java/lang/String" "value" "[B"))⟩) (Or.inl ⟨rfl, hnm⟩) f1 (Or.inl rfl) bl13 (t := (.array .byte)) (by decide +kernel) rfl (g := (mkF m 54 #[.val (.ref a), .val (.ref b), .val (.int (Int32.ofNat o)), .val (.int (Int32.ofNat len)), .val .null, .val (.ref s.heap.size)] [.ref s.heap.size, .ref a])) rfl (rest := []) rfl (hb hbytes d54)
  have c16 : Steps p.tables e below (s₁.setTop (entryFrame m #[.ref a, .ref b, .int (Int32.ofNat o), .int (Int32.ofNat len), .null] 6)) (T15.setTop (mkF m 57 #[.val (.ref a), .val (.ref b), .val (.int (Int32.ofNat o)), .val (.int (Int32.ofNat len)), .val .null, .val (.ref s.heap.size)] [])) := c14.trans (st15 _ (Steps.refl _))
  have ap := apart (Or.inr ⟨_, (wk W (.laysFinal "java/lang/String" "java/lang/String" "value" "[B"))⟩) (Or.inr ⟨_, (wk W (.laysFinal "java/lang/String" "java/lang/String" "coder" "B"))⟩) f1 f2 (t₁ := .array .byte) (t₂ := .byte) (by decide +kernel) (by decide +kernel) (by decide)
  have al := X8.warmed.alike.symm.trans X15.warmed.alike
  have n7 : T11.heap[s.heap.size]? = some N := by rw [q11]; exact n1.1
  exact ⟨T15, none, _, _, _, X15, by simp, rfl, by omega, (fun _ => rfl), ⟨rfl, _, N, bl15, ((Same.refl D _).set _ (by simp)).set _ (by simp), sl15, (Cell.slots_setSlot_ne _ ap).trans sl13, n1.keep al (p15.other hne (p13.other hne n7)), n2, by rw [al.findClass]; exact n3, n4, n5, fun y c h1 h2 => p15.other h1 (p13.other h1 (by rw [q11]; exact n6 y c h2)), by rw [p15.2.2, p13.2.2, q11]; exact z8⟩, fun fs hl => c16.trans (X15.returnOut hexec hret (hb hbytes d57) hl)⟩
end New4
namespace New1
def yN : MethodName := ⟨"java/lang/String", "<init>", "([C)V"⟩
abbrev yB : ByteArray := jdk_42_method_3_code
theorem d0 : decode yB 0 = .ok (.aload_n 0, 1) := by decide +kernel
theorem d1 : decode yB 1 = .ok (.aload_n 1, 1) := by decide +kernel
theorem d2 : decode yB 2 = .ok (.iconst 0, 1) := by decide +kernel
theorem d3 : decode yB 3 = .ok (.aload_n 1, 1) := by decide +kernel
theorem d4 : decode yB 4 = .ok (.arraylength, 1) := by decide +kernel
theorem d5 : decode yB 5 = .ok (.aconst_null, 1) := by decide +kernel
theorem d6 : decode yB 6 = .ok (.invokespecial 27, 3) := by decide +kernel
theorem d9 : decode yB 9 = .ok (.return_, 1) := by decide +kernel
def site : List Cond := [New4.tab] ++ initW "java/lang/String" 27 New4.yN
def tab : Cond := tabOf yN yB 2 none site
def P (a : Addr) (D : Cell) (fV fC : Field) (b : Addr) (A : Cell) (z : Int32) (args : Array Value) (s : State) : Prop := args = #[.ref a, .ref b] ∧ Blank "java/lang/String" a D s ∧ Found "java/lang/String" "value" "[B" fV s ∧ Found "java/lang/String" "coder" "B" fC s ∧ Ch b A s ∧ StaticIs s "java/lang/String" "COMPACT_STRINGS" "Z" (.int z) ∧ ¬ z = 0 ∧ 0 < A.slots.size ∧ A.slots.size ≤ 536870912 ∧ ∀ i, i < A.slots.size → ¬ 255 < cv A i
def E (a : Addr) (D : Cell) (fV fC : Field) (A : Cell) (r : Option Value) (s u : State) : Prop := Got a D fV fC A 0 A.slots.size r s u
/-- new String(chars), not empty, no char above 255: a Latin-1 String of their low bytes -/
theorem law (l : Launch) (a : Addr) (D : Cell) (fV fC : Field) (b : Addr) (A : Cell) (z : Int32) : Law l yN 2 1 3 52 yB 2 none site (P a D fV fC b A z) (E a D fV fC A) [⟨a, fC.slot⟩, ⟨a, fV.slot⟩] 1 A.slots.size := by
  refine Law.of_walk (plainFor_of_name (by decide +kernel)) (by decide +kernel) (by decide +kernel) (by decide) (fun _ _ h => by rw [h.1]; rfl) (fun _ U U' hal hh h => ⟨h.1, h.2.1.mv hal hh, h.2.2.1.al hal, h.2.2.2.1.al hal, h.2.2.2.2.1.mv hal hh, h.2.2.2.2.2.1.there hal hh, h.2.2.2.2.2.2⟩) (fun r U U' V V' h1 hal h2 h => Got.mv r U U' V V' h1 hal h2 h) ?_
  intro p e s m args below meth c s₁ X0 hexec hbytes hml hret hlk hnm hown hh0 W hP
  obtain ⟨rfl, hB, f1, f2, hA, s1, hz, l0, l2, hp⟩ := hP
  have c1 : Steps p.tables e below (s₁.setTop (entryFrame m #[.ref a, .ref b] 2)) (s₁.setTop (mkF m 0 #[.val (.ref a), .val (.ref b)] [])) := entry rfl
  have c2 : Steps p.tables e below (s₁.setTop (entryFrame m #[.ref a, .ref b] 2)) (s₁.setTop (mkF m 6 #[.val (.ref a), .val (.ref b)] [.null, .int (Int32.ofNat A.slots.size), .int 0, .ref b, .ref a])) := c1.trans (by
    refine XS.aloadN X0.here hexec rfl (hb hbytes d0) rfl rfl ?_
    refine XS.aloadN X0.here hexec rfl (hb hbytes d1) rfl rfl ?_
    refine iconstV X0.here hexec rfl 0 (hb hbytes d2) (by decide) ?_
    refine XS.aloadN X0.here hexec rfl (hb hbytes d3) rfl rfl ?_
    refine X0.alen hexec (hA.1.mv X0.warmed.alike hh0) rfl rfl (hb hbytes d4) ?_
    refine XS.aconstNull X0.here hexec rfl (hb hbytes d5) ?_
    exact Steps.refl _)
  obtain ⟨v3, T3, X3, E3, g3⟩ := X0.callN hexec (New4.law l a D fV fC b A z 0 A.slots.size) rfl hown (wks W (initW "java/lang/String" 27 New4.yN)) (W New4.tab (by simp only [site, List.mem_cons, List.mem_append, true_or, or_true])) (W := 0) (Nat.le_of_ble_eq_true rfl) (Nat.le_of_ble_eq_true rfl) (Nat.le_refl _) (by show 0 + A.slots.size ≤ A.slots.size; omega) (g := (mkF m 6 #[.val (.ref a), .val (.ref b)] [.null, .int (Int32.ofNat A.slots.size), .int (Int32.ofNat 0), .ref b, .ref a])) rfl (by rw [hml]; rfl) c2 (argsL := [.ref b, .int (Int32.ofNat 0), .int (Int32.ofNat A.slots.size), .null]) (rest := []) rfl rfl (by show 2 * 0 + 0 ≤ _; decide) (hb hbytes d6) (⟨rfl, hB.mv X0.warmed.alike hh0, f1.al X0.warmed.alike, f2.al X0.warmed.alike, hA.mv X0.warmed.alike hh0, s1.there X0.warmed.alike hh0, hz, l0, by omega, l2, fun i hi => by rw [Nat.zero_add]; exact hp i hi⟩)
  have e0 := Got.mv _ s₁ s _ _ hh0.symm (Vm.Alike.refl _) rfl E3
  obtain rfl := e0.1
  have c4 : Steps p.tables e below (s₁.setTop (entryFrame m #[.ref a, .ref b] 2)) (T3.setTop (mkF m 9 #[.val (.ref a), .val (.ref b)] [])) := g3
  exact ⟨T3, none, _, _, _, X3, by simp, rfl, by omega, (fun _ => rfl), e0, fun fs hl => c4.trans (X3.returnOut hexec hret (hb hbytes d9) hl)⟩
theorem pays {l : Launch} {R : Room} {p : Program} {e : Env} {below : List Frame} {s : State} {sargs : Array Value} {len W : Nat} (a : Addr) (D : Cell) (fV fC : Field) (b : Addr) (A : Cell) (z : Int32) (htab : tab.before sargs s = true) (hfr : 4 ≤ R.frames) (hlo : W + 65 ≤ R.locals) :
    Back l R p e below s sargs yN len W (fun A₁ a₁ => A₁.cells + 1 ≤ R.cells ∧ A₁.slots + A.slots.size ≤ R.slots ∧ P a D fV fC b A z a₁ A₁.U) (fun A₁ _ v₁ B₁ => E a D fV fC A v₁ A₁.U B₁.U ∧ B₁.locs = A₁.locs ++ [⟨a, fC.slot⟩, ⟨a, fV.slot⟩] ∧ B₁.cells = A₁.cells + 1 ∧ B₁.slots = A₁.slots + A.slots.size) :=
  (law l a D fV fC b A z).pays htab hfr (by omega)
end New1
end StrChars
namespace StrChars.Road
open Jvm Sem ClassFile Op Lib Jvm.Stand Jvm.Free Jvm.Free.XT
open Jvm.Lib.Cold (StaticIs)
abbrev ST : String := "java/lang/String"
/-- every table word that New1's law asks, flat -/
abbrev words : List Jvm.Cond := [.code New1.yN New1.yB 2 none, .initialized ST, .methodLink ST 27 New4.yN, .instanceMethod New4.yN,
  .code New4.yN New4.yB 6 none, .fieldLink ST 38 ST "COMPACT_STRINGS" "Z", .laysFinal ST ST "value" "[B", .fieldLink ST 9 ST "value" "[B", .laysFinal ST ST "coder" "B", .fieldLink ST 15 ST "coder" "B",
  .methodLink ST 1 Lib.objectInit, .instanceMethod Lib.objectInit, .code Lib.objectInit ⟨#[0xb1]⟩ 1 none, .methodLink ST 177 Cmp3.yN, .static Cmp3.yN, .methodLink ST 47 CodL.yN, .static CodL.yN,
  .code Cmp3.yN Cmp3.yB 6 (some (.array .byte)), .initialized U16, .arrayClass .byte, .methodLink U16 115 Cmp5.yN, .static Cmp5.yN, .code Cmp5.yN Cmp5.yB 7 (some .int), .code CodL.yN CodL.yB 2 (some .byte)]
theorem tab_of {a : Array Value} {s : State} (h : ∀ w ∈ words, w.before a s = true) : New1.tab.before a s = true := by
  have h5 : Cmp5.tab.before a s = true := unparts (wk h (.code Cmp5.yN Cmp5.yB 7 (some .int))) (wks h (.initialized Cmp5.yN.cls :: Cmp5.site))
  have hc : CodL.tab.before a s = true := unparts (wk h (.code CodL.yN CodL.yB 2 (some .byte))) (wks h (.initialized CodL.yN.cls :: CodL.site))
  have q5 : ∀ w ∈ Cmp5.tab :: words, w.before a s = true := fun w hw => (List.mem_cons.mp hw).elim (fun e => e ▸ h5) (h w)
  have h3 : Cmp3.tab.before a s = true := unparts (wk q5 (.code Cmp3.yN Cmp3.yB 6 (some (.array .byte)))) (wks q5 (.initialized Cmp3.yN.cls :: Cmp3.site))
  have q3 : ∀ w ∈ Cmp3.tab :: CodL.tab :: words, w.before a s = true := fun w hw => (List.mem_cons.mp hw).elim (fun e => e ▸ h3) fun hw => (List.mem_cons.mp hw).elim (fun e => e ▸ hc) (h w)
  have h4 : New4.tab.before a s = true := unparts (wk q3 (.code New4.yN New4.yB 6 none)) (wks q3 (.initialized New4.yN.cls :: New4.site))
  have q4 : ∀ w ∈ New4.tab :: words, w.before a s = true := fun w hw => (List.mem_cons.mp hw).elim (fun e => e ▸ h4) (h w)
  exact unparts (wk q4 (.code New1.yN New1.yB 2 none)) (wks q4 (.initialized New1.yN.cls :: New1.site))
/-- the words ride from the start Z to the walk's own state -/
theorem moved {Z s : State} {a0 args : Array Value} (hZ : Z.Warmed39 s.vm) (hw : ∀ d ∈ words, d.before a0 Z = true) : ∀ d ∈ words, d.before args s = true := fun d hd => by
  have q := hw d hd
  have t : ∀ d ∈ words, d = .arrayClass .byte ∨ (d.onTables && d.keepsFace) = true := by decide +kernel
  rcases t d hd with rfl | t
  · exact RoadKit.mvA hZ q
  · exact RoadKit.mv hZ q t
/-- WHAT COMES BACK, over the tables of the start Z: h the heap at the call, h' behind it -/
def Q (Z : State) (x : Addr) (A : Cell) (h : Heap) (v : Option Value) (h' : Heap) (L : List Loc) : Prop := v = none ∧ (∀ y ∈ L, y.base = x) ∧ RoadKit.Keep h h' [x] ∧ h'.size = h.size + 1 ∧ RoadKit.Exa Z h' x ST ∧ RoadKit.Fld Z h' x ST "value" "[B" (.ref h.size) ∧ RoadKit.Fld Z h' x ST "coder" "B" (.int 0) ∧
  (∃ V : Cell, RoadKit.Arr Z h' h.size V .byte ∧ V.vm = .none ∧ Z.vm.findClass "[B" = some V.cls ∧ V.slots.size = A.slots.size ∧ ∀ j, j < A.slots.size → V.slots[j]? = some (.int (lo8 (cv A j)))) ∧
  ∀ (O n d : String) (w : Value), RoadKit.Fld Z h x O n d w → RoadKit.slotOf Z O n d ≠ RoadKit.slotOf Z ST "value" "[B" → RoadKit.slotOf Z O n d ≠ RoadKit.slotOf Z ST "coder" "B" → RoadKit.Fld Z h' x O n d w
/-- **new String(chars) AT A CALL, IN THE ROAD'S FORM**: for specialBack behind newO: x the fresh String, b the char[] with the cell A -/
theorem back {p : Program} {l : Launch} {e : Env} {R : Room} {s : State} {args : Array Value} {below : List Frame} {len W : Nat} {Z : State} {a0 : Array Value} {h : Heap} (hZ : Z.Warmed39 s.vm) (hw : ∀ d ∈ words, d.before a0 Z = true) {kI : Nat} (wi : (Jvm.Cond.instantiable ST kI).before a0 Z = true)
    {x b : Addr} {A : Cell} {z : Int32} {v0 c0 : Value} (E : RoadKit.Exa Z h x ST) (V : RoadKit.Fld Z h x ST "value" "[B" v0) (C : RoadKit.Fld Z h x ST "coder" "B" c0) (K : RoadKit.Arr Z h b A .char) (hty : Typed .char A) (S : RoadKit.Sta Z h ST "COMPACT_STRINGS" "Z" (.int z)) (hz : ¬ z = 0)
    (l0 : 0 < A.slots.size) (l2 : A.slots.size ≤ 536870912) (hp : ∀ i, i < A.slots.size → ¬ 255 < cv A i) (hfr : 4 ≤ R.frames) (hlo : W + 65 ≤ R.locals) :
    Back l R p e below s args New1.yN len W (fun P a => a = #[.ref x, .ref b] ∧ P.U.heap = h ∧ P.cells + 1 ≤ R.cells ∧ P.slots + A.slots.size ≤ R.slots)
      (fun P _ v B => ∃ L, Q Z x A h v B.U.heap L ∧ B.locs = P.locs ++ L ∧ B.cells = P.cells + 1 ∧ B.slots = P.slots + A.slots.size) := by
  intro m meth c P g ig mk a X hg hsize hdg hW hn hp'
  obtain ⟨rfl, rfl, r1, r2⟩ := hp'
  have al : Z.vm.Alike P.U.vm := hZ.alike.trans X.warmed.alike
  obtain ⟨D, cfV, kV, iV, fV, hD, gV, stV, knV, obV, asV, slV⟩ := id V
  obtain ⟨D', cfC, kC, iC, fC, hD', gC, stC, -, -, asC, slC⟩ := id C
  cases hD.symm.trans hD'
  obtain ⟨D2, kD, e1, e2, e3, e4, e5⟩ := id E
  cases hD.symm.trans e1
  obtain ⟨c2, k2, i1, i2, i3, -⟩ := Cond.instantiable_spec wi
  cases e2.symm.trans i1
  cases e3.symm.trans i2
  obtain ⟨kU, u1, u2⟩ := al.2.2 _ _ e3
  have hB : Blank ST x D P.U := ⟨hD, ⟨knV, fun q hq => by rw [hq] at obV; cases obV⟩, by rw [al.findClass]; exact e2, kU, u1, by rw [u2]; exact i3, by rw [u2]; exact e5 i3⟩
  have F1 : Found ST "value" "[B" fV P.U := ⟨SBG.found_only al ⟨cfV, kV, iV, gV⟩, stV⟩
  have F2 : Found ST "coder" "B" fC P.U := ⟨SBG.found_only al ⟨cfC, kC, iC, gC⟩, stC⟩
  have hA : Ch b A P.U := ⟨⟨K.1, State.isArrayOf_alike al K.2.1, K.2.2, by omega⟩, hty⟩
  have hS : StaticIs P.U ST "COMPACT_STRINGS" "Z" (.int z) := by
    obtain ⟨cfS, iS, kS, fS, st, cS, t1, t2, t3, t4, t5, t6, t7⟩ := S
    exact StaticIs.there (s := { Z with heap := P.U.heap }) ⟨cfS, iS, kS, fS, st, cS, t1, t2, t3, t4, t5, (fun q => by rw [q] at t6; cases t6), t7⟩ al rfl
  obtain ⟨v, B, X', ⟨⟨hv, E', V', q1, q2, q3, q4, q5, q6, q7, q8, q9, q10, q11⟩, hl, hc, hs⟩, st⟩ := New1.pays x D fV fC b A z (tab_of (moved hZ hw)) hfr hlo m meth c P g ig mk _ X hg hsize hdg hW hn ⟨r1, r2, rfl, hB, F1, F2, hA, hS, hz, l0, l2, hp⟩
  have al' : Z.vm.Alike B.U.vm := hZ.alike.trans X'.warmed.alike
  have hsz : E'.slots.size = D.slots.size := by
    obtain ⟨-, -, -, kB, w1, w2, w3⟩ := q1
    obtain ⟨kB', y1, y2⟩ := al'.2.2 _ _ e3
    rw [q2.2.1] at w1
    cases w1.symm.trans y1
    rw [w3, e5 i3, y2]
  refine ⟨v, B, X', ⟨_, ⟨hv, ?_, ⟨by omega, fun y cy hy hn' => q10 y cy (by simpa using hn') hy, fun y cy hy => ?_⟩, q11, ⟨E', _, q1.1, by rw [q2.2.1]; exact e2, by rw [q2.2.1]; exact e3, by rw [q2.1]; exact obV, fun _ => by rw [hsz]; exact e5 i3⟩,
    ⟨E', cfV, kV, iV, fV, q1.1, gV, stV, by rw [q2.1]; exact knV, by rw [q2.1]; exact obV, by rw [q2.2.1]; exact asV, q3⟩, ⟨E', cfC, kC, iC, fC, q1.1, gC, stC, by rw [q2.1]; exact knV, by rw [q2.1]; exact obV, by rw [q2.2.1]; exact asC, q4⟩,
    ⟨V', ⟨q5.1, State.isArrayOf_alike al'.symm q5.2.1, q5.2.2.1⟩, q6, by rw [← al'.findClass]; exact q7, q8, fun j hj => by have := q9 j hj; rwa [Nat.zero_add] at this⟩, fun O n d w F n1 n2 => ?_⟩, hl, hc, hs⟩, st⟩
  · intro y hy
    simp only [List.mem_cons, List.not_mem_nil, or_false] at hy
    rcases hy with rfl | rfl <;> rfl
  · by_cases q : y = x
    · subst q
      cases hD.symm.trans hy
      exact ⟨E', q1.1, q2.2.1, q2.1, hsz⟩
    · exact ⟨cy, q10 y cy q hy, rfl, rfl, rfl⟩
  · obtain ⟨D3, cf, k, i, f, g1, g2, g3, g4, g5, g6, g7⟩ := F
    cases hD.symm.trans g1
    simp only [RoadKit.slotOf, g2, gV, gC, Option.map_some, Option.getD_some] at n1 n2
    exact ⟨E', cf, k, i, f, q1.1, g2, g3, by rw [q2.1]; exact g4, by rw [q2.1]; exact g5, by rw [q2.2.1]; exact g6, by rw [q2.2.2 f.slot (by simp [n1, n2])]; exact g7⟩
end StrChars.Road
namespace StrChars.Road
open Jvm Sem ClassFile Op Lib Jvm.Stand Jvm.Free Jvm.Free.XT
/-- WHAT COMES BACK, the byte[] as a list of values -/
def QA (Z : State) (x : Addr) (zn : Int32) (cs : List Int32) (h : Heap) (v : Option Value) (h' : Heap) (L : List Loc) : Prop := v = none ∧ (∀ y ∈ L, y.base = x) ∧ RoadKit.Keep h h' [x] ∧ h'.size = h.size + 1 ∧ RoadKit.Exa Z h' x ST ∧ RoadKit.Fld Z h' x ST "value" "[B" (.ref h.size) ∧ RoadKit.Fld Z h' x ST "coder" "B" (.int 0) ∧
  (∃ kb, Z.vm.findClass "[B" = some kb ∧ RoadKit.Arv Z h' h.size kb .byte zn (cs.map fun c => .int (lo8 c)) (.int 0)) ∧
  ∀ (O n d : String) (w : Value), RoadKit.Fld Z h x O n d w → RoadKit.slotOf Z O n d ≠ RoadKit.slotOf Z ST "value" "[B" → RoadKit.slotOf Z O n d ≠ RoadKit.slotOf Z ST "coder" "B" → RoadKit.Fld Z h' x O n d w
/-- **new String(chars) AT A CALL, THE ARRAYS AS LISTS**: the char[] at b holds cs, not empty, no char above 255 -/
theorem backArv {p : Program} {l : Launch} {e : Env} {R : Room} {s : State} {args : Array Value} {below : List Frame} {len W : Nat} {Z : State} {a0 : Array Value} {h : Heap} (hZ : Z.Warmed39 s.vm) (hw : ∀ d ∈ words, d.before a0 Z = true) {kI : Nat} (wi : (Jvm.Cond.instantiable ST kI).before a0 Z = true)
    {x b : Addr} {k : ClassId} {zn z : Int32} {cs : List Int32} {dv v0 c0 : Value} (E : RoadKit.Exa Z h x ST) (V : RoadKit.Fld Z h x ST "value" "[B" v0) (C : RoadKit.Fld Z h x ST "coder" "B" c0) (K : RoadKit.Arv Z h b k .char zn (cs.map Value.int) dv) (S : RoadKit.Sta Z h ST "COMPACT_STRINGS" "Z" (.int z)) (hz : ¬ z = 0)
    (hlen : zn.toNatClampNeg = cs.length) (h0 : 0 < cs.length) (hbig : cs.length ≤ 536870912) (hall : ∀ c ∈ cs, ¬ 255 < c) (hfr : 4 ≤ R.frames) (hlo : W + 65 ≤ R.locals) :
    Back l R p e below s args New1.yN len W (fun P a => a = #[.ref x, .ref b] ∧ P.U.heap = h ∧ P.cells + 1 ≤ R.cells ∧ P.slots + cs.length ≤ R.slots)
      (fun P _ v B => ∃ L, QA Z x zn cs h v B.U.heap L ∧ B.locs = P.locs ++ L ∧ B.cells = P.cells + 1 ∧ B.slots = P.slots + cs.length) := by
  obtain ⟨A, K1, K2, K3, K4, K5, K6⟩ := K
  have e : A.slots.size = cs.length := K3.trans hlen
  have hat : ∀ (i : Nat) (hi : i < cs.length), A.slots[i]? = some (.int cs[i]) := fun i hi => by rw [K5 i (by omega)]; simp [List.getD_eq_getElem?_getD, hi]
  have hcv : ∀ (i : Nat) (hi : i < cs.length), cv A i = cs[i] := fun i hi => by unfold cv; rw [hat i hi]
  have hty : Typed .char A := fun i v hv => by
    have hi : i < A.slots.size := (Array.getElem?_eq_some_iff.mp hv).1
    have q := K5 i hi
    rw [hv] at q
    rw [Option.some.inj q]
    exact K6 i hi
  refine Back.mono (back hZ hw wi E V C K1 hty S hz (by omega) (by omega) (fun i hi => by rw [hcv i (by omega)]; exact hall _ (List.getElem_mem _)) hfr hlo) (fun P a hp => ⟨hp.1, hp.2.1, hp.2.2.1, by rw [e]; exact hp.2.2.2⟩) (fun P a v B hp hq => ?_)
  obtain ⟨L, ⟨q1, q2, q3, q4, q5, q6, q7, ⟨V', v1, v2, v3, v4, v5⟩, q9⟩, hl, hc, hs⟩ := hq
  refine ⟨L, ⟨q1, q2, q3, q4, q5, q6, q7, ⟨V'.cls, v3, V', v1, rfl, by rw [v4, e, hlen], K4, fun i hi => ?_, fun i hi => ?_⟩, q9⟩, hl, hc, by rw [hs, e]⟩
  · have hi' : i < cs.length := by omega
    rw [v5 i (by omega), hcv i hi']; simp [List.getD_eq_getElem?_getD, hi']
  · have hi' : i < cs.length := by omega
    simp only [List.getD_eq_getElem?_getD, List.getElem?_map, List.getElem?_eq_getElem hi', Option.map_some, Option.getD_some]
    exact fits_lo8 _
end StrChars.Road
namespace StrChars.Road
open Jvm Sem ClassFile Op Lib Jvm.Stand Jvm.Free Jvm.Free.XT
/-- WHAT COMES BACK, in the writer's own shape -/
def QV (Z : State) (x : Addr) (N : Int32) (bs : List Int32) (h : Heap) (n0 : Nat) (v : Option Value) (h' : Heap) (L : List Loc) : Prop := v = none ∧ RoadKit.Fr n0 L ∧ RoadKit.Keep h h' [x] ∧ RoadKit.Exa Z h' x ST ∧ RoadKit.Fld Z h' x ST "coder" "B" (.int 0) ∧
  ∃ (t : Addr) (kb : ClassId), n0 ≤ t ∧ h.size ≤ t ∧ ¬ t = x ∧ RoadKit.Fld Z h' x ST "value" "[B" (.ref t) ∧ RoadKit.Arv Z h' t kb .byte N (bs.map Value.int) (.int 0)
/-- **new String(chars) AT A CALL, FOR THE WRITER**: a char[] of n known ints, each 0 to 255 -/
theorem backV {p : Program} {l : Launch} {e : Env} {R : Room} {s : State} {args : Array Value} {below : List Frame} {len W : Nat} {Z : State} {a0 : Array Value} {h : Heap} (hZ : Z.Warmed39 s.vm) (hw : ∀ d ∈ words, d.before a0 Z = true) {kI : Nat} (wi : (Jvm.Cond.instantiable ST kI).before a0 Z = true)
    {x b : Addr} {kC : ClassId} {cs bs : List Int32} {d v0 c0 : Value} {z N : Int32} {n n0 : Nat} (hx0 : n0 ≤ x) (hh0 : n0 ≤ h.size) (E : RoadKit.Exa Z h x ST) (V : RoadKit.Fld Z h x ST "value" "[B" v0) (C : RoadKit.Fld Z h x ST "coder" "B" c0) (K : RoadKit.Arv Z h b kC .char N (cs.map Value.int) d) (S : RoadKit.Sta Z h ST "COMPACT_STRINGS" "Z" (.int z)) (hz : ¬ z = 0)
    (hn : cs.length = n) (hN : N = Int32.ofNat n) (l0 : 0 < n) (l2 : n ≤ 4000) (hp : ∀ c ∈ cs, ¬ c < 0 ∧ ¬ (255 : Int32) < c) (hb : bs = cs.map (fun c => c.toInt8.toInt32)) (hfr : 4 ≤ R.frames) (hlo : W + 65 ≤ R.locals) :
    Back l R p e below s args (⟨"java/lang/String", "<init>", "([C)V"⟩ : MethodName) len W (fun P a => a = #[.ref x, .ref b] ∧ P.U.heap = h ∧ P.cells + 1 ≤ R.cells ∧ P.slots + n ≤ R.slots)
      (fun P _ v B => ∃ L, QV Z x N bs h n0 v B.U.heap L ∧ B.locs = P.locs ++ L ∧ B.cells = P.cells + 1 ∧ B.slots = P.slots + n) := by
  subst hn hN hb
  refine Back.mono (backArv hZ hw wi E V C K S hz (n32 (by omega)) l0 (by omega) (fun c hc => (hp c hc).2) hfr hlo) (fun P a hp => hp) (fun P a v B hp hq => ?_)
  obtain ⟨L, ⟨q1, q2, q3, q4, q5, q6, q7, ⟨kb, v1, v2⟩, q9⟩, hl, hc, hs⟩ := hq
  exact ⟨L, ⟨q1, fun y hy => by rw [q2 y hy]; exact hx0, q3, q5, q7, h.size, kb, hh0, Nat.le_refl _, Nat.ne_of_gt E.lt, q6, by rw [List.map_map]; exact v2⟩, hl, hc, hs⟩
end StrChars.Road
end Jvm.Pilot.@@N@@
namespace Jvm.Pilot.@@N@@
open Jvm Jvm.ClassFile Sem Op Lib Jvm.Free Jvm.Stand Jvm.LawKit Jvm.RoadKit Bundle Jvm.Pilot.@@N@@.Jvm.D
set_option maxRecDepth 65536
set_option maxHeartbeats 40000000
abbrev kc0 : String := "com/example/ringfence/ringfence/gate/Measures"
abbrev kc1 : String := "java/math/BigDecimal"
abbrev kc2 : String := "java/lang/String"
abbrev kc3 : String := "com/example/ringfence/ringfence/gate/Pool"
theorem own_and255 (x : Int32) : ¬ ((x &&& (255 : Int32)).toUInt32.toUInt16.toUInt32.toInt32) < 0 ∧ ¬ (255 : Int32) < ((x &&& (255 : Int32)).toUInt32.toUInt16.toUInt32.toInt32) := by
  have t : ∀ k : Fin 256, ¬ ((Int32.ofNat k.val).toUInt32.toUInt16.toUInt32.toInt32) < 0 ∧ ¬ (255 : Int32) < ((Int32.ofNat k.val).toUInt32.toUInt16.toUInt32.toInt32) := by decide +kernel
  have h : (x &&& 255).toBitVec.toNat < 256 := by
    rw [Int32.toBitVec_and, BitVec.toNat_and]
    exact Nat.lt_succ_of_le Nat.and_le_right
  have e : (x &&& 255) = Int32.ofNat (x &&& 255).toBitVec.toNat := by
    apply Int32.toBitVec_inj.mp
    show _ = BitVec.ofNat 32 _
    rw [BitVec.ofNat_toNat]; simp
  rw [e]
  exact t ⟨_, h⟩
theorem own_lat (x : Int32) : (((((x &&& (255 : Int32)).toUInt32.toUInt16.toUInt32.toInt32).toInt8.toInt32) &&& (255 : Int32)).toUInt32.toUInt16.toUInt32.toInt32) = ((x &&& (255 : Int32)).toUInt32.toUInt16.toUInt32.toInt32) := by
  have t : ∀ k : Fin 256, (((((Int32.ofNat k.val).toUInt32.toUInt16.toUInt32.toInt32).toInt8.toInt32) &&& (255 : Int32)).toUInt32.toUInt16.toUInt32.toInt32) = ((Int32.ofNat k.val).toUInt32.toUInt16.toUInt32.toInt32) := by decide +kernel
  have h : (x &&& 255).toBitVec.toNat < 256 := by
    rw [Int32.toBitVec_and, BitVec.toNat_and]
    exact Nat.lt_succ_of_le Nat.and_le_right
  have e : (x &&& 255) = Int32.ofNat (x &&& 255).toBitVec.toNat := by
    apply Int32.toBitVec_inj.mp
    show _ = BitVec.ofNat 32 _
    rw [BitVec.ofNat_toNat]; simp
  rw [e]
  exact t ⟨_, h⟩
theorem own_hws {Z : State} {a0 : Array Value} (hw : ∀ d ∈ tables_1, d.before a0 Z = true) : ∀ d ∈ StrChars.Road.words, d.before a0 Z = true := fun d hd => hw d ((by decide +kernel : ∀ d ∈ StrChars.Road.words, d ∈ tables_1) d hd)
abbrev DC (b : ByteArray) (p : Nat) (i : Instr) (n : Nat) : Prop := ∀ {c : Code}, c.code = b → decode c.code p = .ok (i, n)
abbrev WD (w : Jvm.Cond) : Prop := ∀ {Z : State} {a0 : Array Value}, (∀ d ∈ tables_1, d.before a0 Z = true) → w.before a0 Z = true
theorem own_wd (i : Nat) {w : Jvm.Cond} (h : tables_1[i]? = some w) {Z : State} {a0 : Array Value} (hw : ∀ d ∈ tables_1, d.before a0 Z = true) : w.before a0 Z = true := hw _ (List.mem_of_getElem? h)
abbrev yn_1 : MethodName := ⟨"com/example/ringfence/ringfence/gate/Measures", "<init>", "(Lcom/example/ringfence/ringfence/gate/Pool;)V"⟩
abbrev yn_3 : MethodName := ⟨"com/example/ringfence/ringfence/gate/Measures", "setUnrated", "(Ljava/lang/String;)V"⟩
abbrev yn_4 : MethodName := ⟨"com/example/ringfence/ringfence/gate/Measures", "set", "(Lcom/example/ringfence/ringfence/gate/Measures;)V"⟩
abbrev yn_5 : MethodName := ⟨"com/example/ringfence/ringfence/gate/Measures", "unrated", "()Ljava/lang/String;"⟩
abbrev yn_6 : MethodName := ⟨"com/example/ringfence/ringfence/gate/MeasuresSetPinLaw", "same", "(Ljava/lang/String;Ljava/lang/String;)Z"⟩
abbrev yn_7 : MethodName := ⟨"com/example/ringfence/ringfence/gate/MeasuresSetPinLaw", "drawn", "(I)Ljava/lang/String;"⟩
abbrev yn_8 : MethodName := ⟨"java/lang/String", "<init>", "([C)V"⟩
abbrev yn_13 : MethodName := ⟨"java/lang/String", "valueOf", "(C)Ljava/lang/String;"⟩
abbrev yn_14 : MethodName := ⟨"java/lang/StringLatin1", "canEncode", "(C)Z"⟩
abbrev yn_15 : MethodName := ⟨"java/lang/StringLatin1", "toBytes", "(C)[B"⟩
abbrev yn_16 : MethodName := ⟨"java/lang/String", "<init>", "([BB)V"⟩
abbrev yn_17 : MethodName := ⟨"java/lang/String", "equals", "(Ljava/lang/Object;)Z"⟩
theorem d13_0 : DC jdk_42_method_139_code 0 (.getstatic 38) 3 := fun h => hb h (by decide +kernel)
theorem d13_3 : DC jdk_42_method_139_code 3 (.ifCond .eq 23) 3 := fun h => hb h (by decide +kernel)
theorem d13_6 : DC jdk_42_method_139_code 6 (.iload_n 0) 1 := fun h => hb h (by decide +kernel)
theorem d13_7 : DC jdk_42_method_139_code 7 (.invokestatic 1015) 3 := fun h => hb h (by decide +kernel)
theorem d13_10 : DC jdk_42_method_139_code 10 (.ifCond .eq 16) 3 := fun h => hb h (by decide +kernel)
theorem d13_13 : DC jdk_42_method_139_code 13 (.new 10) 3 := fun h => hb h (by decide +kernel)
theorem d13_16 : DC jdk_42_method_139_code 16 (.dup) 1 := fun h => hb h (by decide +kernel)
theorem d13_17 : DC jdk_42_method_139_code 17 (.iload_n 0) 1 := fun h => hb h (by decide +kernel)
theorem d13_18 : DC jdk_42_method_139_code 18 (.invokestatic 1018) 3 := fun h => hb h (by decide +kernel)
theorem d13_21 : DC jdk_42_method_139_code 21 (.iconst 0) 1 := fun h => hb h (by decide +kernel)
theorem d13_22 : DC jdk_42_method_139_code 22 (.invokespecial 209) 3 := fun h => hb h (by decide +kernel)
theorem d13_25 : DC jdk_42_method_139_code 25 (.areturn) 1 := fun h => hb h (by decide +kernel)
theorem d16_0 : DC jdk_42_method_151_code 0 (.aload_n 0) 1 := fun h => hb h (by decide +kernel)
theorem d16_1 : DC jdk_42_method_151_code 1 (.invokespecial 1) 3 := fun h => hb h (by decide +kernel)
theorem d16_4 : DC jdk_42_method_151_code 4 (.aload_n 0) 1 := fun h => hb h (by decide +kernel)
theorem d16_5 : DC jdk_42_method_151_code 5 (.aload_n 1) 1 := fun h => hb h (by decide +kernel)
theorem d16_6 : DC jdk_42_method_151_code 6 (.putfield 9) 3 := fun h => hb h (by decide +kernel)
theorem d16_9 : DC jdk_42_method_151_code 9 (.aload_n 0) 1 := fun h => hb h (by decide +kernel)
theorem d16_10 : DC jdk_42_method_151_code 10 (.iload_n 2) 1 := fun h => hb h (by decide +kernel)
theorem d16_11 : DC jdk_42_method_151_code 11 (.putfield 15) 3 := fun h => hb h (by decide +kernel)
theorem d16_14 : DC jdk_42_method_151_code 14 (.return_) 1 := fun h => hb h (by decide +kernel)
theorem d17_0 : DC jdk_42_method_66_code 0 (.aload_n 0) 1 := fun h => hb h (by decide +kernel)
theorem d17_1 : DC jdk_42_method_66_code 1 (.aload_n 1) 1 := fun h => hb h (by decide +kernel)
theorem d17_2 : DC jdk_42_method_66_code 2 (.if_acmp .ne 5) 3 := fun h => hb h (by decide +kernel)
theorem d17_5 : DC jdk_42_method_66_code 5 (.iconst 1) 1 := fun h => hb h (by decide +kernel)
theorem d17_6 : DC jdk_42_method_66_code 6 (.ireturn) 1 := fun h => hb h (by decide +kernel)
theorem d14_0 : DC jdk_43_method_3_code 0 (.iload_n 0) 1 := fun h => hb h (by decide +kernel)
theorem d14_1 : DC jdk_43_method_3_code 1 (.sipush 255) 3 := fun h => hb h (by decide +kernel)
theorem d14_4 : DC jdk_43_method_3_code 4 (.if_icmp .gt 7) 3 := fun h => hb h (by decide +kernel)
theorem d14_7 : DC jdk_43_method_3_code 7 (.iconst 1) 1 := fun h => hb h (by decide +kernel)
theorem d14_8 : DC jdk_43_method_3_code 8 (.goto 4) 3 := fun h => hb h (by decide +kernel)
theorem d14_12 : DC jdk_43_method_3_code 12 (.ireturn) 1 := fun h => hb h (by decide +kernel)
theorem d15_0 : DC jdk_43_method_46_code 0 (.iconst 1) 1 := fun h => hb h (by decide +kernel)
theorem d15_1 : DC jdk_43_method_46_code 1 (.newarray .byte) 2 := fun h => hb h (by decide +kernel)
theorem d15_3 : DC jdk_43_method_46_code 3 (.dup) 1 := fun h => hb h (by decide +kernel)
theorem d15_4 : DC jdk_43_method_46_code 4 (.iconst 0) 1 := fun h => hb h (by decide +kernel)
theorem d15_5 : DC jdk_43_method_46_code 5 (.iload_n 0) 1 := fun h => hb h (by decide +kernel)
theorem d15_6 : DC jdk_43_method_46_code 6 (.i2b) 1 := fun h => hb h (by decide +kernel)
theorem d15_7 : DC jdk_43_method_46_code 7 (.bastore) 1 := fun h => hb h (by decide +kernel)
theorem d15_8 : DC jdk_43_method_46_code 8 (.areturn) 1 := fun h => hb h (by decide +kernel)
theorem d7_0 : DC method_3_code 0 (.iload_n 0) 1 := fun h => hb h (by decide +kernel)
theorem d7_1 : DC method_3_code 1 (.sipush 255) 3 := fun h => hb h (by decide +kernel)
theorem d7_4 : DC method_3_code 4 (.iand) 1 := fun h => hb h (by decide +kernel)
theorem d7_5 : DC method_3_code 5 (.i2c) 1 := fun h => hb h (by decide +kernel)
theorem d7_6 : DC method_3_code 6 (.istore_n 1) 1 := fun h => hb h (by decide +kernel)
theorem d7_7 : DC method_3_code 7 (.iload_n 0) 1 := fun h => hb h (by decide +kernel)
theorem d7_8 : DC method_3_code 8 (.bipush 8) 2 := fun h => hb h (by decide +kernel)
theorem d7_10 : DC method_3_code 10 (.iushr) 1 := fun h => hb h (by decide +kernel)
theorem d7_11 : DC method_3_code 11 (.sipush 255) 3 := fun h => hb h (by decide +kernel)
theorem d7_14 : DC method_3_code 14 (.iand) 1 := fun h => hb h (by decide +kernel)
theorem d7_15 : DC method_3_code 15 (.i2c) 1 := fun h => hb h (by decide +kernel)
theorem d7_16 : DC method_3_code 16 (.istore_n 2) 1 := fun h => hb h (by decide +kernel)
theorem d7_17 : DC method_3_code 17 (.iload_n 0) 1 := fun h => hb h (by decide +kernel)
theorem d7_18 : DC method_3_code 18 (.bipush 16) 2 := fun h => hb h (by decide +kernel)
theorem d7_20 : DC method_3_code 20 (.iushr) 1 := fun h => hb h (by decide +kernel)
theorem d7_21 : DC method_3_code 21 (.iconst 1) 1 := fun h => hb h (by decide +kernel)
theorem d7_22 : DC method_3_code 22 (.iand) 1 := fun h => hb h (by decide +kernel)
theorem d7_23 : DC method_3_code 23 (.ifCond .eq 8) 3 := fun h => hb h (by decide +kernel)
theorem d7_26 : DC method_3_code 26 (.iload_n 1) 1 := fun h => hb h (by decide +kernel)
theorem d7_27 : DC method_3_code 27 (.invokestatic 34) 3 := fun h => hb h (by decide +kernel)
theorem d7_30 : DC method_3_code 30 (.areturn) 1 := fun h => hb h (by decide +kernel)
theorem d7_31 : DC method_3_code 31 (.iconst 2) 1 := fun h => hb h (by decide +kernel)
theorem d7_32 : DC method_3_code 32 (.newarray .char) 2 := fun h => hb h (by decide +kernel)
theorem d7_34 : DC method_3_code 34 (.dup) 1 := fun h => hb h (by decide +kernel)
theorem d7_35 : DC method_3_code 35 (.iconst 0) 1 := fun h => hb h (by decide +kernel)
theorem d7_36 : DC method_3_code 36 (.iload_n 1) 1 := fun h => hb h (by decide +kernel)
theorem d7_37 : DC method_3_code 37 (.castore) 1 := fun h => hb h (by decide +kernel)
theorem d7_38 : DC method_3_code 38 (.dup) 1 := fun h => hb h (by decide +kernel)
theorem d7_39 : DC method_3_code 39 (.iconst 1) 1 := fun h => hb h (by decide +kernel)
theorem d7_40 : DC method_3_code 40 (.iload_n 2) 1 := fun h => hb h (by decide +kernel)
theorem d7_41 : DC method_3_code 41 (.castore) 1 := fun h => hb h (by decide +kernel)
theorem d7_42 : DC method_3_code 42 (.astore_n 3) 1 := fun h => hb h (by decide +kernel)
theorem d7_43 : DC method_3_code 43 (.new 35) 3 := fun h => hb h (by decide +kernel)
theorem d7_46 : DC method_3_code 46 (.dup) 1 := fun h => hb h (by decide +kernel)
theorem d7_47 : DC method_3_code 47 (.aload_n 3) 1 := fun h => hb h (by decide +kernel)
theorem d7_48 : DC method_3_code 48 (.invokespecial 40) 3 := fun h => hb h (by decide +kernel)
theorem d7_51 : DC method_3_code 51 (.areturn) 1 := fun h => hb h (by decide +kernel)
theorem d6_0 : DC method_4_code 0 (.aload_n 0) 1 := fun h => hb h (by decide +kernel)
theorem d6_1 : DC method_4_code 1 (.ifnonnull 13) 3 := fun h => hb h (by decide +kernel)
theorem d6_4 : DC method_4_code 4 (.aload_n 1) 1 := fun h => hb h (by decide +kernel)
theorem d6_5 : DC method_4_code 5 (.ifnonnull 7) 3 := fun h => hb h (by decide +kernel)
theorem d6_8 : DC method_4_code 8 (.iconst 1) 1 := fun h => hb h (by decide +kernel)
theorem d6_9 : DC method_4_code 9 (.goto 4) 3 := fun h => hb h (by decide +kernel)
theorem d6_13 : DC method_4_code 13 (.ireturn) 1 := fun h => hb h (by decide +kernel)
theorem d6_14 : DC method_4_code 14 (.aload_n 0) 1 := fun h => hb h (by decide +kernel)
theorem d6_15 : DC method_4_code 15 (.aload_n 1) 1 := fun h => hb h (by decide +kernel)
theorem d6_16 : DC method_4_code 16 (.invokevirtual 43) 3 := fun h => hb h (by decide +kernel)
theorem d6_19 : DC method_4_code 19 (.ireturn) 1 := fun h => hb h (by decide +kernel)
theorem d1_0 : DC prog_36_method_1_code 0 (.aload_n 0) 1 := fun h => hb h (by decide +kernel)
theorem d1_1 : DC prog_36_method_1_code 1 (.invokespecial 1) 3 := fun h => hb h (by decide +kernel)
theorem d1_4 : DC prog_36_method_1_code 4 (.aload_n 0) 1 := fun h => hb h (by decide +kernel)
theorem d1_5 : DC prog_36_method_1_code 5 (.getstatic 7) 3 := fun h => hb h (by decide +kernel)
theorem d1_8 : DC prog_36_method_1_code 8 (.putfield 13) 3 := fun h => hb h (by decide +kernel)
theorem d1_11 : DC prog_36_method_1_code 11 (.aload_n 0) 1 := fun h => hb h (by decide +kernel)
theorem d1_12 : DC prog_36_method_1_code 12 (.getstatic 7) 3 := fun h => hb h (by decide +kernel)
theorem d1_15 : DC prog_36_method_1_code 15 (.putfield 18) 3 := fun h => hb h (by decide +kernel)
theorem d1_18 : DC prog_36_method_1_code 18 (.aload_n 0) 1 := fun h => hb h (by decide +kernel)
theorem d1_19 : DC prog_36_method_1_code 19 (.getstatic 7) 3 := fun h => hb h (by decide +kernel)
theorem d1_22 : DC prog_36_method_1_code 22 (.putfield 21) 3 := fun h => hb h (by decide +kernel)
theorem d1_25 : DC prog_36_method_1_code 25 (.aload_n 0) 1 := fun h => hb h (by decide +kernel)
theorem d1_26 : DC prog_36_method_1_code 26 (.getstatic 7) 3 := fun h => hb h (by decide +kernel)
theorem d1_29 : DC prog_36_method_1_code 29 (.putfield 24) 3 := fun h => hb h (by decide +kernel)
theorem d1_32 : DC prog_36_method_1_code 32 (.aload_n 0) 1 := fun h => hb h (by decide +kernel)
theorem d1_33 : DC prog_36_method_1_code 33 (.aload_n 1) 1 := fun h => hb h (by decide +kernel)
theorem d1_34 : DC prog_36_method_1_code 34 (.putfield 27) 3 := fun h => hb h (by decide +kernel)
theorem d1_37 : DC prog_36_method_1_code 37 (.return_) 1 := fun h => hb h (by decide +kernel)
theorem d5_0 : DC prog_36_method_4_code 0 (.aload_n 0) 1 := fun h => hb h (by decide +kernel)
theorem d5_1 : DC prog_36_method_4_code 1 (.getfield 31) 3 := fun h => hb h (by decide +kernel)
theorem d5_4 : DC prog_36_method_4_code 4 (.areturn) 1 := fun h => hb h (by decide +kernel)
theorem d3_0 : DC prog_36_method_5_code 0 (.aload_n 0) 1 := fun h => hb h (by decide +kernel)
theorem d3_1 : DC prog_36_method_5_code 1 (.aload_n 1) 1 := fun h => hb h (by decide +kernel)
theorem d3_2 : DC prog_36_method_5_code 2 (.putfield 31) 3 := fun h => hb h (by decide +kernel)
theorem d3_5 : DC prog_36_method_5_code 5 (.return_) 1 := fun h => hb h (by decide +kernel)
theorem d4_0 : DC prog_36_method_6_code 0 (.aload_n 0) 1 := fun h => hb h (by decide +kernel)
theorem d4_1 : DC prog_36_method_6_code 1 (.aload_n 1) 1 := fun h => hb h (by decide +kernel)
theorem d4_2 : DC prog_36_method_6_code 2 (.getfield 31) 3 := fun h => hb h (by decide +kernel)
theorem d4_5 : DC prog_36_method_6_code 5 (.putfield 31) 3 := fun h => hb h (by decide +kernel)
theorem d4_8 : DC prog_36_method_6_code 8 (.aload_n 0) 1 := fun h => hb h (by decide +kernel)
theorem d4_9 : DC prog_36_method_6_code 9 (.aload_n 1) 1 := fun h => hb h (by decide +kernel)
theorem d4_10 : DC prog_36_method_6_code 10 (.getfield 13) 3 := fun h => hb h (by decide +kernel)
theorem d4_13 : DC prog_36_method_6_code 13 (.putfield 13) 3 := fun h => hb h (by decide +kernel)
theorem d4_16 : DC prog_36_method_6_code 16 (.aload_n 0) 1 := fun h => hb h (by decide +kernel)
theorem d4_17 : DC prog_36_method_6_code 17 (.aload_n 1) 1 := fun h => hb h (by decide +kernel)
theorem d4_18 : DC prog_36_method_6_code 18 (.getfield 18) 3 := fun h => hb h (by decide +kernel)
theorem d4_21 : DC prog_36_method_6_code 21 (.putfield 18) 3 := fun h => hb h (by decide +kernel)
theorem d4_24 : DC prog_36_method_6_code 24 (.aload_n 0) 1 := fun h => hb h (by decide +kernel)
theorem d4_25 : DC prog_36_method_6_code 25 (.aload_n 1) 1 := fun h => hb h (by decide +kernel)
theorem d4_26 : DC prog_36_method_6_code 26 (.getfield 21) 3 := fun h => hb h (by decide +kernel)
theorem d4_29 : DC prog_36_method_6_code 29 (.putfield 21) 3 := fun h => hb h (by decide +kernel)
theorem d4_32 : DC prog_36_method_6_code 32 (.aload_n 0) 1 := fun h => hb h (by decide +kernel)
theorem d4_33 : DC prog_36_method_6_code 33 (.aload_n 1) 1 := fun h => hb h (by decide +kernel)
theorem d4_34 : DC prog_36_method_6_code 34 (.getfield 24) 3 := fun h => hb h (by decide +kernel)
theorem d4_37 : DC prog_36_method_6_code 37 (.putfield 24) 3 := fun h => hb h (by decide +kernel)
theorem d4_40 : DC prog_36_method_6_code 40 (.return_) 1 := fun h => hb h (by decide +kernel)
theorem pn_0 : plainName "java/lang/StringLatin1" = true := by first | (simp [plainName, overriddenIn]; done) | decide +kernel
theorem pn_1 : plainName "java/lang/String" = true := by first | (simp [plainName, overriddenIn]; done) | decide +kernel
theorem pn_2 : plainName "com/example/ringfence/ringfence/gate/MeasuresSetPinLaw" = true := by first | (simp [plainName, overriddenIn]; done) | decide +kernel
theorem pn_3 : plainName "com/example/ringfence/ringfence/gate/Measures" = true := by first | (simp [plainName, overriddenIn]; done) | decide +kernel
theorem pd_0 : parseMethodDescriptor "([C)V" = some ⟨[(.array .char)], none⟩ := by decide +kernel
theorem pd_1 : parseMethodDescriptor "(C)Z" = some ⟨[.char], some .boolean⟩ := by decide +kernel
theorem pd_2 : parseMethodDescriptor "(C)[B" = some ⟨[.char], some (.array .byte)⟩ := by decide +kernel
theorem pd_3 : parseMethodDescriptor "([BB)V" = some ⟨[(.array .byte), .byte], none⟩ := by decide +kernel
theorem pd_4 : parseMethodDescriptor "(C)Ljava/lang/String;" = some ⟨[.char], some (.object "java/lang/String")⟩ := by decide +kernel
theorem pd_5 : parseMethodDescriptor "(Lcom/example/ringfence/ringfence/gate/Pool;)V" = some ⟨[(.object "com/example/ringfence/ringfence/gate/Pool")], none⟩ := by decide +kernel
theorem pd_6 : parseMethodDescriptor "(Ljava/lang/String;)V" = some ⟨[(.object "java/lang/String")], none⟩ := by decide +kernel
theorem pd_7 : parseMethodDescriptor "(Lcom/example/ringfence/ringfence/gate/Measures;)V" = some ⟨[(.object "com/example/ringfence/ringfence/gate/Measures")], none⟩ := by decide +kernel
theorem pd_8 : parseMethodDescriptor "()Ljava/lang/String;" = some ⟨[], some (.object "java/lang/String")⟩ := by decide +kernel
theorem pd_9 : parseMethodDescriptor "(Ljava/lang/String;Ljava/lang/String;)Z" = some ⟨[(.object "java/lang/String"), (.object "java/lang/String")], some .boolean⟩ := by decide +kernel
theorem pd_10 : parseMethodDescriptor "(I)Ljava/lang/String;" = some ⟨[.int], some (.object "java/lang/String")⟩ := by decide +kernel
theorem pd_11 : parseMethodDescriptor "(Ljava/lang/Object;)Z" = some ⟨[(.object "java/lang/Object")], some .boolean⟩ := by decide +kernel
theorem wd_0 : WD (Jvm.Cond.classLink "com/example/ringfence/ringfence/gate/MeasuresSetPinLaw" (13 : Nat) kc0) := own_wd 0 rfl
theorem wd_1 : WD (Jvm.Cond.instantiable kc0 (6 : Nat)) := own_wd 1 rfl
theorem wd_2 : WD (Jvm.Cond.initialized kc0) := own_wd 2 rfl
theorem wd_3 : WD (Jvm.Cond.methodLink "com/example/ringfence/ringfence/gate/MeasuresSetPinLaw" (15 : Nat) ({ cls := kc0, name := "<init>", desc := "(Lcom/example/ringfence/ringfence/gate/Pool;)V" } : Jvm.MethodName)) := own_wd 3 rfl
theorem wd_4 : WD (Jvm.Cond.instanceMethod ({ cls := kc0, name := "<init>", desc := "(Lcom/example/ringfence/ringfence/gate/Pool;)V" } : Jvm.MethodName)) := own_wd 4 rfl
theorem wd_5 : WD (Jvm.Cond.code ({ cls := kc0, name := "<init>", desc := "(Lcom/example/ringfence/ringfence/gate/Pool;)V" } : Jvm.MethodName) prog_36_method_1_code (2 : Nat) (Option.none : Option Jvm.ClassFile.FieldType)) := own_wd 5 rfl
theorem wd_6 : WD (Jvm.Cond.methodLink kc0 (1 : Nat) ({ cls := "java/lang/Object", name := "<init>", desc := "()V" } : Jvm.MethodName)) := own_wd 6 rfl
theorem wd_7 : WD (Jvm.Cond.instanceMethod ({ cls := "java/lang/Object", name := "<init>", desc := "()V" } : Jvm.MethodName)) := own_wd 7 rfl
theorem wd_8 : WD (Jvm.Cond.code ({ cls := "java/lang/Object", name := "<init>", desc := "()V" } : Jvm.MethodName) object_method_1_code (1 : Nat) (Option.none : Option Jvm.ClassFile.FieldType)) := own_wd 8 rfl
theorem wd_9 : WD (Jvm.Cond.fieldLink kc0 (7 : Nat) kc1 "ZERO" "Ljava/math/BigDecimal;") := own_wd 9 rfl
theorem wd_11 : WD (Jvm.Cond.fieldLink kc0 (13 : Nat) kc0 "open" "Ljava/math/BigDecimal;") := own_wd 11 rfl
theorem wd_12 : WD (Jvm.Cond.lays kc0 kc0 "open" "Ljava/math/BigDecimal;") := own_wd 12 rfl
theorem wd_13 : WD (Jvm.Cond.fieldLink kc0 (18 : Nat) kc0 "downside" "Ljava/math/BigDecimal;") := own_wd 13 rfl
theorem wd_14 : WD (Jvm.Cond.lays kc0 kc0 "downside" "Ljava/math/BigDecimal;") := own_wd 14 rfl
theorem wd_15 : WD (Jvm.Cond.fieldLink kc0 (21 : Nat) kc0 "upside" "Ljava/math/BigDecimal;") := own_wd 15 rfl
theorem wd_16 : WD (Jvm.Cond.lays kc0 kc0 "upside" "Ljava/math/BigDecimal;") := own_wd 16 rfl
theorem wd_17 : WD (Jvm.Cond.fieldLink kc0 (24 : Nat) kc0 "exposure" "Ljava/math/BigDecimal;") := own_wd 17 rfl
theorem wd_18 : WD (Jvm.Cond.lays kc0 kc0 "exposure" "Ljava/math/BigDecimal;") := own_wd 18 rfl
theorem wd_19 : WD (Jvm.Cond.fieldLink kc0 (27 : Nat) kc0 "pool" "Lcom/example/ringfence/ringfence/gate/Pool;") := own_wd 19 rfl
theorem wd_20 : WD (Jvm.Cond.laysFinal kc0 kc0 "pool" "Lcom/example/ringfence/ringfence/gate/Pool;") := own_wd 20 rfl
theorem wd_21 : WD (Jvm.Cond.methodLink "com/example/ringfence/ringfence/gate/MeasuresSetPinLaw" (18 : Nat) ({ cls := kc0, name := "setUnrated", desc := "(Ljava/lang/String;)V" } : Jvm.MethodName)) := own_wd 21 rfl
theorem wd_22 : WD (Jvm.Cond.declares ({ cls := kc0, name := "setUnrated", desc := "(Ljava/lang/String;)V" } : Jvm.MethodName)) := own_wd 22 rfl
theorem wd_23 : WD (Jvm.Cond.instanceMethod ({ cls := kc0, name := "setUnrated", desc := "(Ljava/lang/String;)V" } : Jvm.MethodName)) := own_wd 23 rfl
theorem wd_24 : WD (Jvm.Cond.selects kc0 ({ cls := kc0, name := "setUnrated", desc := "(Ljava/lang/String;)V" } : Jvm.MethodName) ({ cls := kc0, name := "setUnrated", desc := "(Ljava/lang/String;)V" } : Jvm.MethodName)) := own_wd 24 rfl
theorem wd_25 : WD (Jvm.Cond.code ({ cls := kc0, name := "setUnrated", desc := "(Ljava/lang/String;)V" } : Jvm.MethodName) prog_36_method_5_code (2 : Nat) (Option.none : Option Jvm.ClassFile.FieldType)) := own_wd 25 rfl
theorem wd_26 : WD (Jvm.Cond.fieldLink kc0 (31 : Nat) kc0 "unrated" "Ljava/lang/String;") := own_wd 26 rfl
theorem wd_27 : WD (Jvm.Cond.lays kc0 kc0 "unrated" "Ljava/lang/String;") := own_wd 27 rfl
theorem wd_28 : WD (Jvm.Cond.methodLink "com/example/ringfence/ringfence/gate/MeasuresSetPinLaw" (22 : Nat) ({ cls := kc0, name := "set", desc := "(Lcom/example/ringfence/ringfence/gate/Measures;)V" } : Jvm.MethodName)) := own_wd 28 rfl
theorem wd_29 : WD (Jvm.Cond.declares ({ cls := kc0, name := "set", desc := "(Lcom/example/ringfence/ringfence/gate/Measures;)V" } : Jvm.MethodName)) := own_wd 29 rfl
theorem wd_30 : WD (Jvm.Cond.instanceMethod ({ cls := kc0, name := "set", desc := "(Lcom/example/ringfence/ringfence/gate/Measures;)V" } : Jvm.MethodName)) := own_wd 30 rfl
theorem wd_31 : WD (Jvm.Cond.selects kc0 ({ cls := kc0, name := "set", desc := "(Lcom/example/ringfence/ringfence/gate/Measures;)V" } : Jvm.MethodName) ({ cls := kc0, name := "set", desc := "(Lcom/example/ringfence/ringfence/gate/Measures;)V" } : Jvm.MethodName)) := own_wd 31 rfl
theorem wd_32 : WD (Jvm.Cond.code ({ cls := kc0, name := "set", desc := "(Lcom/example/ringfence/ringfence/gate/Measures;)V" } : Jvm.MethodName) prog_36_method_6_code (2 : Nat) (Option.none : Option Jvm.ClassFile.FieldType)) := own_wd 32 rfl
theorem wd_33 : WD (Jvm.Cond.methodLink "com/example/ringfence/ringfence/gate/MeasuresSetPinLaw" (26 : Nat) ({ cls := kc0, name := "unrated", desc := "()Ljava/lang/String;" } : Jvm.MethodName)) := own_wd 33 rfl
theorem wd_34 : WD (Jvm.Cond.declares ({ cls := kc0, name := "unrated", desc := "()Ljava/lang/String;" } : Jvm.MethodName)) := own_wd 34 rfl
theorem wd_35 : WD (Jvm.Cond.instanceMethod ({ cls := kc0, name := "unrated", desc := "()Ljava/lang/String;" } : Jvm.MethodName)) := own_wd 35 rfl
theorem wd_36 : WD (Jvm.Cond.selects kc0 ({ cls := kc0, name := "unrated", desc := "()Ljava/lang/String;" } : Jvm.MethodName) ({ cls := kc0, name := "unrated", desc := "()Ljava/lang/String;" } : Jvm.MethodName)) := own_wd 36 rfl
theorem wd_37 : WD (Jvm.Cond.code ({ cls := kc0, name := "unrated", desc := "()Ljava/lang/String;" } : Jvm.MethodName) prog_36_method_4_code (1 : Nat) (Option.some (Jvm.ClassFile.FieldType.object kc2))) := own_wd 37 rfl
theorem wd_38 : WD (Jvm.Cond.methodLink "com/example/ringfence/ringfence/gate/MeasuresSetPinLaw" (30 : Nat) ({ cls := "com/example/ringfence/ringfence/gate/MeasuresSetPinLaw", name := "same", desc := "(Ljava/lang/String;Ljava/lang/String;)Z" } : Jvm.MethodName)) := own_wd 38 rfl
theorem wd_39 : WD (Jvm.Cond.static ({ cls := "com/example/ringfence/ringfence/gate/MeasuresSetPinLaw", name := "same", desc := "(Ljava/lang/String;Ljava/lang/String;)Z" } : Jvm.MethodName)) := own_wd 39 rfl
theorem wd_40 : WD (Jvm.Cond.initialized "com/example/ringfence/ringfence/gate/MeasuresSetPinLaw") := own_wd 40 rfl
theorem wd_41 : WD (Jvm.Cond.code ({ cls := "com/example/ringfence/ringfence/gate/MeasuresSetPinLaw", name := "same", desc := "(Ljava/lang/String;Ljava/lang/String;)Z" } : Jvm.MethodName) method_4_code (2 : Nat) (Option.some Jvm.ClassFile.FieldType.boolean)) := own_wd 41 rfl
theorem wd_42 : WD (Jvm.Cond.methodLink "com/example/ringfence/ringfence/gate/MeasuresSetPinLaw" (7 : Nat) ({ cls := "com/example/ringfence/ringfence/gate/MeasuresSetPinLaw", name := "drawn", desc := "(I)Ljava/lang/String;" } : Jvm.MethodName)) := own_wd 42 rfl
theorem wd_43 : WD (Jvm.Cond.static ({ cls := "com/example/ringfence/ringfence/gate/MeasuresSetPinLaw", name := "drawn", desc := "(I)Ljava/lang/String;" } : Jvm.MethodName)) := own_wd 43 rfl
theorem wd_44 : WD (Jvm.Cond.code ({ cls := "com/example/ringfence/ringfence/gate/MeasuresSetPinLaw", name := "drawn", desc := "(I)Ljava/lang/String;" } : Jvm.MethodName) method_3_code (4 : Nat) (Option.some (Jvm.ClassFile.FieldType.object kc2))) := own_wd 44 rfl
theorem wd_45 : WD (Jvm.Cond.arrayClass Jvm.ClassFile.FieldType.char) := own_wd 45 rfl
theorem wd_46 : WD (Jvm.Cond.classLink "com/example/ringfence/ringfence/gate/MeasuresSetPinLaw" (35 : Nat) kc2) := own_wd 46 rfl
theorem wd_47 : WD (Jvm.Cond.instantiable kc2 (4 : Nat)) := own_wd 47 rfl
theorem wd_48 : WD (Jvm.Cond.initialized kc2) := own_wd 48 rfl
theorem wd_49 : WD (Jvm.Cond.methodLink "com/example/ringfence/ringfence/gate/MeasuresSetPinLaw" (40 : Nat) ({ cls := kc2, name := "<init>", desc := "([C)V" } : Jvm.MethodName)) := own_wd 49 rfl
theorem wd_50 : WD (Jvm.Cond.instanceMethod ({ cls := kc2, name := "<init>", desc := "([C)V" } : Jvm.MethodName)) := own_wd 50 rfl
theorem wd_51 : WD (Jvm.Cond.code ({ cls := kc2, name := "<init>", desc := "([C)V" } : Jvm.MethodName) jdk_42_method_3_code (2 : Nat) (Option.none : Option Jvm.ClassFile.FieldType)) := own_wd 51 rfl
theorem wd_56 : WD (Jvm.Cond.methodLink kc2 (1 : Nat) ({ cls := "java/lang/Object", name := "<init>", desc := "()V" } : Jvm.MethodName)) := own_wd 56 rfl
theorem wd_57 : WD (Jvm.Cond.fieldLink kc2 (38 : Nat) kc2 "COMPACT_STRINGS" "Z") := own_wd 57 rfl
theorem wd_62 : WD (Jvm.Cond.arrayClass Jvm.ClassFile.FieldType.byte) := own_wd 62 rfl
theorem wd_69 : WD (Jvm.Cond.fieldLink kc2 (15 : Nat) kc2 "coder" "B") := own_wd 69 rfl
theorem wd_70 : WD (Jvm.Cond.laysFinal kc2 kc2 "coder" "B") := own_wd 70 rfl
theorem wd_71 : WD (Jvm.Cond.fieldLink kc2 (9 : Nat) kc2 "value" "[B") := own_wd 71 rfl
theorem wd_72 : WD (Jvm.Cond.laysFinal kc2 kc2 "value" "[B") := own_wd 72 rfl
theorem wd_73 : WD (Jvm.Cond.methodLink "com/example/ringfence/ringfence/gate/MeasuresSetPinLaw" (34 : Nat) ({ cls := kc2, name := "valueOf", desc := "(C)Ljava/lang/String;" } : Jvm.MethodName)) := own_wd 73 rfl
theorem wd_74 : WD (Jvm.Cond.static ({ cls := kc2, name := "valueOf", desc := "(C)Ljava/lang/String;" } : Jvm.MethodName)) := own_wd 74 rfl
theorem wd_75 : WD (Jvm.Cond.code ({ cls := kc2, name := "valueOf", desc := "(C)Ljava/lang/String;" } : Jvm.MethodName) jdk_42_method_139_code (1 : Nat) (Option.some (Jvm.ClassFile.FieldType.object kc2))) := own_wd 75 rfl
theorem wd_76 : WD (Jvm.Cond.methodLink kc2 (1015 : Nat) ({ cls := "java/lang/StringLatin1", name := "canEncode", desc := "(C)Z" } : Jvm.MethodName)) := own_wd 76 rfl
theorem wd_77 : WD (Jvm.Cond.static ({ cls := "java/lang/StringLatin1", name := "canEncode", desc := "(C)Z" } : Jvm.MethodName)) := own_wd 77 rfl
theorem wd_78 : WD (Jvm.Cond.initialized "java/lang/StringLatin1") := own_wd 78 rfl
theorem wd_79 : WD (Jvm.Cond.code ({ cls := "java/lang/StringLatin1", name := "canEncode", desc := "(C)Z" } : Jvm.MethodName) jdk_43_method_3_code (1 : Nat) (Option.some Jvm.ClassFile.FieldType.boolean)) := own_wd 79 rfl
theorem wd_80 : WD (Jvm.Cond.classLink kc2 (10 : Nat) kc2) := own_wd 80 rfl
theorem wd_81 : WD (Jvm.Cond.methodLink kc2 (1018 : Nat) ({ cls := "java/lang/StringLatin1", name := "toBytes", desc := "(C)[B" } : Jvm.MethodName)) := own_wd 81 rfl
theorem wd_82 : WD (Jvm.Cond.static ({ cls := "java/lang/StringLatin1", name := "toBytes", desc := "(C)[B" } : Jvm.MethodName)) := own_wd 82 rfl
theorem wd_83 : WD (Jvm.Cond.code ({ cls := "java/lang/StringLatin1", name := "toBytes", desc := "(C)[B" } : Jvm.MethodName) jdk_43_method_46_code (1 : Nat) (Option.some (Jvm.ClassFile.FieldType.array Jvm.ClassFile.FieldType.byte))) := own_wd 83 rfl
theorem wd_84 : WD (Jvm.Cond.methodLink kc2 (209 : Nat) ({ cls := kc2, name := "<init>", desc := "([BB)V" } : Jvm.MethodName)) := own_wd 84 rfl
theorem wd_85 : WD (Jvm.Cond.instanceMethod ({ cls := kc2, name := "<init>", desc := "([BB)V" } : Jvm.MethodName)) := own_wd 85 rfl
theorem wd_86 : WD (Jvm.Cond.code ({ cls := kc2, name := "<init>", desc := "([BB)V" } : Jvm.MethodName) jdk_42_method_151_code (3 : Nat) (Option.none : Option Jvm.ClassFile.FieldType)) := own_wd 86 rfl
theorem wd_87 : WD (Jvm.Cond.methodLink "com/example/ringfence/ringfence/gate/MeasuresSetPinLaw" (43 : Nat) ({ cls := kc2, name := "equals", desc := "(Ljava/lang/Object;)Z" } : Jvm.MethodName)) := own_wd 87 rfl
theorem wd_88 : WD (Jvm.Cond.declares ({ cls := kc2, name := "equals", desc := "(Ljava/lang/Object;)Z" } : Jvm.MethodName)) := own_wd 88 rfl
theorem wd_89 : WD (Jvm.Cond.instanceMethod ({ cls := kc2, name := "equals", desc := "(Ljava/lang/Object;)Z" } : Jvm.MethodName)) := own_wd 89 rfl
theorem wd_90 : WD (Jvm.Cond.selects kc2 ({ cls := kc2, name := "equals", desc := "(Ljava/lang/Object;)Z" } : Jvm.MethodName) ({ cls := kc2, name := "equals", desc := "(Ljava/lang/Object;)Z" } : Jvm.MethodName)) := own_wd 90 rfl
theorem wd_91 : WD (Jvm.Cond.code ({ cls := kc2, name := "equals", desc := "(Ljava/lang/Object;)Z" } : Jvm.MethodName) jdk_42_method_66_code (3 : Nat) (Option.some Jvm.ClassFile.FieldType.boolean)) := own_wd 91 rfl
theorem ef_m14_2 (m : MethodId) (p0 : Int32)  : entryFrame m #[(.int p0)] 1 = mkF m 0 #[.val (.int p0)] [] := by first | (simp [entryFrame, mkF, argsToLocals, Value.category]; done) | rfl
def Q_m14_2 (Z : State) (p0 : Int32) (h0 : Heap) (n0 : Nat) (v : Option Value) (h : Heap) (L : List Loc) : Prop := v = some (.int (1 : Int32)) ∧ Fr n0 L ∧ h = h0
theorem rm_m14_2 (l : Launch) (Z : State) (aZ : Array Value) (hw : ∀ d ∈ tables_1, d.before aZ Z = true) (ws : List Jvm.Cond) (p0 : Int32) (h0 : Heap) (n0 : Nat) (Z0 : n0 ≤ h0.size) (hP_0 : ¬ ((255 : Int32) < p0)) :
    MetN l Z yn_14 jdk_43_method_3_code 1 (some .boolean) ws ({ frames := 0, cells := 0, slots := 0, locals := 0 } : Room) #[(.int p0)] h0 (Q_m14_2 Z p0 h0 n0) := by
 refine MetN.of (plainFor_of_name pn_0) ?_
 intro p e s m below meth c s₁ hret hx hby hml hown hnm hlk hZ X0 e0
 have N0 := Fr.nil n0
 rw [ef_m14_2 m p0]
 refine w_iloadN X0 hx (d14_0 hby) rfl (pc' := 1) rfl ?_
 refine w_sipush X0 hx (d14_1 hby) (v := (255 : Int32)) rfl (pc' := 4) rfl ?_
 refine w_icN X0 hx (d14_4 hby) (flt hP_0).2.2.1 (pc' := 7) rfl ?_
 refine w_iconst X0 hx (d14_7 hby) (v := (1 : Int32)) rfl (pc' := 8) rfl ?_
 refine w_goto X0 hx (d14_8 hby) (pc' := 12) (by decide) (by decide) ?_
 exact w_done X0 hlk (v := some (.int (1 : Int32))) e0 (fun h => by rw [hret] at h; cases h) (fun fs hr => retN X0 hx (t := .boolean) hret (by simp) (d14_12 hby) hr) (by decide) (by decide) (⟨rfl, N0, rfl⟩)
theorem ef_m15_3 (m : MethodId) (p0 : Int32)  : entryFrame m #[(.int p0)] 1 = mkF m 0 #[.val (.int p0)] [] := by first | (simp [entryFrame, mkF, argsToLocals, Value.category]; done) | rfl
def Q_m15_3 (Z : State) (p0 : Int32) (h0 : Heap) (n0 : Nat) (v : Option Value) (h : Heap) (L : List Loc) : Prop := ∃ (r0 : Addr) (c0 : ClassId), v = some (.ref r0) ∧ Fr n0 L ∧ Keep h0 h [] ∧ h0.size ≤ r0 ∧ Arv Z h r0 c0 .byte (1 : Int32) [(.int (p0.toInt8.toInt32))] (.int (0 : Int32))
theorem rm_m15_3 (l : Launch) (Z : State) (aZ : Array Value) (hw : ∀ d ∈ tables_1, d.before aZ Z = true) (ws : List Jvm.Cond) (p0 : Int32) (h0 : Heap) (n0 : Nat) (Z0 : n0 ≤ h0.size) :
    MetN l Z yn_15 jdk_43_method_46_code 1 (some (.array .byte)) ws ({ frames := 0, cells := 1, slots := 1, locals := 0 } : Room) #[(.int p0)] h0 (Q_m15_3 Z p0 h0 n0) := by
 refine MetN.of (plainFor_of_name pn_0) ?_
 intro p e s m below meth c s₁ hret hx hby hml hown hnm hlk hZ X0 e0
 have N0 := Fr.nil n0
 rw [ef_m15_3 m p0]
 refine w_iconst X0 hx (d15_0 hby) (v := (1 : Int32)) rfl (pc' := 1) rfl ?_
 refine w_newP X0 hx .byte .byte 1 rfl hZ (wd_62 hw) e0 (d15_1 hby) (by decide) (by decide) (by decide) (by decide) (by decide) (pc' := 3) rfl ?_
 intro T20 h20 k20 b20 X20 e20 E20 g20 A20
 have ge21 : n0 ≤ b20 := Nat.le_trans Z0 (Nat.le_of_eq g20.symm)
 have sz22 : h0.size ≤ b20 := Nat.le_trans (Nat.le_refl _) (Nat.le_of_eq g20.symm)
 have K23 : Keep h0 h20 [] := (Keep.refl h0 []).ext E20
 have V24 : Arv Z h20 b20 k20 .byte (1 : Int32) [(.int (0 : Int32))] (.int (0 : Int32)) := (Arv.new A20 (by decide)).pad (pad_rep [] (.int (0 : Int32)) 1)
 refine w_dup X20 hx (d15_3 hby) rfl (pc' := 4) rfl ?_
 refine w_iconst X20 hx (d15_4 hby) (v := (0 : Int32)) rfl (pc' := 5) rfl ?_
 refine w_iloadN X20 hx (d15_5 hby) rfl (pc' := 6) rfl ?_
 refine w_i2b X20 hx (d15_6 hby) (pc' := 7) rfl ?_
 obtain ⟨clu25, Aru25, qu25, Su25, Nu25, Hu25, Gu25⟩ := id V24
 have hinu25 := inb_of (j := (0 : Int32)) Su25 ⟨by decide, by decide⟩
 refine w_stB X20 hx hZ e20 Aru25 hinu25 (d15_7 hby) (pc' := 8) rfl ?_
 intro T26 h26 X26 e26 W26
 have V27 : Arv Z h26 b20 k20 .byte (1 : Int32) [(.int (nar .byte (p0.toInt8.toInt32)))] (.int (0 : Int32)) := Arv.set Aru25 qu25 Su25 Nu25 Hu25 Gu25 (fits_nar_byte _) W26 0 rfl (Nat.le_of_ble_eq_true rfl)
 have V28 : Arv Z h26 b20 k20 .byte (1 : Int32) [(.int (p0.toInt8.toInt32))] (.int (0 : Int32)) := by rw [nar_b] at V27; exact V27
 have K29 : Keep h0 h26 [] := K23.wr W26 (Or.inr sz22)
 have N30 := Fr.snoc X26 N0 ge21
 exact w_done X26 hlk (v := some (.ref b20)) e26 (fun h => by rw [hret] at h; cases h) (fun fs hr => retOut X26 hx hret rfl (Or.inr (Or.inr (Or.inr (Or.inr ⟨rfl, rfl, rfl⟩)))) (d15_8 hby) hr) (by decide) (by decide) (⟨b20, k20, rfl, N30, K29, sz22, V28⟩)
theorem ef_m16_4 (m : MethodId) (a0 : Addr) (a1 : Addr)  : entryFrame m #[(.ref a0), (.ref a1), (.int (0 : Int32))] 3 = mkF m 0 #[.val (.ref a0), .val (.ref a1), .val (.int (0 : Int32))] [] := by first | (simp [entryFrame, mkF, argsToLocals, Value.category]; done) | rfl
def Q_m16_4 (Z : State) (a0 : Addr) (a1 : Addr) (h0 : Heap) (n0 : Nat) (v : Option Value) (h : Heap) (L : List Loc) : Prop := v = none ∧ Fr n0 L ∧ Keep h0 h [a0] ∧ Exa Z h a0 kc2 ∧ Fld Z h a0 kc2 "value" "[B" (.ref a1) ∧ Fld Z h a0 kc2 "coder" "B" (.int (0 : Int32))
theorem rm_m16_4 (l : Launch) (Z : State) (aZ : Array Value) (hw : ∀ d ∈ tables_1, d.before aZ Z = true) (ws : List Jvm.Cond) (a0 : Addr) (a1 : Addr) (h0 : Heap) (n0 : Nat) (Z0 : n0 ≤ h0.size) (E_a0 : Exa Z h0 a0 kc2) (zz0 : Fld Z h0 a0 kc2 "value" "[B" .null) (zz1 : n0 ≤ a0) (zz2 : Fld Z h0 a0 kc2 "coder" "B" (.int (0 : Int32))) :
    MetN l Z yn_16 jdk_42_method_151_code 3 none ws ({ frames := 1, cells := 0, slots := 0, locals := 12 } : Room) #[(.ref a0), (.ref a1), (.int (0 : Int32))] h0 (Q_m16_4 Z a0 a1 h0 n0) := by
 refine MetN.of (plainFor_of_name pn_1) ?_
 intro p e s m below meth c s₁ hret hx hby hml hown hnm hlk hZ X0 e0
 have N0 := Fr.nil n0
 rw [ef_m16_4 m a0 a1]
 refine w_aloadN X0 hx (d16_0 hby) rfl rfl (pc' := 1) rfl ?_
 refine w_initO X0 hx 0 hZ hown (wd_56 hw) (wd_7 hw) (wd_8 hw) e0 (by rw [hml]; rfl) (d16_1 hby) (by decide) (Nat.le_of_eq rfl) (by decide) (pc' := 4) rfl ?_
 intro T20 X20 e20
 refine w_aloadN X20 hx (d16_4 hby) rfl rfl (pc' := 5) rfl ?_
 refine w_aloadN X20 hx (d16_5 hby) rfl rfl (pc' := 6) rfl ?_
 refine w_putF X20 hx "" hZ hown (Or.inl (wd_71 hw)) Via.refl e20 zz0 E_a0 (Or.inr ⟨(wd_72 hw), rfl, hnm⟩) (wd_47 hw) (ty := (.array .byte)) (by decide) rfl rfl (d16_6 hby) (pc' := 9) rfl ?_
 intro T21 h21 X21 e21 W21
 have f22 : Fld Z h21 a0 kc2 "value" "[B" (.ref a1) := zz0.same W21
 have K23 : Keep h0 h21 [a0] := (Keep.refl h0 [a0]).wr W21 (Or.inl (by simp))
 have N24 := Fr.snoc X21 N0 zz1
 refine w_aloadN X21 hx (d16_9 hby) rfl rfl (pc' := 10) rfl ?_
 refine w_iloadN X21 hx (d16_10 hby) rfl (pc' := 11) rfl ?_
 have f25 : Exa Z h21 a0 kc2 := (E_a0.wr W21)
 have f26 : Fld Z h21 a0 kc2 "coder" "B" (.int (0 : Int32)) := (zz2.other W21 (Or.inr (slot_ne (Or.inr (wd_70 hw)) (Or.inr (wd_72 hw)) (by decide) (t := .byte) (t' := (.array .byte)) (by decide) (by decide))))
 refine w_putF X21 hx "" hZ hown (Or.inl (wd_69 hw)) Via.refl e21 f26 f25 (Or.inr ⟨(wd_70 hw), rfl, hnm⟩) (wd_47 hw) (ty := .byte) (by decide) rfl rfl (d16_11 hby) (pc' := 14) rfl ?_
 intro T27 h27 X27 e27 W27
 have f28 : Fld Z h27 a0 kc2 "coder" "B" (.int (0 : Int32)) := f26.same W27
 have K29 : Keep h0 h27 [a0] := K23.wr W27 (Or.inl (by simp))
 have N30 := Fr.snoc X27 N24 zz1
 have f31 : Exa Z h27 a0 kc2 := (f25.wr W27)
 have f32 : Fld Z h27 a0 kc2 "value" "[B" (.ref a1) := (f22.other W27 (Or.inr (slot_ne (Or.inr (wd_72 hw)) (Or.inr (wd_70 hw)) (by decide) (t := (.array .byte)) (t' := .byte) (by decide) (by decide))))
 exact w_done X27 hlk (v := none) e27 (fun _ => rfl) (fun fs hr => X27.returnOut hx hret (d16_14 hby) hr) (by decide) (by decide) (⟨rfl, N30, K29, f31, f32, f28⟩)
theorem ef_m13_1 (m : MethodId) (p0 : Int32)  : entryFrame m #[(.int p0)] 1 = mkF m 0 #[.val (.int p0)] [] := by first | (simp [entryFrame, mkF, argsToLocals, Value.category]; done) | rfl
def Q_m13_1 (Z : State) (p0 : Int32) (jj0 : Int32) (h0 : Heap) (n0 : Nat) (v : Option Value) (h : Heap) (L : List Loc) : Prop := ∃ (r0 : Addr) (r1 : Addr) (c0 : ClassId), v = some (.ref r0) ∧ Fr n0 L ∧ Keep h0 h [] ∧ h0.size ≤ r0 ∧ h0.size ≤ r1 ∧ Exa Z h r0 kc2 ∧ Fld Z h r0 kc2 "coder" "B" (.int (0 : Int32)) ∧ Fld Z h r0 kc2 "value" "[B" (.ref r1) ∧ Arv Z h r1 c0 .byte (1 : Int32) [(.int (p0.toInt8.toInt32))] (.int (0 : Int32))
theorem rm_m13_1 (l : Launch) (Z : State) (aZ : Array Value) (hw : ∀ d ∈ tables_1, d.before aZ Z = true) (ws : List Jvm.Cond) (p0 : Int32) (jj0 : Int32) (h0 : Heap) (n0 : Nat) (Z0 : n0 ≤ h0.size) (zz1 : Sta Z Z.heap kc2 "COMPACT_STRINGS" "Z" (.int jj0)) (O0 : Old Z n0 h0) (hP_2 : ¬ (jj0 = (0 : Int32))) (hP_3 : ¬ ((255 : Int32) < p0)) :
    MetN l Z yn_13 jdk_42_method_139_code 1 (some (.object kc2)) ws ({ frames := 2, cells := 2, slots := 5, locals := 27 } : Room) #[(.int p0)] h0 (Q_m13_1 Z p0 jj0 h0 n0) := by
 refine MetN.of (plainFor_of_name pn_1) ?_
 intro p e s m below meth c s₁ hret hx hby hml hown hnm hlk hZ X0 e0
 have N0 := Fr.nil n0
 rw [ef_m13_1 m p0]
 refine w_getS X0 hx "" hZ hown (Or.inl (wd_57 hw)) Via.refl e0 (zz1.ext O0.2) (d13_0 hby) (pc' := 3) rfl ?_
 intro T20 X20 e20
 refine w_ifN X20 hx (d13_3 hby) (feq hP_2).1 (pc' := 6) rfl ?_
 refine w_iloadN X20 hx (d13_6 hby) rfl (pc' := 7) rfl ?_
 refine w_static X20 hx (y := yn_14) hown (mvT hZ (wd_76 hw)) (mvT hZ (wd_77 hw)) (mvT hZ (wd_78 hw)) (mvT hZ (wd_79 hw)) (by decide) (backOf (W := 0) (rm_m14_2 l Z aZ hw [] p0 h0 n0 Z0 hP_3) hZ (wd_79 hw) (wd_78 hw) (by decide) (by decide)) (by rw [hml]; rfl) [(.int p0)] (lenOf pd_1 rfl) rfl (Nat.le_of_eq rfl) (d13_7 hby) (fun _ _ => ⟨rfl, e20, (by decide : 0 + 0 ≤ _), (by decide : 0 + 0 ≤ _)⟩) (pc' := 10) rfl ?_
 rintro _ _ ⟨T21, L21, k21, n21⟩ X21 ⟨Lc21, hQ21, l21, y21, z21⟩
 dsimp only [Pt.U, Pt.locs, Pt.cells, Pt.slots] at X21 l21 y21 z21 hQ21 ⊢
 subst l21 y21 z21
 obtain ⟨rfl, N21q, e21⟩ := hQ21
 have N22 := Fr.app N0 N21q
 show Runs _ _ _ _ (T21.setTop (mkF m 10 #[.val (.int p0)] [(.int (1 : Int32))]))
 refine w_ifN X21 hx (d13_10 hby) (feq (by decide : ¬ ((1 : Int32) = (0 : Int32)))).1 (pc' := 13) rfl ?_
 refine w_new X21 hx hZ hown (wd_80 hw) (wd_47 hw) (wd_48 hw) e21 (d13_13 hby) (by decide) (by decide) (pc' := 16) rfl ?_
 intro T23 h23 b23 X23 e23 E23 g23 A23 D23
 have ge24 : n0 ≤ b23 := Nat.le_trans Z0 (Nat.le_of_eq g23.symm)
 have sz25 : h0.size ≤ b23 := Nat.le_trans (Nat.le_refl _) (Nat.le_of_eq g23.symm)
 have K26 : Keep h0 h23 [] := (Keep.refl h0 []).ext E23
 have f27 : Fld Z h23 b23 kc2 "coder" "B" (.int (0 : Int32)) := D23 (Or.inr (wd_70 hw)) (ty := .byte) (by decide)
 have f28 : Fld Z h23 b23 kc2 "value" "[B" .null := D23 (Or.inr (wd_72 hw)) (ty := (.array .byte)) (by decide)
 refine w_dup X23 hx (d13_16 hby) rfl (pc' := 17) rfl ?_
 refine w_iloadN X23 hx (d13_17 hby) rfl (pc' := 18) rfl ?_
 refine w_static X23 hx (y := yn_15) hown (mvT hZ (wd_81 hw)) (mvT hZ (wd_82 hw)) (mvT hZ (wd_78 hw)) (mvT hZ (wd_83 hw)) (by decide) (backOf (W := 2) (rm_m15_3 l Z aZ hw [] p0 h23 n0 (Nat.le_trans Z0 E23.1) ) hZ (wd_83 hw) (wd_78 hw) (by decide) (by decide)) (by rw [hml]; rfl) [(.int p0)] (lenOf pd_2 rfl) rfl (Nat.le_of_eq rfl) (d13_18 hby) (fun _ _ => ⟨rfl, e23, (by decide : 1 + 1 ≤ _), (by decide : 4 + 1 ≤ _)⟩) (pc' := 21) rfl ?_
 rintro _ _ ⟨T29, L29, k29, n29⟩ X29 ⟨Lc29, hQ29, l29, y29, z29⟩
 dsimp only [Pt.U, Pt.locs, Pt.cells, Pt.slots] at X29 l29 y29 z29 hQ29 ⊢
 subst l29 y29 z29
 obtain ⟨r0_29, c0_29, rfl, N29q, K29, g29_0, g29_1⟩ := hQ29
 have N30 := Fr.app N22 N29q
 have K31 : Keep h0 T29.heap [] := K26.trans K29 (all0 (P := fun x => x ∈ [] ∨ h0.size ≤ x))
 have ge32 : n0 ≤ r0_29 := Nat.le_trans (Nat.le_trans Z0 E23.1) g29_0
 have sz33 : h0.size ≤ r0_29 := Nat.le_trans E23.1 g29_0
 show Runs _ _ _ _ (T29.setTop (mkF m 21 #[.val (.int p0)] [(.ref r0_29), (.ref b23), (.ref b23)]))
 refine w_iconst X29 hx (d13_21 hby) (v := (0 : Int32)) rfl (pc' := 22) rfl ?_
 have f34 : Exa Z T29.heap b23 kc2 := (A23.keep K29)
 have f35 : Fld Z T29.heap b23 kc2 "value" "[B" .null := (f28.keep K29 nin0)
 have f36 : Fld Z T29.heap b23 kc2 "coder" "B" (.int (0 : Int32)) := (f27.keep K29 nin0)
 have le37 : h0.size ≤ T29.heap.size := (Nat.le_trans E23.1 K29.1)
 refine w_special X29 hx (y := yn_16) rfl hown (mvT hZ (wd_84 hw)) (mvT hZ (wd_85 hw)) (mvT hZ (wd_86 hw)) (by decide) (backOf (W := 1) (rm_m16_4 l Z aZ hw [] b23 r0_29 T29.heap n0 (Nat.le_trans Z0 le37) f34 f35 ge24 f36) hZ (wd_86 hw) (wd_48 hw) (by decide) (by decide)) (by rw [hml]; rfl) [(.ref r0_29), (.int (0 : Int32))] (lenOf pd_3 rfl) rfl (Nat.le_of_eq rfl) (d13_22 hby) (fun _ _ => ⟨rfl, rfl, (by decide : 2 + 0 ≤ _), (by decide : 5 + 0 ≤ _)⟩) (pc' := 25) rfl ?_
 rintro _ _ ⟨T38, L38, k38, n38⟩ X38 ⟨Lc38, hQ38, l38, y38, z38⟩
 dsimp only [Pt.U, Pt.locs, Pt.cells, Pt.slots] at X38 l38 y38 z38 hQ38 ⊢
 subst l38 y38 z38
 obtain ⟨rfl, N38q, K38, g38_0, g38_1, g38_2⟩ := hQ38
 have N39 := Fr.app N30 N38q
 have K40 : Keep h0 T38.heap [] := K31.trans K38 (allS (Or.inr sz25) (all0 (P := fun x => x ∈ [] ∨ h0.size ≤ x)))
 show Runs _ _ _ _ (T38.setTop (mkF m 25 #[.val (.int p0)] [(.ref b23)]))
 have ne41 : b23 ≠ r0_29 := (Nat.ne_of_lt (Nat.lt_of_lt_of_le A23.lt (Nat.le_trans (Nat.le_refl _) g29_0)))
 have f42 : Arv Z T38.heap r0_29 c0_29 .byte (1 : Int32) [(.int (p0.toInt8.toInt32))] (.int (0 : Int32)) := (g29_1.keep K38 (ninS (Ne.symm ne41) nin0))
 exact w_done X38 hlk (v := some (.ref b23)) rfl (fun h => by rw [hret] at h; cases h) (fun fs hr => retOut X38 hx hret rfl (Or.inr (Or.inr (Or.inr (Or.inr ⟨rfl, rfl, rfl⟩)))) (d13_25 hby) hr) (by decide) (by decide) (⟨b23, r0_29, c0_29, rfl, N39, K40, sz25, sz33, g38_0, g38_2, g38_1, f42⟩)
theorem ef_drawn (m : MethodId) (p0 : Int32)  : entryFrame m #[(.int p0)] 4 = mkF m 0 #[.val (.int p0), .unset, .unset, .unset] [] := by first | (simp [entryFrame, mkF, argsToLocals, Value.category]; done) | rfl
def Q_drawn (Z : State) (p0 : Int32) (jj0 : Int32) (h0 : Heap) (n0 : Nat) (v : Option Value) (h : Heap) (L : List Loc) : Prop := ∃ (r : Addr), v = some (.ref r) ∧ Fr n0 L ∧ Keep h0 h [] ∧ h0.size ≤ r ∧ Exa Z h r kc2
theorem rm_drawn (l : Launch) (Z : State) (aZ : Array Value) (hw : ∀ d ∈ tables_1, d.before aZ Z = true) (ws : List Jvm.Cond) (p0 : Int32) (jj0 : Int32) (h0 : Heap) (n0 : Nat) (Z0 : n0 ≤ h0.size) (zz1 : Sta Z Z.heap kc2 "COMPACT_STRINGS" "Z" (.int jj0)) (O0 : Old Z n0 h0) (hP_2 : ¬ (jj0 = (0 : Int32))) :
    MetN l Z yn_7 method_3_code 4 (some (.object kc2)) ws ({ frames := 4, cells := 3, slots := 8, locals := 66 } : Room) #[(.int p0)] h0 (Q_drawn Z p0 jj0 h0 n0) := by
 refine MetN.of (plainFor_of_name pn_2) ?_
 intro p e s m below meth c s₁ hret hx hby hml hown hnm hlk hZ X0 e0
 have N0 := Fr.nil n0
 rw [ef_drawn m p0]
 refine w_iloadN X0 hx (d7_0 hby) rfl (pc' := 1) rfl ?_
 refine w_sipush X0 hx (d7_1 hby) (v := (255 : Int32)) rfl (pc' := 4) rfl ?_
 refine w_iand X0 hx (d7_4 hby) (pc' := 5) rfl ?_
 refine w_i2c X0 hx (d7_5 hby) (pc' := 6) rfl ?_
 refine w_istoreN X0 hx (d7_6 hby) (L' := #[.val (.int p0), .val (.int ((p0 &&& (255 : Int32)).toUInt32.toUInt16.toUInt32.toInt32)), .unset, .unset]) rfl (pc' := 7) rfl ?_
 refine w_iloadN X0 hx (d7_7 hby) rfl (pc' := 8) rfl ?_
 refine w_bipush X0 hx (d7_8 hby) (v := (8 : Int32)) rfl (pc' := 10) rfl ?_
 refine w_iushr X0 hx (d7_10 hby) (pc' := 11) rfl ?_
 refine w_sipush X0 hx (d7_11 hby) (v := (255 : Int32)) rfl (pc' := 14) rfl ?_
 refine w_iand X0 hx (d7_14 hby) (pc' := 15) rfl ?_
 refine w_i2c X0 hx (d7_15 hby) (pc' := 16) rfl ?_
 refine w_istoreN X0 hx (d7_16 hby) (L' := #[.val (.int p0), .val (.int ((p0 &&& (255 : Int32)).toUInt32.toUInt16.toUInt32.toInt32)), .val (.int ((((p0.toUInt32 >>> ((8 : Int32) &&& 31).toUInt32).toInt32) &&& (255 : Int32)).toUInt32.toUInt16.toUInt32.toInt32)), .unset]) rfl (pc' := 17) rfl ?_
 refine w_iloadN X0 hx (d7_17 hby) rfl (pc' := 18) rfl ?_
 refine w_bipush X0 hx (d7_18 hby) (v := (16 : Int32)) rfl (pc' := 20) rfl ?_
 refine w_iushr X0 hx (d7_20 hby) (pc' := 21) rfl ?_
 refine w_iconst X0 hx (d7_21 hby) (v := (1 : Int32)) rfl (pc' := 22) rfl ?_
 refine w_iand X0 hx (d7_22 hby) (pc' := 23) rfl ?_
 by_cases hc20 : (((p0.toUInt32 >>> ((16 : Int32) &&& 31).toUInt32).toInt32) &&& (1 : Int32)) = (0 : Int32)
 · refine w_ifY X0 hx (d7_23 hby) (teq hc20).1 (pc' := 31) (by decide) (by decide) ?_
   refine w_iconst X0 hx (d7_31 hby) (v := (2 : Int32)) rfl (pc' := 32) rfl ?_
   refine w_newP X0 hx .char .char 2 rfl hZ (wd_45 hw) e0 (d7_32 hby) (by decide) (by decide) (by decide) (by decide) (by decide) (pc' := 34) rfl ?_
   intro T21 h21 k21 b21 X21 e21 E21 g21 A21
   have ge22 : n0 ≤ b21 := Nat.le_trans Z0 (Nat.le_of_eq g21.symm)
   have sz23 : h0.size ≤ b21 := Nat.le_trans (Nat.le_refl _) (Nat.le_of_eq g21.symm)
   have K24 : Keep h0 h21 [] := (Keep.refl h0 []).ext E21
   have V25 : Arv Z h21 b21 k21 .char (2 : Int32) [(.int (0 : Int32)), (.int (0 : Int32))] (.int (0 : Int32)) := (Arv.new A21 (by decide)).pad (pad_rep [] (.int (0 : Int32)) 2)
   refine w_dup X21 hx (d7_34 hby) rfl (pc' := 35) rfl ?_
   refine w_iconst X21 hx (d7_35 hby) (v := (0 : Int32)) rfl (pc' := 36) rfl ?_
   refine w_iloadN X21 hx (d7_36 hby) rfl (pc' := 37) rfl ?_
   obtain ⟨clu26, Aru26, qu26, Su26, Nu26, Hu26, Gu26⟩ := id V25
   have hinu26 := inb_of (j := (0 : Int32)) Su26 ⟨by decide, by decide⟩
   refine w_stC X21 hx hZ e21 Aru26 hinu26 (d7_37 hby) (pc' := 38) rfl ?_
   intro T27 h27 X27 e27 W27
   have V28 : Arv Z h27 b21 k21 .char (2 : Int32) [(.int (nar .char ((p0 &&& (255 : Int32)).toUInt32.toUInt16.toUInt32.toInt32))), (.int (0 : Int32))] (.int (0 : Int32)) := Arv.set Aru26 qu26 Su26 Nu26 Hu26 Gu26 (fits_nar_char _) W27 0 rfl (Nat.le_of_ble_eq_true rfl)
   have V29 : Arv Z h27 b21 k21 .char (2 : Int32) [(.int ((p0 &&& (255 : Int32)).toUInt32.toUInt16.toUInt32.toInt32)), (.int (0 : Int32))] (.int (0 : Int32)) := by rw [nar_c] at V28; exact V28
   have K30 : Keep h0 h27 [] := K24.wr W27 (Or.inr sz23)
   have N31 := Fr.snoc X27 N0 ge22
   refine w_dup X27 hx (d7_38 hby) rfl (pc' := 39) rfl ?_
   refine w_iconst X27 hx (d7_39 hby) (v := (1 : Int32)) rfl (pc' := 40) rfl ?_
   refine w_iloadN X27 hx (d7_40 hby) rfl (pc' := 41) rfl ?_
   obtain ⟨clu32, Aru32, qu32, Su32, Nu32, Hu32, Gu32⟩ := id V29
   have hinu32 := inb_of (j := (1 : Int32)) Su32 ⟨by decide, by decide⟩
   refine w_stC X27 hx hZ e27 Aru32 hinu32 (d7_41 hby) (pc' := 42) rfl ?_
   intro T33 h33 X33 e33 W33
   have V34 : Arv Z h33 b21 k21 .char (2 : Int32) [(.int ((p0 &&& (255 : Int32)).toUInt32.toUInt16.toUInt32.toInt32)), (.int (nar .char ((((p0.toUInt32 >>> ((8 : Int32) &&& 31).toUInt32).toInt32) &&& (255 : Int32)).toUInt32.toUInt16.toUInt32.toInt32)))] (.int (0 : Int32)) := Arv.set Aru32 qu32 Su32 Nu32 Hu32 Gu32 (fits_nar_char _) W33 1 rfl (Nat.le_of_ble_eq_true rfl)
   have V35 : Arv Z h33 b21 k21 .char (2 : Int32) [(.int ((p0 &&& (255 : Int32)).toUInt32.toUInt16.toUInt32.toInt32)), (.int ((((p0.toUInt32 >>> ((8 : Int32) &&& 31).toUInt32).toInt32) &&& (255 : Int32)).toUInt32.toUInt16.toUInt32.toInt32))] (.int (0 : Int32)) := by rw [nar_c] at V34; exact V34
   have K36 : Keep h0 h33 [] := K30.wr W33 (Or.inr sz23)
   have N37 := Fr.snoc X33 N31 ge22
   refine w_astoreN X33 hx (d7_42 hby) rfl (L' := #[.val (.int p0), .val (.int ((p0 &&& (255 : Int32)).toUInt32.toUInt16.toUInt32.toInt32)), .val (.int ((((p0.toUInt32 >>> ((8 : Int32) &&& 31).toUInt32).toInt32) &&& (255 : Int32)).toUInt32.toUInt16.toUInt32.toInt32)), .val (.ref b21)]) rfl (pc' := 43) rfl ?_
   refine w_new X33 hx hZ hown (wd_46 hw) (wd_47 hw) (wd_48 hw) e33 (d7_43 hby) (by decide) (by decide) (pc' := 46) rfl ?_
   intro T38 h38 b38 X38 e38 E38 g38 A38 D38
   have le40 : h0.size ≤ h27.size := (Nat.le_trans E21.1 (Keep.of_wr W27).1)
   have le41 : h0.size ≤ h33.size := (Nat.le_trans le40 (Keep.of_wr W33).1)
   have ge39 : n0 ≤ b38 := Nat.le_trans (Nat.le_trans Z0 le41) (Nat.le_of_eq g38.symm)
   have sz42 : h0.size ≤ b38 := Nat.le_trans le41 (Nat.le_of_eq g38.symm)
   have K43 : Keep h0 h38 [] := K36.ext E38
   have f44 : Fld Z h38 b38 kc2 "coder" "B" (.int (0 : Int32)) := D38 (Or.inr (wd_70 hw)) (ty := .byte) (by decide)
   have f45 : Fld Z h38 b38 kc2 "value" "[B" .null := D38 (Or.inr (wd_72 hw)) (ty := (.array .byte)) (by decide)
   refine w_dup X38 hx (d7_46 hby) rfl (pc' := 47) rfl ?_
   refine w_aloadN X38 hx (d7_47 hby) rfl rfl (pc' := 48) rfl ?_
   have le46 : h0.size ≤ h38.size := (Nat.le_trans le41 E38.1)
   have f48 : Arv Z h38 b21 k21 .char (2 : Int32) [(.int ((p0 &&& (255 : Int32)).toUInt32.toUInt16.toUInt32.toInt32)), (.int ((((p0.toUInt32 >>> ((8 : Int32) &&& 31).toUInt32).toInt32) &&& (255 : Int32)).toUInt32.toUInt16.toUInt32.toInt32))] (.int (0 : Int32)) := (V35.ext E38)
   have f49 : Old Z n0 h38 := ((((O0.ext E21).wr W27 ge22).wr W33 ge22).ext E38)
   refine w_special X38 hx (y := yn_8) rfl hown (mvT hZ (wd_49 hw)) (mvT hZ (wd_50 hw)) (mvT hZ (wd_51 hw)) (by decide) (StrChars.Road.backV (W := 1) hZ (own_hws hw) (kI := 4) (wd_47 hw) (cs := ([((p0 &&& (255 : Int32)).toUInt32.toUInt16.toUInt32.toInt32), ((((p0.toUInt32 >>> ((8 : Int32) &&& 31).toUInt32).toInt32) &&& (255 : Int32)).toUInt32.toUInt16.toUInt32.toInt32)] : List Int32)) (bs := ([((p0 &&& (255 : Int32)).toUInt32.toUInt16.toUInt32.toInt32), ((((p0.toUInt32 >>> ((8 : Int32) &&& 31).toUInt32).toInt32) &&& (255 : Int32)).toUInt32.toUInt16.toUInt32.toInt32)] : List Int32).map (fun c => c.toInt8.toInt32)) (n := 2) ge39 (Nat.le_trans Z0 le46) A38 f45 f44 f48 (zz1.ext f49.2) hP_2 rfl rfl (by decide) (by decide) (List.forall_mem_cons.2 ⟨(own_and255 p0), (List.forall_mem_cons.2 ⟨(own_and255 ((p0.toUInt32 >>> ((8 : Int32) &&& 31).toUInt32).toInt32)), (fun _ h => nomatch h)⟩)⟩) rfl (by decide) (by decide)) (by rw [hml]; rfl) [(.ref b21)] (lenOf pd_0 rfl) rfl (Nat.le_of_eq rfl) (d7_48 hby) (fun _ _ => ⟨rfl, e38, (by decide : 2 + 1 ≤ _), (by decide : 6 + 2 ≤ _)⟩) (pc' := 51) rfl ?_
   rintro _ _ ⟨T47, L47, k47, n47⟩ X47 ⟨Lc47, hQ47, l47, y47, z47⟩
   dsimp only [Pt.U, Pt.locs, Pt.cells, Pt.slots] at X47 l47 y47 z47 hQ47 ⊢
   subst l47 y47 z47
   obtain ⟨rfl, N47q, K47, g47_0, g47_1, t_47, kb_47, g47_2, g47_3, g47_4, g47_5, g47_6⟩ := hQ47
   have N50 := Fr.app N37 N47q
   have K51 : Keep h0 T47.heap [] := K43.trans K47 (allS (Or.inr sz42) (all0 (P := fun x => x ∈ [] ∨ h0.size ≤ x)))
   have ge52 : n0 ≤ t_47 := Nat.le_trans (Nat.le_trans Z0 le46) g47_3
   have sz53 : h0.size ≤ t_47 := Nat.le_trans le46 g47_3
   show Runs _ _ _ _ (T47.setTop (mkF m 51 #[.val (.int p0), .val (.int ((p0 &&& (255 : Int32)).toUInt32.toUInt16.toUInt32.toInt32)), .val (.int ((((p0.toUInt32 >>> ((8 : Int32) &&& 31).toUInt32).toInt32) &&& (255 : Int32)).toUInt32.toUInt16.toUInt32.toInt32)), .val (.ref b21)] [(.ref b38)]))
   exact w_done X47 hlk (v := some (.ref b38)) rfl (fun h => by rw [hret] at h; cases h) (fun fs hr => retOut X47 hx hret rfl (Or.inr (Or.inr (Or.inr (Or.inr ⟨rfl, rfl, rfl⟩)))) (d7_51 hby) hr) (by decide) (by decide) (⟨b38, rfl, N50, K51, sz42, g47_0⟩)
 · refine w_ifN X0 hx (d7_23 hby) (feq hc20).1 (pc' := 26) rfl ?_
   refine w_iloadN X0 hx (d7_26 hby) rfl (pc' := 27) rfl ?_
   refine w_static X0 hx (y := yn_13) hown (mvT hZ (wd_73 hw)) (mvT hZ (wd_74 hw)) (mvT hZ (wd_48 hw)) (mvT hZ (wd_75 hw)) (by decide) (backOf (W := 0) (rm_m13_1 l Z aZ hw [] ((p0 &&& (255 : Int32)).toUInt32.toUInt16.toUInt32.toInt32) jj0 h0 n0 Z0 zz1 O0 hP_2 (own_and255 p0).2) hZ (wd_75 hw) (wd_48 hw) (by decide) (by decide)) (by rw [hml]; rfl) [(.int ((p0 &&& (255 : Int32)).toUInt32.toUInt16.toUInt32.toInt32))] (lenOf pd_4 rfl) rfl (Nat.le_of_eq rfl) (d7_27 hby) (fun _ _ => ⟨rfl, e0, (by decide : 0 + 2 ≤ _), (by decide : 0 + 5 ≤ _)⟩) (pc' := 30) rfl ?_
   rintro _ _ ⟨T54, L54, k54, n54⟩ X54 ⟨Lc54, hQ54, l54, y54, z54⟩
   dsimp only [Pt.U, Pt.locs, Pt.cells, Pt.slots] at X54 l54 y54 z54 hQ54 ⊢
   subst l54 y54 z54
   obtain ⟨r0_54, r1_54, c0_54, rfl, N54q, K54, g54_0, g54_1, g54_2, g54_3, g54_4, g54_5⟩ := hQ54
   have N55 := Fr.app N0 N54q
   have K56 : Keep h0 T54.heap [] := (Keep.refl h0 []).trans K54 (all0 (P := fun x => x ∈ [] ∨ h0.size ≤ x))
   have ge57 : n0 ≤ r0_54 := Nat.le_trans Z0 g54_0
   have sz58 : h0.size ≤ r0_54 := Nat.le_trans (Nat.le_refl _) g54_0
   have ge59 : n0 ≤ r1_54 := Nat.le_trans Z0 g54_1
   have sz60 : h0.size ≤ r1_54 := Nat.le_trans (Nat.le_refl _) g54_1
   show Runs _ _ _ _ (T54.setTop (mkF m 30 #[.val (.int p0), .val (.int ((p0 &&& (255 : Int32)).toUInt32.toUInt16.toUInt32.toInt32)), .val (.int ((((p0.toUInt32 >>> ((8 : Int32) &&& 31).toUInt32).toInt32) &&& (255 : Int32)).toUInt32.toUInt16.toUInt32.toInt32)), .unset] [(.ref r0_54)]))
   exact w_done X54 hlk (v := some (.ref r0_54)) rfl (fun h => by rw [hret] at h; cases h) (fun fs hr => retOut X54 hx hret rfl (Or.inr (Or.inr (Or.inr (Or.inr ⟨rfl, rfl, rfl⟩)))) (d7_30 hby) hr) (by decide) (by decide) (⟨r0_54, rfl, N55, K56, sz58, g54_2⟩)
theorem ef_m1_5 (m : MethodId) (a0 : Addr)  : entryFrame m #[(.ref a0), .null] 2 = mkF m 0 #[.val (.ref a0), .val .null] [] := by first | (simp [entryFrame, mkF, argsToLocals, Value.category]; done) | rfl
def Q_m1_5 (Z : State) (a0 : Addr) (jj0 : Addr) (h0 : Heap) (n0 : Nat) (v : Option Value) (h : Heap) (L : List Loc) : Prop := v = none ∧ Fr n0 L ∧ Keep h0 h [a0] ∧ Exa Z h a0 kc0 ∧ Fld Z h a0 kc0 "open" "Ljava/math/BigDecimal;" (.ref jj0) ∧ Fld Z h a0 kc0 "downside" "Ljava/math/BigDecimal;" (.ref jj0) ∧ Fld Z h a0 kc0 "upside" "Ljava/math/BigDecimal;" (.ref jj0) ∧ Fld Z h a0 kc0 "exposure" "Ljava/math/BigDecimal;" (.ref jj0) ∧ Fld Z h a0 kc0 "pool" "Lcom/example/ringfence/ringfence/gate/Pool;" .null ∧ Fld Z h a0 kc0 "unrated" "Ljava/lang/String;" .null
theorem rm_m1_5 (l : Launch) (Z : State) (aZ : Array Value) (hw : ∀ d ∈ tables_1, d.before aZ Z = true) (ws : List Jvm.Cond) (a0 : Addr) (jj0 : Addr) (h0 : Heap) (n0 : Nat) (Z0 : n0 ≤ h0.size) (zz1 : Sta Z Z.heap kc1 "ZERO" "Ljava/math/BigDecimal;" (.ref jj0)) (O0 : Old Z n0 h0) (E_a0 : Exa Z h0 a0 kc0) (zz2 : Fld Z h0 a0 kc0 "open" "Ljava/math/BigDecimal;" .null) (zz3 : n0 ≤ a0) (zz4 : Fld Z h0 a0 kc0 "downside" "Ljava/math/BigDecimal;" .null) (zz5 : Fld Z h0 a0 kc0 "upside" "Ljava/math/BigDecimal;" .null) (zz6 : Fld Z h0 a0 kc0 "exposure" "Ljava/math/BigDecimal;" .null) (zz7 : Fld Z h0 a0 kc0 "pool" "Lcom/example/ringfence/ringfence/gate/Pool;" .null) (zz8 : Fld Z h0 a0 kc0 "unrated" "Ljava/lang/String;" .null) :
    MetN l Z yn_1 prog_36_method_1_code 2 none ws ({ frames := 1, cells := 0, slots := 0, locals := 12 } : Room) #[(.ref a0), .null] h0 (Q_m1_5 Z a0 jj0 h0 n0) := by
 refine MetN.of (plainFor_of_name pn_3) ?_
 intro p e s m below meth c s₁ hret hx hby hml hown hnm hlk hZ X0 e0
 have N0 := Fr.nil n0
 rw [ef_m1_5 m a0]
 refine w_aloadN X0 hx (d1_0 hby) rfl rfl (pc' := 1) rfl ?_
 refine w_initO X0 hx 0 hZ hown (wd_6 hw) (wd_7 hw) (wd_8 hw) e0 (by rw [hml]; rfl) (d1_1 hby) (by decide) (Nat.le_of_eq rfl) (by decide) (pc' := 4) rfl ?_
 intro T20 X20 e20
 refine w_aloadN X20 hx (d1_4 hby) rfl rfl (pc' := 5) rfl ?_
 refine w_getS X20 hx "" hZ hown (Or.inl (wd_9 hw)) Via.refl e20 (zz1.ext O0.2) (d1_5 hby) (pc' := 8) rfl ?_
 intro T21 X21 e21
 refine w_putF X21 hx "" hZ hown (Or.inl (wd_11 hw)) Via.refl e21 zz2 E_a0 (Or.inl (wd_12 hw)) (wd_1 hw) (ty := (.object kc1)) (by decide) rfl rfl (d1_8 hby) (pc' := 11) rfl ?_
 intro T22 h22 X22 e22 W22
 have f23 : Fld Z h22 a0 kc0 "open" "Ljava/math/BigDecimal;" (.ref jj0) := zz2.same W22
 have K24 : Keep h0 h22 [a0] := (Keep.refl h0 [a0]).wr W22 (Or.inl (by simp))
 have N25 := Fr.snoc X22 N0 zz3
 refine w_aloadN X22 hx (d1_11 hby) rfl rfl (pc' := 12) rfl ?_
 have f26 : Old Z n0 h22 := (O0.wr W22 zz3)
 refine w_getS X22 hx "" hZ hown (Or.inl (wd_9 hw)) Via.refl e22 (zz1.ext f26.2) (d1_12 hby) (pc' := 15) rfl ?_
 intro T27 X27 e27
 have f28 : Exa Z h22 a0 kc0 := (E_a0.wr W22)
 have f29 : Fld Z h22 a0 kc0 "downside" "Ljava/math/BigDecimal;" .null := (zz4.other W22 (Or.inr (slot_ne (Or.inl (wd_14 hw)) (Or.inl (wd_12 hw)) (by decide) (t := (.object kc1)) (t' := (.object kc1)) (by decide) (by decide))))
 refine w_putF X27 hx "" hZ hown (Or.inl (wd_13 hw)) Via.refl e27 f29 f28 (Or.inl (wd_14 hw)) (wd_1 hw) (ty := (.object kc1)) (by decide) rfl rfl (d1_15 hby) (pc' := 18) rfl ?_
 intro T30 h30 X30 e30 W30
 have f31 : Fld Z h30 a0 kc0 "downside" "Ljava/math/BigDecimal;" (.ref jj0) := f29.same W30
 have K32 : Keep h0 h30 [a0] := K24.wr W30 (Or.inl (by simp))
 have N33 := Fr.snoc X30 N25 zz3
 refine w_aloadN X30 hx (d1_18 hby) rfl rfl (pc' := 19) rfl ?_
 have f34 : Old Z n0 h30 := (f26.wr W30 zz3)
 refine w_getS X30 hx "" hZ hown (Or.inl (wd_9 hw)) Via.refl e30 (zz1.ext f34.2) (d1_19 hby) (pc' := 22) rfl ?_
 intro T35 X35 e35
 have f36 : Exa Z h30 a0 kc0 := (f28.wr W30)
 have f37 : Fld Z h30 a0 kc0 "upside" "Ljava/math/BigDecimal;" .null := ((zz5.other W22 (Or.inr (slot_ne (Or.inl (wd_16 hw)) (Or.inl (wd_12 hw)) (by decide) (t := (.object kc1)) (t' := (.object kc1)) (by decide) (by decide)))).other W30 (Or.inr (slot_ne (Or.inl (wd_16 hw)) (Or.inl (wd_14 hw)) (by decide) (t := (.object kc1)) (t' := (.object kc1)) (by decide) (by decide))))
 refine w_putF X35 hx "" hZ hown (Or.inl (wd_15 hw)) Via.refl e35 f37 f36 (Or.inl (wd_16 hw)) (wd_1 hw) (ty := (.object kc1)) (by decide) rfl rfl (d1_22 hby) (pc' := 25) rfl ?_
 intro T38 h38 X38 e38 W38
 have f39 : Fld Z h38 a0 kc0 "upside" "Ljava/math/BigDecimal;" (.ref jj0) := f37.same W38
 have K40 : Keep h0 h38 [a0] := K32.wr W38 (Or.inl (by simp))
 have N41 := Fr.snoc X38 N33 zz3
 refine w_aloadN X38 hx (d1_25 hby) rfl rfl (pc' := 26) rfl ?_
 have f42 : Old Z n0 h38 := (f34.wr W38 zz3)
 refine w_getS X38 hx "" hZ hown (Or.inl (wd_9 hw)) Via.refl e38 (zz1.ext f42.2) (d1_26 hby) (pc' := 29) rfl ?_
 intro T43 X43 e43
 have f44 : Exa Z h38 a0 kc0 := (f36.wr W38)
 have f45 : Fld Z h38 a0 kc0 "exposure" "Ljava/math/BigDecimal;" .null := (((zz6.other W22 (Or.inr (slot_ne (Or.inl (wd_18 hw)) (Or.inl (wd_12 hw)) (by decide) (t := (.object kc1)) (t' := (.object kc1)) (by decide) (by decide)))).other W30 (Or.inr (slot_ne (Or.inl (wd_18 hw)) (Or.inl (wd_14 hw)) (by decide) (t := (.object kc1)) (t' := (.object kc1)) (by decide) (by decide)))).other W38 (Or.inr (slot_ne (Or.inl (wd_18 hw)) (Or.inl (wd_16 hw)) (by decide) (t := (.object kc1)) (t' := (.object kc1)) (by decide) (by decide))))
 refine w_putF X43 hx "" hZ hown (Or.inl (wd_17 hw)) Via.refl e43 f45 f44 (Or.inl (wd_18 hw)) (wd_1 hw) (ty := (.object kc1)) (by decide) rfl rfl (d1_29 hby) (pc' := 32) rfl ?_
 intro T46 h46 X46 e46 W46
 have f47 : Fld Z h46 a0 kc0 "exposure" "Ljava/math/BigDecimal;" (.ref jj0) := f45.same W46
 have K48 : Keep h0 h46 [a0] := K40.wr W46 (Or.inl (by simp))
 have N49 := Fr.snoc X46 N41 zz3
 refine w_aloadN X46 hx (d1_32 hby) rfl rfl (pc' := 33) rfl ?_
 refine w_aloadN X46 hx (d1_33 hby) rfl rfl (pc' := 34) rfl ?_
 have f50 : Exa Z h46 a0 kc0 := (f44.wr W46)
 have f51 : Fld Z h46 a0 kc0 "pool" "Lcom/example/ringfence/ringfence/gate/Pool;" .null := ((((zz7.other W22 (Or.inr (slot_ne (Or.inr (wd_20 hw)) (Or.inl (wd_12 hw)) (by decide) (t := (.object kc3)) (t' := (.object kc1)) (by decide) (by decide)))).other W30 (Or.inr (slot_ne (Or.inr (wd_20 hw)) (Or.inl (wd_14 hw)) (by decide) (t := (.object kc3)) (t' := (.object kc1)) (by decide) (by decide)))).other W38 (Or.inr (slot_ne (Or.inr (wd_20 hw)) (Or.inl (wd_16 hw)) (by decide) (t := (.object kc3)) (t' := (.object kc1)) (by decide) (by decide)))).other W46 (Or.inr (slot_ne (Or.inr (wd_20 hw)) (Or.inl (wd_18 hw)) (by decide) (t := (.object kc3)) (t' := (.object kc1)) (by decide) (by decide))))
 refine w_putF X46 hx "" hZ hown (Or.inl (wd_19 hw)) Via.refl e46 f51 f50 (Or.inr ⟨(wd_20 hw), rfl, hnm⟩) (wd_1 hw) (ty := (.object kc3)) (by decide) rfl rfl (d1_34 hby) (pc' := 37) rfl ?_
 intro T52 h52 X52 e52 W52
 have f53 : Fld Z h52 a0 kc0 "pool" "Lcom/example/ringfence/ringfence/gate/Pool;" .null := f51.same W52
 have K54 : Keep h0 h52 [a0] := K48.wr W52 (Or.inl (by simp))
 have N55 := Fr.snoc X52 N49 zz3
 have f56 : Exa Z h52 a0 kc0 := (f50.wr W52)
 have f57 : Fld Z h52 a0 kc0 "open" "Ljava/math/BigDecimal;" (.ref jj0) := ((((f23.other W30 (Or.inr (slot_ne (Or.inl (wd_12 hw)) (Or.inl (wd_14 hw)) (by decide) (t := (.object kc1)) (t' := (.object kc1)) (by decide) (by decide)))).other W38 (Or.inr (slot_ne (Or.inl (wd_12 hw)) (Or.inl (wd_16 hw)) (by decide) (t := (.object kc1)) (t' := (.object kc1)) (by decide) (by decide)))).other W46 (Or.inr (slot_ne (Or.inl (wd_12 hw)) (Or.inl (wd_18 hw)) (by decide) (t := (.object kc1)) (t' := (.object kc1)) (by decide) (by decide)))).other W52 (Or.inr (slot_ne (Or.inl (wd_12 hw)) (Or.inr (wd_20 hw)) (by decide) (t := (.object kc1)) (t' := (.object kc3)) (by decide) (by decide))))
 have f58 : Fld Z h52 a0 kc0 "downside" "Ljava/math/BigDecimal;" (.ref jj0) := (((f31.other W38 (Or.inr (slot_ne (Or.inl (wd_14 hw)) (Or.inl (wd_16 hw)) (by decide) (t := (.object kc1)) (t' := (.object kc1)) (by decide) (by decide)))).other W46 (Or.inr (slot_ne (Or.inl (wd_14 hw)) (Or.inl (wd_18 hw)) (by decide) (t := (.object kc1)) (t' := (.object kc1)) (by decide) (by decide)))).other W52 (Or.inr (slot_ne (Or.inl (wd_14 hw)) (Or.inr (wd_20 hw)) (by decide) (t := (.object kc1)) (t' := (.object kc3)) (by decide) (by decide))))
 have f59 : Fld Z h52 a0 kc0 "upside" "Ljava/math/BigDecimal;" (.ref jj0) := ((f39.other W46 (Or.inr (slot_ne (Or.inl (wd_16 hw)) (Or.inl (wd_18 hw)) (by decide) (t := (.object kc1)) (t' := (.object kc1)) (by decide) (by decide)))).other W52 (Or.inr (slot_ne (Or.inl (wd_16 hw)) (Or.inr (wd_20 hw)) (by decide) (t := (.object kc1)) (t' := (.object kc3)) (by decide) (by decide))))
 have f60 : Fld Z h52 a0 kc0 "exposure" "Ljava/math/BigDecimal;" (.ref jj0) := (f47.other W52 (Or.inr (slot_ne (Or.inl (wd_18 hw)) (Or.inr (wd_20 hw)) (by decide) (t := (.object kc1)) (t' := (.object kc3)) (by decide) (by decide))))
 have f61 : Fld Z h52 a0 kc0 "unrated" "Ljava/lang/String;" .null := (((((zz8.other W22 (Or.inr (slot_ne (Or.inl (wd_27 hw)) (Or.inl (wd_12 hw)) (by decide) (t := (.object kc2)) (t' := (.object kc1)) (by decide) (by decide)))).other W30 (Or.inr (slot_ne (Or.inl (wd_27 hw)) (Or.inl (wd_14 hw)) (by decide) (t := (.object kc2)) (t' := (.object kc1)) (by decide) (by decide)))).other W38 (Or.inr (slot_ne (Or.inl (wd_27 hw)) (Or.inl (wd_16 hw)) (by decide) (t := (.object kc2)) (t' := (.object kc1)) (by decide) (by decide)))).other W46 (Or.inr (slot_ne (Or.inl (wd_27 hw)) (Or.inl (wd_18 hw)) (by decide) (t := (.object kc2)) (t' := (.object kc1)) (by decide) (by decide)))).other W52 (Or.inr (slot_ne (Or.inl (wd_27 hw)) (Or.inr (wd_20 hw)) (by decide) (t := (.object kc2)) (t' := (.object kc3)) (by decide) (by decide))))
 exact w_done X52 hlk (v := none) e52 (fun _ => rfl) (fun fs hr => X52.returnOut hx hret (d1_37 hby) hr) (by decide) (by decide) (⟨rfl, N55, K54, f56, f57, f58, f59, f60, f53, f61⟩)
theorem ef_m3_6 (m : MethodId) (a0 : Addr)  : entryFrame m #[(.ref a0), .null] 2 = mkF m 0 #[.val (.ref a0), .val .null] [] := by first | (simp [entryFrame, mkF, argsToLocals, Value.category]; done) | rfl
def Q_m3_6 (Z : State) (a0 : Addr) (jj0 : Addr) (h0 : Heap) (n0 : Nat) (v : Option Value) (h : Heap) (L : List Loc) : Prop := v = none ∧ Fr n0 L ∧ Keep h0 h [a0] ∧ Exa Z h a0 kc0 ∧ Fld Z h a0 kc0 "unrated" "Ljava/lang/String;" .null ∧ Fld Z h a0 kc0 "open" "Ljava/math/BigDecimal;" (.ref jj0) ∧ Fld Z h a0 kc0 "downside" "Ljava/math/BigDecimal;" (.ref jj0) ∧ Fld Z h a0 kc0 "upside" "Ljava/math/BigDecimal;" (.ref jj0) ∧ Fld Z h a0 kc0 "exposure" "Ljava/math/BigDecimal;" (.ref jj0) ∧ Fld Z h a0 kc0 "pool" "Lcom/example/ringfence/ringfence/gate/Pool;" .null
theorem rm_m3_6 (l : Launch) (Z : State) (aZ : Array Value) (hw : ∀ d ∈ tables_1, d.before aZ Z = true) (ws : List Jvm.Cond) (a0 : Addr) (jj0 : Addr) (h0 : Heap) (n0 : Nat) (Z0 : n0 ≤ h0.size) (E_a0 : Exa Z h0 a0 kc0) (zz1 : Fld Z h0 a0 kc0 "unrated" "Ljava/lang/String;" .null) (zz2 : n0 ≤ a0) (zz3 : Fld Z h0 a0 kc0 "open" "Ljava/math/BigDecimal;" (.ref jj0)) (zz4 : Fld Z h0 a0 kc0 "downside" "Ljava/math/BigDecimal;" (.ref jj0)) (zz5 : Fld Z h0 a0 kc0 "upside" "Ljava/math/BigDecimal;" (.ref jj0)) (zz6 : Fld Z h0 a0 kc0 "exposure" "Ljava/math/BigDecimal;" (.ref jj0)) (zz7 : Fld Z h0 a0 kc0 "pool" "Lcom/example/ringfence/ringfence/gate/Pool;" .null) :
    MetN l Z yn_3 prog_36_method_5_code 2 none ws ({ frames := 0, cells := 0, slots := 0, locals := 0 } : Room) #[(.ref a0), .null] h0 (Q_m3_6 Z a0 jj0 h0 n0) := by
 refine MetN.of (plainFor_of_name pn_3) ?_
 intro p e s m below meth c s₁ hret hx hby hml hown hnm hlk hZ X0 e0
 have N0 := Fr.nil n0
 rw [ef_m3_6 m a0]
 refine w_aloadN X0 hx (d3_0 hby) rfl rfl (pc' := 1) rfl ?_
 refine w_aloadN X0 hx (d3_1 hby) rfl rfl (pc' := 2) rfl ?_
 refine w_putF X0 hx "" hZ hown (Or.inl (wd_26 hw)) Via.refl e0 zz1 E_a0 (Or.inl (wd_27 hw)) (wd_1 hw) (ty := (.object kc2)) (by decide) rfl rfl (d3_2 hby) (pc' := 5) rfl ?_
 intro T20 h20 X20 e20 W20
 have f21 : Fld Z h20 a0 kc0 "unrated" "Ljava/lang/String;" .null := zz1.same W20
 have K22 : Keep h0 h20 [a0] := (Keep.refl h0 [a0]).wr W20 (Or.inl (by simp))
 have N23 := Fr.snoc X20 N0 zz2
 have f24 : Exa Z h20 a0 kc0 := (E_a0.wr W20)
 have f25 : Fld Z h20 a0 kc0 "open" "Ljava/math/BigDecimal;" (.ref jj0) := (zz3.other W20 (Or.inr (slot_ne (Or.inl (wd_12 hw)) (Or.inl (wd_27 hw)) (by decide) (t := (.object kc1)) (t' := (.object kc2)) (by decide) (by decide))))
 have f26 : Fld Z h20 a0 kc0 "downside" "Ljava/math/BigDecimal;" (.ref jj0) := (zz4.other W20 (Or.inr (slot_ne (Or.inl (wd_14 hw)) (Or.inl (wd_27 hw)) (by decide) (t := (.object kc1)) (t' := (.object kc2)) (by decide) (by decide))))
 have f27 : Fld Z h20 a0 kc0 "upside" "Ljava/math/BigDecimal;" (.ref jj0) := (zz5.other W20 (Or.inr (slot_ne (Or.inl (wd_16 hw)) (Or.inl (wd_27 hw)) (by decide) (t := (.object kc1)) (t' := (.object kc2)) (by decide) (by decide))))
 have f28 : Fld Z h20 a0 kc0 "exposure" "Ljava/math/BigDecimal;" (.ref jj0) := (zz6.other W20 (Or.inr (slot_ne (Or.inl (wd_18 hw)) (Or.inl (wd_27 hw)) (by decide) (t := (.object kc1)) (t' := (.object kc2)) (by decide) (by decide))))
 have f29 : Fld Z h20 a0 kc0 "pool" "Lcom/example/ringfence/ringfence/gate/Pool;" .null := (zz7.other W20 (Or.inr (slot_ne (Or.inr (wd_20 hw)) (Or.inl (wd_27 hw)) (by decide) (t := (.object kc3)) (t' := (.object kc2)) (by decide) (by decide))))
 exact w_done X20 hlk (v := none) e20 (fun _ => rfl) (fun fs hr => X20.returnOut hx hret (d3_5 hby) hr) (by decide) (by decide) (⟨rfl, N23, K22, f24, f21, f25, f26, f27, f28, f29⟩)
theorem ef_m4_7 (m : MethodId) (a0 : Addr) (a1 : Addr)  : entryFrame m #[(.ref a0), (.ref a1)] 2 = mkF m 0 #[.val (.ref a0), .val (.ref a1)] [] := by first | (simp [entryFrame, mkF, argsToLocals, Value.category]; done) | rfl
def Q_m4_7 (Z : State) (a0 : Addr) (a1 : Addr) (jj0 : Addr) (h0 : Heap) (n0 : Nat) (v : Option Value) (h : Heap) (L : List Loc) : Prop := v = none ∧ Fr n0 L ∧ Keep h0 h [a0] ∧ Exa Z h a0 kc0 ∧ Fld Z h a0 kc0 "unrated" "Ljava/lang/String;" .null ∧ Fld Z h a0 kc0 "open" "Ljava/math/BigDecimal;" (.ref jj0) ∧ Fld Z h a0 kc0 "downside" "Ljava/math/BigDecimal;" (.ref jj0) ∧ Fld Z h a0 kc0 "upside" "Ljava/math/BigDecimal;" (.ref jj0) ∧ Fld Z h a0 kc0 "exposure" "Ljava/math/BigDecimal;" (.ref jj0) ∧ Fld Z h a0 kc0 "pool" "Lcom/example/ringfence/ringfence/gate/Pool;" .null
theorem rm_m4_7 (l : Launch) (Z : State) (aZ : Array Value) (hw : ∀ d ∈ tables_1, d.before aZ Z = true) (ws : List Jvm.Cond) (a0 : Addr) (a1 : Addr) (jj0 : Addr) (h0 : Heap) (n0 : Nat) (Z0 : n0 ≤ h0.size) (zz1 : Fld Z h0 a1 kc0 "unrated" "Ljava/lang/String;" .null) (E_a0 : Exa Z h0 a0 kc0) (zz2 : Fld Z h0 a0 kc0 "unrated" "Ljava/lang/String;" .null) (zz3 : n0 ≤ a0) (zz4 : Fld Z h0 a1 kc0 "open" "Ljava/math/BigDecimal;" (.ref jj0)) (zz5 : a1 ≠ a0) (zz6 : Fld Z h0 a0 kc0 "open" "Ljava/math/BigDecimal;" (.ref jj0)) (zz7 : Fld Z h0 a1 kc0 "downside" "Ljava/math/BigDecimal;" (.ref jj0)) (zz8 : Fld Z h0 a0 kc0 "downside" "Ljava/math/BigDecimal;" (.ref jj0)) (zz9 : Fld Z h0 a1 kc0 "upside" "Ljava/math/BigDecimal;" (.ref jj0)) (zz10 : Fld Z h0 a0 kc0 "upside" "Ljava/math/BigDecimal;" (.ref jj0)) (zz11 : Fld Z h0 a1 kc0 "exposure" "Ljava/math/BigDecimal;" (.ref jj0)) (zz12 : Fld Z h0 a0 kc0 "exposure" "Ljava/math/BigDecimal;" (.ref jj0)) (zz13 : Fld Z h0 a0 kc0 "pool" "Lcom/example/ringfence/ringfence/gate/Pool;" .null) :
    MetN l Z yn_4 prog_36_method_6_code 2 none ws ({ frames := 0, cells := 0, slots := 0, locals := 0 } : Room) #[(.ref a0), (.ref a1)] h0 (Q_m4_7 Z a0 a1 jj0 h0 n0) := by
 refine MetN.of (plainFor_of_name pn_3) ?_
 intro p e s m below meth c s₁ hret hx hby hml hown hnm hlk hZ X0 e0
 have N0 := Fr.nil n0
 rw [ef_m4_7 m a0 a1]
 refine w_aloadN X0 hx (d4_0 hby) rfl rfl (pc' := 1) rfl ?_
 refine w_aloadN X0 hx (d4_1 hby) rfl rfl (pc' := 2) rfl ?_
 refine w_getF X0 hx "" hZ hown (Or.inl (wd_26 hw)) Via.refl e0 zz1 (d4_2 hby) (pc' := 5) rfl ?_
 intro T20 X20 e20
 refine w_putF X20 hx "" hZ hown (Or.inl (wd_26 hw)) Via.refl e20 zz2 E_a0 (Or.inl (wd_27 hw)) (wd_1 hw) (ty := (.object kc2)) (by decide) rfl rfl (d4_5 hby) (pc' := 8) rfl ?_
 intro T21 h21 X21 e21 W21
 have f22 : Fld Z h21 a0 kc0 "unrated" "Ljava/lang/String;" .null := zz2.same W21
 have K23 : Keep h0 h21 [a0] := (Keep.refl h0 [a0]).wr W21 (Or.inl (by simp))
 have N24 := Fr.snoc X21 N0 zz3
 refine w_aloadN X21 hx (d4_8 hby) rfl rfl (pc' := 9) rfl ?_
 refine w_aloadN X21 hx (d4_9 hby) rfl rfl (pc' := 10) rfl ?_
 have f25 : Fld Z h21 a1 kc0 "open" "Ljava/math/BigDecimal;" (.ref jj0) := (zz4.other W21 (Or.inl zz5))
 refine w_getF X21 hx "" hZ hown (Or.inl (wd_11 hw)) Via.refl e21 f25 (d4_10 hby) (pc' := 13) rfl ?_
 intro T26 X26 e26
 have f27 : Exa Z h21 a0 kc0 := (E_a0.wr W21)
 have f28 : Fld Z h21 a0 kc0 "open" "Ljava/math/BigDecimal;" (.ref jj0) := (zz6.other W21 (Or.inr (slot_ne (Or.inl (wd_12 hw)) (Or.inl (wd_27 hw)) (by decide) (t := (.object kc1)) (t' := (.object kc2)) (by decide) (by decide))))
 refine w_putF X26 hx "" hZ hown (Or.inl (wd_11 hw)) Via.refl e26 f28 f27 (Or.inl (wd_12 hw)) (wd_1 hw) (ty := (.object kc1)) (by decide) rfl rfl (d4_13 hby) (pc' := 16) rfl ?_
 intro T29 h29 X29 e29 W29
 have f30 : Fld Z h29 a0 kc0 "open" "Ljava/math/BigDecimal;" (.ref jj0) := f28.same W29
 have K31 : Keep h0 h29 [a0] := K23.wr W29 (Or.inl (by simp))
 have N32 := Fr.snoc X29 N24 zz3
 refine w_aloadN X29 hx (d4_16 hby) rfl rfl (pc' := 17) rfl ?_
 refine w_aloadN X29 hx (d4_17 hby) rfl rfl (pc' := 18) rfl ?_
 have f33 : Fld Z h29 a1 kc0 "downside" "Ljava/math/BigDecimal;" (.ref jj0) := ((zz7.other W21 (Or.inl zz5)).other W29 (Or.inl zz5))
 refine w_getF X29 hx "" hZ hown (Or.inl (wd_13 hw)) Via.refl e29 f33 (d4_18 hby) (pc' := 21) rfl ?_
 intro T34 X34 e34
 have f35 : Exa Z h29 a0 kc0 := (f27.wr W29)
 have f36 : Fld Z h29 a0 kc0 "downside" "Ljava/math/BigDecimal;" (.ref jj0) := ((zz8.other W21 (Or.inr (slot_ne (Or.inl (wd_14 hw)) (Or.inl (wd_27 hw)) (by decide) (t := (.object kc1)) (t' := (.object kc2)) (by decide) (by decide)))).other W29 (Or.inr (slot_ne (Or.inl (wd_14 hw)) (Or.inl (wd_12 hw)) (by decide) (t := (.object kc1)) (t' := (.object kc1)) (by decide) (by decide))))
 refine w_putF X34 hx "" hZ hown (Or.inl (wd_13 hw)) Via.refl e34 f36 f35 (Or.inl (wd_14 hw)) (wd_1 hw) (ty := (.object kc1)) (by decide) rfl rfl (d4_21 hby) (pc' := 24) rfl ?_
 intro T37 h37 X37 e37 W37
 have f38 : Fld Z h37 a0 kc0 "downside" "Ljava/math/BigDecimal;" (.ref jj0) := f36.same W37
 have K39 : Keep h0 h37 [a0] := K31.wr W37 (Or.inl (by simp))
 have N40 := Fr.snoc X37 N32 zz3
 refine w_aloadN X37 hx (d4_24 hby) rfl rfl (pc' := 25) rfl ?_
 refine w_aloadN X37 hx (d4_25 hby) rfl rfl (pc' := 26) rfl ?_
 have f41 : Fld Z h37 a1 kc0 "upside" "Ljava/math/BigDecimal;" (.ref jj0) := (((zz9.other W21 (Or.inl zz5)).other W29 (Or.inl zz5)).other W37 (Or.inl zz5))
 refine w_getF X37 hx "" hZ hown (Or.inl (wd_15 hw)) Via.refl e37 f41 (d4_26 hby) (pc' := 29) rfl ?_
 intro T42 X42 e42
 have f43 : Exa Z h37 a0 kc0 := (f35.wr W37)
 have f44 : Fld Z h37 a0 kc0 "upside" "Ljava/math/BigDecimal;" (.ref jj0) := (((zz10.other W21 (Or.inr (slot_ne (Or.inl (wd_16 hw)) (Or.inl (wd_27 hw)) (by decide) (t := (.object kc1)) (t' := (.object kc2)) (by decide) (by decide)))).other W29 (Or.inr (slot_ne (Or.inl (wd_16 hw)) (Or.inl (wd_12 hw)) (by decide) (t := (.object kc1)) (t' := (.object kc1)) (by decide) (by decide)))).other W37 (Or.inr (slot_ne (Or.inl (wd_16 hw)) (Or.inl (wd_14 hw)) (by decide) (t := (.object kc1)) (t' := (.object kc1)) (by decide) (by decide))))
 refine w_putF X42 hx "" hZ hown (Or.inl (wd_15 hw)) Via.refl e42 f44 f43 (Or.inl (wd_16 hw)) (wd_1 hw) (ty := (.object kc1)) (by decide) rfl rfl (d4_29 hby) (pc' := 32) rfl ?_
 intro T45 h45 X45 e45 W45
 have f46 : Fld Z h45 a0 kc0 "upside" "Ljava/math/BigDecimal;" (.ref jj0) := f44.same W45
 have K47 : Keep h0 h45 [a0] := K39.wr W45 (Or.inl (by simp))
 have N48 := Fr.snoc X45 N40 zz3
 refine w_aloadN X45 hx (d4_32 hby) rfl rfl (pc' := 33) rfl ?_
 refine w_aloadN X45 hx (d4_33 hby) rfl rfl (pc' := 34) rfl ?_
 have f49 : Fld Z h45 a1 kc0 "exposure" "Ljava/math/BigDecimal;" (.ref jj0) := ((((zz11.other W21 (Or.inl zz5)).other W29 (Or.inl zz5)).other W37 (Or.inl zz5)).other W45 (Or.inl zz5))
 refine w_getF X45 hx "" hZ hown (Or.inl (wd_17 hw)) Via.refl e45 f49 (d4_34 hby) (pc' := 37) rfl ?_
 intro T50 X50 e50
 have f51 : Exa Z h45 a0 kc0 := (f43.wr W45)
 have f52 : Fld Z h45 a0 kc0 "exposure" "Ljava/math/BigDecimal;" (.ref jj0) := ((((zz12.other W21 (Or.inr (slot_ne (Or.inl (wd_18 hw)) (Or.inl (wd_27 hw)) (by decide) (t := (.object kc1)) (t' := (.object kc2)) (by decide) (by decide)))).other W29 (Or.inr (slot_ne (Or.inl (wd_18 hw)) (Or.inl (wd_12 hw)) (by decide) (t := (.object kc1)) (t' := (.object kc1)) (by decide) (by decide)))).other W37 (Or.inr (slot_ne (Or.inl (wd_18 hw)) (Or.inl (wd_14 hw)) (by decide) (t := (.object kc1)) (t' := (.object kc1)) (by decide) (by decide)))).other W45 (Or.inr (slot_ne (Or.inl (wd_18 hw)) (Or.inl (wd_16 hw)) (by decide) (t := (.object kc1)) (t' := (.object kc1)) (by decide) (by decide))))
 refine w_putF X50 hx "" hZ hown (Or.inl (wd_17 hw)) Via.refl e50 f52 f51 (Or.inl (wd_18 hw)) (wd_1 hw) (ty := (.object kc1)) (by decide) rfl rfl (d4_37 hby) (pc' := 40) rfl ?_
 intro T53 h53 X53 e53 W53
 have f54 : Fld Z h53 a0 kc0 "exposure" "Ljava/math/BigDecimal;" (.ref jj0) := f52.same W53
 have K55 : Keep h0 h53 [a0] := K47.wr W53 (Or.inl (by simp))
 have N56 := Fr.snoc X53 N48 zz3
 have f57 : Exa Z h53 a0 kc0 := (f51.wr W53)
 have f58 : Fld Z h53 a0 kc0 "unrated" "Ljava/lang/String;" .null := ((((f22.other W29 (Or.inr (slot_ne (Or.inl (wd_27 hw)) (Or.inl (wd_12 hw)) (by decide) (t := (.object kc2)) (t' := (.object kc1)) (by decide) (by decide)))).other W37 (Or.inr (slot_ne (Or.inl (wd_27 hw)) (Or.inl (wd_14 hw)) (by decide) (t := (.object kc2)) (t' := (.object kc1)) (by decide) (by decide)))).other W45 (Or.inr (slot_ne (Or.inl (wd_27 hw)) (Or.inl (wd_16 hw)) (by decide) (t := (.object kc2)) (t' := (.object kc1)) (by decide) (by decide)))).other W53 (Or.inr (slot_ne (Or.inl (wd_27 hw)) (Or.inl (wd_18 hw)) (by decide) (t := (.object kc2)) (t' := (.object kc1)) (by decide) (by decide))))
 have f59 : Fld Z h53 a0 kc0 "open" "Ljava/math/BigDecimal;" (.ref jj0) := (((f30.other W37 (Or.inr (slot_ne (Or.inl (wd_12 hw)) (Or.inl (wd_14 hw)) (by decide) (t := (.object kc1)) (t' := (.object kc1)) (by decide) (by decide)))).other W45 (Or.inr (slot_ne (Or.inl (wd_12 hw)) (Or.inl (wd_16 hw)) (by decide) (t := (.object kc1)) (t' := (.object kc1)) (by decide) (by decide)))).other W53 (Or.inr (slot_ne (Or.inl (wd_12 hw)) (Or.inl (wd_18 hw)) (by decide) (t := (.object kc1)) (t' := (.object kc1)) (by decide) (by decide))))
 have f60 : Fld Z h53 a0 kc0 "downside" "Ljava/math/BigDecimal;" (.ref jj0) := ((f38.other W45 (Or.inr (slot_ne (Or.inl (wd_14 hw)) (Or.inl (wd_16 hw)) (by decide) (t := (.object kc1)) (t' := (.object kc1)) (by decide) (by decide)))).other W53 (Or.inr (slot_ne (Or.inl (wd_14 hw)) (Or.inl (wd_18 hw)) (by decide) (t := (.object kc1)) (t' := (.object kc1)) (by decide) (by decide))))
 have f61 : Fld Z h53 a0 kc0 "upside" "Ljava/math/BigDecimal;" (.ref jj0) := (f46.other W53 (Or.inr (slot_ne (Or.inl (wd_16 hw)) (Or.inl (wd_18 hw)) (by decide) (t := (.object kc1)) (t' := (.object kc1)) (by decide) (by decide))))
 have f62 : Fld Z h53 a0 kc0 "pool" "Lcom/example/ringfence/ringfence/gate/Pool;" .null := (((((zz13.other W21 (Or.inr (slot_ne (Or.inr (wd_20 hw)) (Or.inl (wd_27 hw)) (by decide) (t := (.object kc3)) (t' := (.object kc2)) (by decide) (by decide)))).other W29 (Or.inr (slot_ne (Or.inr (wd_20 hw)) (Or.inl (wd_12 hw)) (by decide) (t := (.object kc3)) (t' := (.object kc1)) (by decide) (by decide)))).other W37 (Or.inr (slot_ne (Or.inr (wd_20 hw)) (Or.inl (wd_14 hw)) (by decide) (t := (.object kc3)) (t' := (.object kc1)) (by decide) (by decide)))).other W45 (Or.inr (slot_ne (Or.inr (wd_20 hw)) (Or.inl (wd_16 hw)) (by decide) (t := (.object kc3)) (t' := (.object kc1)) (by decide) (by decide)))).other W53 (Or.inr (slot_ne (Or.inr (wd_20 hw)) (Or.inl (wd_18 hw)) (by decide) (t := (.object kc3)) (t' := (.object kc1)) (by decide) (by decide))))
 exact w_done X53 hlk (v := none) e53 (fun _ => rfl) (fun fs hr => X53.returnOut hx hret (d4_40 hby) hr) (by decide) (by decide) (⟨rfl, N56, K55, f57, f58, f59, f60, f61, f54, f62⟩)
theorem ef_m5_8 (m : MethodId) (a0 : Addr)  : entryFrame m #[(.ref a0)] 1 = mkF m 0 #[.val (.ref a0)] [] := by first | (simp [entryFrame, mkF, argsToLocals, Value.category]; done) | rfl
def Q_m5_8 (Z : State) (a0 : Addr) (h0 : Heap) (n0 : Nat) (v : Option Value) (h : Heap) (L : List Loc) : Prop := v = some .null ∧ Fr n0 L ∧ h = h0
theorem rm_m5_8 (l : Launch) (Z : State) (aZ : Array Value) (hw : ∀ d ∈ tables_1, d.before aZ Z = true) (ws : List Jvm.Cond) (a0 : Addr) (h0 : Heap) (n0 : Nat) (Z0 : n0 ≤ h0.size) (zz0 : Fld Z h0 a0 kc0 "unrated" "Ljava/lang/String;" .null) :
    MetN l Z yn_5 prog_36_method_4_code 1 (some (.object kc2)) ws ({ frames := 0, cells := 0, slots := 0, locals := 0 } : Room) #[(.ref a0)] h0 (Q_m5_8 Z a0 h0 n0) := by
 refine MetN.of (plainFor_of_name pn_3) ?_
 intro p e s m below meth c s₁ hret hx hby hml hown hnm hlk hZ X0 e0
 have N0 := Fr.nil n0
 rw [ef_m5_8 m a0]
 refine w_aloadN X0 hx (d5_0 hby) rfl rfl (pc' := 1) rfl ?_
 refine w_getF X0 hx "" hZ hown (Or.inl (wd_26 hw)) Via.refl e0 zz0 (d5_1 hby) (pc' := 4) rfl ?_
 intro T20 X20 e20
 exact w_done X20 hlk (v := some .null) e20 (fun h => by rw [hret] at h; cases h) (fun fs hr => retOut X20 hx hret rfl (Or.inr (Or.inr (Or.inr (Or.inr ⟨rfl, rfl, rfl⟩)))) (d5_4 hby) hr) (by decide) (by decide) (⟨rfl, N0, rfl⟩)
theorem ef_m6_9 (m : MethodId)   : entryFrame m #[.null, .null] 2 = mkF m 0 #[.val .null, .val .null] [] := by first | (simp [entryFrame, mkF, argsToLocals, Value.category]; done) | rfl
def Q_m6_9 (Z : State)  (h0 : Heap) (n0 : Nat) (v : Option Value) (h : Heap) (L : List Loc) : Prop := v = some (.int (1 : Int32)) ∧ Fr n0 L ∧ h = h0
theorem rm_m6_9 (l : Launch) (Z : State) (aZ : Array Value) (hw : ∀ d ∈ tables_1, d.before aZ Z = true) (ws : List Jvm.Cond)  (h0 : Heap) (n0 : Nat) (Z0 : n0 ≤ h0.size) :
    MetN l Z yn_6 method_4_code 2 (some .boolean) ws ({ frames := 0, cells := 0, slots := 0, locals := 0 } : Room) #[.null, .null] h0 (Q_m6_9 Z  h0 n0) := by
 refine MetN.of (plainFor_of_name pn_2) ?_
 intro p e s m below meth c s₁ hret hx hby hml hown hnm hlk hZ X0 e0
 have N0 := Fr.nil n0
 rw [ef_m6_9 m ]
 refine w_aloadN X0 hx (d6_0 hby) rfl rfl (pc' := 1) rfl ?_
 refine w_ifnonnullN X0 hx (d6_1 hby) (pc' := 4) rfl ?_
 refine w_aloadN X0 hx (d6_4 hby) rfl rfl (pc' := 5) rfl ?_
 refine w_ifnonnullN X0 hx (d6_5 hby) (pc' := 8) rfl ?_
 refine w_iconst X0 hx (d6_8 hby) (v := (1 : Int32)) rfl (pc' := 9) rfl ?_
 refine w_goto X0 hx (d6_9 hby) (pc' := 13) (by decide) (by decide) ?_
 exact w_done X0 hlk (v := some (.int (1 : Int32))) e0 (fun h => by rw [hret] at h; cases h) (fun fs hr => retN X0 hx (t := .boolean) hret (by simp) (d6_13 hby) hr) (by decide) (by decide) (⟨rfl, N0, rfl⟩)
theorem ef_m4_10 (m : MethodId) (a0 : Addr)  : entryFrame m #[(.ref a0), (.ref a0)] 2 = mkF m 0 #[.val (.ref a0), .val (.ref a0)] [] := by first | (simp [entryFrame, mkF, argsToLocals, Value.category]; done) | rfl
def Q_m4_10 (Z : State) (a0 : Addr) (jj0 : Addr) (h0 : Heap) (n0 : Nat) (v : Option Value) (h : Heap) (L : List Loc) : Prop := v = none ∧ Fr n0 L ∧ Keep h0 h [a0] ∧ Fld Z h a0 kc0 "unrated" "Ljava/lang/String;" .null ∧ Exa Z h a0 kc0 ∧ Fld Z h a0 kc0 "open" "Ljava/math/BigDecimal;" (.ref jj0) ∧ Fld Z h a0 kc0 "downside" "Ljava/math/BigDecimal;" (.ref jj0) ∧ Fld Z h a0 kc0 "upside" "Ljava/math/BigDecimal;" (.ref jj0) ∧ Fld Z h a0 kc0 "exposure" "Ljava/math/BigDecimal;" (.ref jj0) ∧ Fld Z h a0 kc0 "pool" "Lcom/example/ringfence/ringfence/gate/Pool;" .null
theorem rm_m4_10 (l : Launch) (Z : State) (aZ : Array Value) (hw : ∀ d ∈ tables_1, d.before aZ Z = true) (ws : List Jvm.Cond) (a0 : Addr) (jj0 : Addr) (h0 : Heap) (n0 : Nat) (Z0 : n0 ≤ h0.size) (zz1 : Fld Z h0 a0 kc0 "unrated" "Ljava/lang/String;" .null) (E_a0 : Exa Z h0 a0 kc0) (zz2 : n0 ≤ a0) (zz3 : Fld Z h0 a0 kc0 "open" "Ljava/math/BigDecimal;" (.ref jj0)) (zz4 : Fld Z h0 a0 kc0 "downside" "Ljava/math/BigDecimal;" (.ref jj0)) (zz5 : Fld Z h0 a0 kc0 "upside" "Ljava/math/BigDecimal;" (.ref jj0)) (zz6 : Fld Z h0 a0 kc0 "exposure" "Ljava/math/BigDecimal;" (.ref jj0)) (zz7 : Fld Z h0 a0 kc0 "pool" "Lcom/example/ringfence/ringfence/gate/Pool;" .null) :
    MetN l Z yn_4 prog_36_method_6_code 2 none ws ({ frames := 0, cells := 0, slots := 0, locals := 0 } : Room) #[(.ref a0), (.ref a0)] h0 (Q_m4_10 Z a0 jj0 h0 n0) := by
 refine MetN.of (plainFor_of_name pn_3) ?_
 intro p e s m below meth c s₁ hret hx hby hml hown hnm hlk hZ X0 e0
 have N0 := Fr.nil n0
 rw [ef_m4_10 m a0]
 refine w_aloadN X0 hx (d4_0 hby) rfl rfl (pc' := 1) rfl ?_
 refine w_aloadN X0 hx (d4_1 hby) rfl rfl (pc' := 2) rfl ?_
 refine w_getF X0 hx "" hZ hown (Or.inl (wd_26 hw)) Via.refl e0 zz1 (d4_2 hby) (pc' := 5) rfl ?_
 intro T20 X20 e20
 refine w_putF X20 hx "" hZ hown (Or.inl (wd_26 hw)) Via.refl e20 zz1 E_a0 (Or.inl (wd_27 hw)) (wd_1 hw) (ty := (.object kc2)) (by decide) rfl rfl (d4_5 hby) (pc' := 8) rfl ?_
 intro T21 h21 X21 e21 W21
 have f22 : Fld Z h21 a0 kc0 "unrated" "Ljava/lang/String;" .null := zz1.same W21
 have K23 : Keep h0 h21 [a0] := (Keep.refl h0 [a0]).wr W21 (Or.inl (by simp))
 have N24 := Fr.snoc X21 N0 zz2
 refine w_aloadN X21 hx (d4_8 hby) rfl rfl (pc' := 9) rfl ?_
 refine w_aloadN X21 hx (d4_9 hby) rfl rfl (pc' := 10) rfl ?_
 have f25 : Fld Z h21 a0 kc0 "open" "Ljava/math/BigDecimal;" (.ref jj0) := (zz3.other W21 (Or.inr (slot_ne (Or.inl (wd_12 hw)) (Or.inl (wd_27 hw)) (by decide) (t := (.object kc1)) (t' := (.object kc2)) (by decide) (by decide))))
 refine w_getF X21 hx "" hZ hown (Or.inl (wd_11 hw)) Via.refl e21 f25 (d4_10 hby) (pc' := 13) rfl ?_
 intro T26 X26 e26
 have f27 : Exa Z h21 a0 kc0 := (E_a0.wr W21)
 refine w_putF X26 hx "" hZ hown (Or.inl (wd_11 hw)) Via.refl e26 f25 f27 (Or.inl (wd_12 hw)) (wd_1 hw) (ty := (.object kc1)) (by decide) rfl rfl (d4_13 hby) (pc' := 16) rfl ?_
 intro T28 h28 X28 e28 W28
 have f29 : Fld Z h28 a0 kc0 "open" "Ljava/math/BigDecimal;" (.ref jj0) := f25.same W28
 have K30 : Keep h0 h28 [a0] := K23.wr W28 (Or.inl (by simp))
 have N31 := Fr.snoc X28 N24 zz2
 refine w_aloadN X28 hx (d4_16 hby) rfl rfl (pc' := 17) rfl ?_
 refine w_aloadN X28 hx (d4_17 hby) rfl rfl (pc' := 18) rfl ?_
 have f32 : Fld Z h28 a0 kc0 "downside" "Ljava/math/BigDecimal;" (.ref jj0) := ((zz4.other W21 (Or.inr (slot_ne (Or.inl (wd_14 hw)) (Or.inl (wd_27 hw)) (by decide) (t := (.object kc1)) (t' := (.object kc2)) (by decide) (by decide)))).other W28 (Or.inr (slot_ne (Or.inl (wd_14 hw)) (Or.inl (wd_12 hw)) (by decide) (t := (.object kc1)) (t' := (.object kc1)) (by decide) (by decide))))
 refine w_getF X28 hx "" hZ hown (Or.inl (wd_13 hw)) Via.refl e28 f32 (d4_18 hby) (pc' := 21) rfl ?_
 intro T33 X33 e33
 have f34 : Exa Z h28 a0 kc0 := (f27.wr W28)
 refine w_putF X33 hx "" hZ hown (Or.inl (wd_13 hw)) Via.refl e33 f32 f34 (Or.inl (wd_14 hw)) (wd_1 hw) (ty := (.object kc1)) (by decide) rfl rfl (d4_21 hby) (pc' := 24) rfl ?_
 intro T35 h35 X35 e35 W35
 have f36 : Fld Z h35 a0 kc0 "downside" "Ljava/math/BigDecimal;" (.ref jj0) := f32.same W35
 have K37 : Keep h0 h35 [a0] := K30.wr W35 (Or.inl (by simp))
 have N38 := Fr.snoc X35 N31 zz2
 refine w_aloadN X35 hx (d4_24 hby) rfl rfl (pc' := 25) rfl ?_
 refine w_aloadN X35 hx (d4_25 hby) rfl rfl (pc' := 26) rfl ?_
 have f39 : Fld Z h35 a0 kc0 "upside" "Ljava/math/BigDecimal;" (.ref jj0) := (((zz5.other W21 (Or.inr (slot_ne (Or.inl (wd_16 hw)) (Or.inl (wd_27 hw)) (by decide) (t := (.object kc1)) (t' := (.object kc2)) (by decide) (by decide)))).other W28 (Or.inr (slot_ne (Or.inl (wd_16 hw)) (Or.inl (wd_12 hw)) (by decide) (t := (.object kc1)) (t' := (.object kc1)) (by decide) (by decide)))).other W35 (Or.inr (slot_ne (Or.inl (wd_16 hw)) (Or.inl (wd_14 hw)) (by decide) (t := (.object kc1)) (t' := (.object kc1)) (by decide) (by decide))))
 refine w_getF X35 hx "" hZ hown (Or.inl (wd_15 hw)) Via.refl e35 f39 (d4_26 hby) (pc' := 29) rfl ?_
 intro T40 X40 e40
 have f41 : Exa Z h35 a0 kc0 := (f34.wr W35)
 refine w_putF X40 hx "" hZ hown (Or.inl (wd_15 hw)) Via.refl e40 f39 f41 (Or.inl (wd_16 hw)) (wd_1 hw) (ty := (.object kc1)) (by decide) rfl rfl (d4_29 hby) (pc' := 32) rfl ?_
 intro T42 h42 X42 e42 W42
 have f43 : Fld Z h42 a0 kc0 "upside" "Ljava/math/BigDecimal;" (.ref jj0) := f39.same W42
 have K44 : Keep h0 h42 [a0] := K37.wr W42 (Or.inl (by simp))
 have N45 := Fr.snoc X42 N38 zz2
 refine w_aloadN X42 hx (d4_32 hby) rfl rfl (pc' := 33) rfl ?_
 refine w_aloadN X42 hx (d4_33 hby) rfl rfl (pc' := 34) rfl ?_
 have f46 : Fld Z h42 a0 kc0 "exposure" "Ljava/math/BigDecimal;" (.ref jj0) := ((((zz6.other W21 (Or.inr (slot_ne (Or.inl (wd_18 hw)) (Or.inl (wd_27 hw)) (by decide) (t := (.object kc1)) (t' := (.object kc2)) (by decide) (by decide)))).other W28 (Or.inr (slot_ne (Or.inl (wd_18 hw)) (Or.inl (wd_12 hw)) (by decide) (t := (.object kc1)) (t' := (.object kc1)) (by decide) (by decide)))).other W35 (Or.inr (slot_ne (Or.inl (wd_18 hw)) (Or.inl (wd_14 hw)) (by decide) (t := (.object kc1)) (t' := (.object kc1)) (by decide) (by decide)))).other W42 (Or.inr (slot_ne (Or.inl (wd_18 hw)) (Or.inl (wd_16 hw)) (by decide) (t := (.object kc1)) (t' := (.object kc1)) (by decide) (by decide))))
 refine w_getF X42 hx "" hZ hown (Or.inl (wd_17 hw)) Via.refl e42 f46 (d4_34 hby) (pc' := 37) rfl ?_
 intro T47 X47 e47
 have f48 : Exa Z h42 a0 kc0 := (f41.wr W42)
 refine w_putF X47 hx "" hZ hown (Or.inl (wd_17 hw)) Via.refl e47 f46 f48 (Or.inl (wd_18 hw)) (wd_1 hw) (ty := (.object kc1)) (by decide) rfl rfl (d4_37 hby) (pc' := 40) rfl ?_
 intro T49 h49 X49 e49 W49
 have f50 : Fld Z h49 a0 kc0 "exposure" "Ljava/math/BigDecimal;" (.ref jj0) := f46.same W49
 have K51 : Keep h0 h49 [a0] := K44.wr W49 (Or.inl (by simp))
 have N52 := Fr.snoc X49 N45 zz2
 have f53 : Fld Z h49 a0 kc0 "unrated" "Ljava/lang/String;" .null := ((((f22.other W28 (Or.inr (slot_ne (Or.inl (wd_27 hw)) (Or.inl (wd_12 hw)) (by decide) (t := (.object kc2)) (t' := (.object kc1)) (by decide) (by decide)))).other W35 (Or.inr (slot_ne (Or.inl (wd_27 hw)) (Or.inl (wd_14 hw)) (by decide) (t := (.object kc2)) (t' := (.object kc1)) (by decide) (by decide)))).other W42 (Or.inr (slot_ne (Or.inl (wd_27 hw)) (Or.inl (wd_16 hw)) (by decide) (t := (.object kc2)) (t' := (.object kc1)) (by decide) (by decide)))).other W49 (Or.inr (slot_ne (Or.inl (wd_27 hw)) (Or.inl (wd_18 hw)) (by decide) (t := (.object kc2)) (t' := (.object kc1)) (by decide) (by decide))))
 have f54 : Exa Z h49 a0 kc0 := (f48.wr W49)
 have f55 : Fld Z h49 a0 kc0 "open" "Ljava/math/BigDecimal;" (.ref jj0) := (((f29.other W35 (Or.inr (slot_ne (Or.inl (wd_12 hw)) (Or.inl (wd_14 hw)) (by decide) (t := (.object kc1)) (t' := (.object kc1)) (by decide) (by decide)))).other W42 (Or.inr (slot_ne (Or.inl (wd_12 hw)) (Or.inl (wd_16 hw)) (by decide) (t := (.object kc1)) (t' := (.object kc1)) (by decide) (by decide)))).other W49 (Or.inr (slot_ne (Or.inl (wd_12 hw)) (Or.inl (wd_18 hw)) (by decide) (t := (.object kc1)) (t' := (.object kc1)) (by decide) (by decide))))
 have f56 : Fld Z h49 a0 kc0 "downside" "Ljava/math/BigDecimal;" (.ref jj0) := ((f36.other W42 (Or.inr (slot_ne (Or.inl (wd_14 hw)) (Or.inl (wd_16 hw)) (by decide) (t := (.object kc1)) (t' := (.object kc1)) (by decide) (by decide)))).other W49 (Or.inr (slot_ne (Or.inl (wd_14 hw)) (Or.inl (wd_18 hw)) (by decide) (t := (.object kc1)) (t' := (.object kc1)) (by decide) (by decide))))
 have f57 : Fld Z h49 a0 kc0 "upside" "Ljava/math/BigDecimal;" (.ref jj0) := (f43.other W49 (Or.inr (slot_ne (Or.inl (wd_16 hw)) (Or.inl (wd_18 hw)) (by decide) (t := (.object kc1)) (t' := (.object kc1)) (by decide) (by decide))))
 have f58 : Fld Z h49 a0 kc0 "pool" "Lcom/example/ringfence/ringfence/gate/Pool;" .null := (((((zz7.other W21 (Or.inr (slot_ne (Or.inr (wd_20 hw)) (Or.inl (wd_27 hw)) (by decide) (t := (.object kc3)) (t' := (.object kc2)) (by decide) (by decide)))).other W28 (Or.inr (slot_ne (Or.inr (wd_20 hw)) (Or.inl (wd_12 hw)) (by decide) (t := (.object kc3)) (t' := (.object kc1)) (by decide) (by decide)))).other W35 (Or.inr (slot_ne (Or.inr (wd_20 hw)) (Or.inl (wd_14 hw)) (by decide) (t := (.object kc3)) (t' := (.object kc1)) (by decide) (by decide)))).other W42 (Or.inr (slot_ne (Or.inr (wd_20 hw)) (Or.inl (wd_16 hw)) (by decide) (t := (.object kc3)) (t' := (.object kc1)) (by decide) (by decide)))).other W49 (Or.inr (slot_ne (Or.inr (wd_20 hw)) (Or.inl (wd_18 hw)) (by decide) (t := (.object kc3)) (t' := (.object kc1)) (by decide) (by decide))))
 exact w_done X49 hlk (v := none) e49 (fun _ => rfl) (fun fs hr => X49.returnOut hx hret (d4_40 hby) hr) (by decide) (by decide) (⟨rfl, N52, K51, f53, f54, f55, f56, f57, f50, f58⟩)
theorem ef_m3_11 (m : MethodId) (a0 : Addr) (a1 : Addr)  : entryFrame m #[(.ref a0), (.ref a1)] 2 = mkF m 0 #[.val (.ref a0), .val (.ref a1)] [] := by first | (simp [entryFrame, mkF, argsToLocals, Value.category]; done) | rfl
def Q_m3_11 (Z : State) (a0 : Addr) (a1 : Addr) (jj0 : Addr) (h0 : Heap) (n0 : Nat) (v : Option Value) (h : Heap) (L : List Loc) : Prop := v = none ∧ Fr n0 L ∧ Keep h0 h [a0] ∧ Exa Z h a0 kc0 ∧ Fld Z h a0 kc0 "unrated" "Ljava/lang/String;" (.ref a1) ∧ Fld Z h a0 kc0 "open" "Ljava/math/BigDecimal;" (.ref jj0) ∧ Fld Z h a0 kc0 "downside" "Ljava/math/BigDecimal;" (.ref jj0) ∧ Fld Z h a0 kc0 "upside" "Ljava/math/BigDecimal;" (.ref jj0) ∧ Fld Z h a0 kc0 "exposure" "Ljava/math/BigDecimal;" (.ref jj0) ∧ Fld Z h a0 kc0 "pool" "Lcom/example/ringfence/ringfence/gate/Pool;" .null
theorem rm_m3_11 (l : Launch) (Z : State) (aZ : Array Value) (hw : ∀ d ∈ tables_1, d.before aZ Z = true) (ws : List Jvm.Cond) (a0 : Addr) (a1 : Addr) (jj0 : Addr) (h0 : Heap) (n0 : Nat) (Z0 : n0 ≤ h0.size) (E_a0 : Exa Z h0 a0 kc0) (zz1 : Fld Z h0 a0 kc0 "unrated" "Ljava/lang/String;" .null) (zz2 : n0 ≤ a0) (zz3 : Fld Z h0 a0 kc0 "open" "Ljava/math/BigDecimal;" (.ref jj0)) (zz4 : Fld Z h0 a0 kc0 "downside" "Ljava/math/BigDecimal;" (.ref jj0)) (zz5 : Fld Z h0 a0 kc0 "upside" "Ljava/math/BigDecimal;" (.ref jj0)) (zz6 : Fld Z h0 a0 kc0 "exposure" "Ljava/math/BigDecimal;" (.ref jj0)) (zz7 : Fld Z h0 a0 kc0 "pool" "Lcom/example/ringfence/ringfence/gate/Pool;" .null) :
    MetN l Z yn_3 prog_36_method_5_code 2 none ws ({ frames := 0, cells := 0, slots := 0, locals := 0 } : Room) #[(.ref a0), (.ref a1)] h0 (Q_m3_11 Z a0 a1 jj0 h0 n0) := by
 refine MetN.of (plainFor_of_name pn_3) ?_
 intro p e s m below meth c s₁ hret hx hby hml hown hnm hlk hZ X0 e0
 have N0 := Fr.nil n0
 rw [ef_m3_11 m a0 a1]
 refine w_aloadN X0 hx (d3_0 hby) rfl rfl (pc' := 1) rfl ?_
 refine w_aloadN X0 hx (d3_1 hby) rfl rfl (pc' := 2) rfl ?_
 refine w_putF X0 hx "" hZ hown (Or.inl (wd_26 hw)) Via.refl e0 zz1 E_a0 (Or.inl (wd_27 hw)) (wd_1 hw) (ty := (.object kc2)) (by decide) rfl rfl (d3_2 hby) (pc' := 5) rfl ?_
 intro T20 h20 X20 e20 W20
 have f21 : Fld Z h20 a0 kc0 "unrated" "Ljava/lang/String;" (.ref a1) := zz1.same W20
 have K22 : Keep h0 h20 [a0] := (Keep.refl h0 [a0]).wr W20 (Or.inl (by simp))
 have N23 := Fr.snoc X20 N0 zz2
 have f24 : Exa Z h20 a0 kc0 := (E_a0.wr W20)
 have f25 : Fld Z h20 a0 kc0 "open" "Ljava/math/BigDecimal;" (.ref jj0) := (zz3.other W20 (Or.inr (slot_ne (Or.inl (wd_12 hw)) (Or.inl (wd_27 hw)) (by decide) (t := (.object kc1)) (t' := (.object kc2)) (by decide) (by decide))))
 have f26 : Fld Z h20 a0 kc0 "downside" "Ljava/math/BigDecimal;" (.ref jj0) := (zz4.other W20 (Or.inr (slot_ne (Or.inl (wd_14 hw)) (Or.inl (wd_27 hw)) (by decide) (t := (.object kc1)) (t' := (.object kc2)) (by decide) (by decide))))
 have f27 : Fld Z h20 a0 kc0 "upside" "Ljava/math/BigDecimal;" (.ref jj0) := (zz5.other W20 (Or.inr (slot_ne (Or.inl (wd_16 hw)) (Or.inl (wd_27 hw)) (by decide) (t := (.object kc1)) (t' := (.object kc2)) (by decide) (by decide))))
 have f28 : Fld Z h20 a0 kc0 "exposure" "Ljava/math/BigDecimal;" (.ref jj0) := (zz6.other W20 (Or.inr (slot_ne (Or.inl (wd_18 hw)) (Or.inl (wd_27 hw)) (by decide) (t := (.object kc1)) (t' := (.object kc2)) (by decide) (by decide))))
 have f29 : Fld Z h20 a0 kc0 "pool" "Lcom/example/ringfence/ringfence/gate/Pool;" .null := (zz7.other W20 (Or.inr (slot_ne (Or.inr (wd_20 hw)) (Or.inl (wd_27 hw)) (by decide) (t := (.object kc3)) (t' := (.object kc2)) (by decide) (by decide))))
 exact w_done X20 hlk (v := none) e20 (fun _ => rfl) (fun fs hr => X20.returnOut hx hret (d3_5 hby) hr) (by decide) (by decide) (⟨rfl, N23, K22, f24, f21, f25, f26, f27, f28, f29⟩)
theorem ef_m4_12 (m : MethodId) (a0 : Addr) (a1 : Addr)  : entryFrame m #[(.ref a0), (.ref a1)] 2 = mkF m 0 #[.val (.ref a0), .val (.ref a1)] [] := by first | (simp [entryFrame, mkF, argsToLocals, Value.category]; done) | rfl
def Q_m4_12 (Z : State) (a0 : Addr) (a1 : Addr) (jj0 : Addr) (jj1 : Addr) (h0 : Heap) (n0 : Nat) (v : Option Value) (h : Heap) (L : List Loc) : Prop := v = none ∧ Fr n0 L ∧ Keep h0 h [a0] ∧ Exa Z h a0 kc0 ∧ Fld Z h a0 kc0 "unrated" "Ljava/lang/String;" (.ref jj0) ∧ Fld Z h a0 kc0 "open" "Ljava/math/BigDecimal;" (.ref jj1) ∧ Fld Z h a0 kc0 "downside" "Ljava/math/BigDecimal;" (.ref jj1) ∧ Fld Z h a0 kc0 "upside" "Ljava/math/BigDecimal;" (.ref jj1) ∧ Fld Z h a0 kc0 "exposure" "Ljava/math/BigDecimal;" (.ref jj1) ∧ Fld Z h a0 kc0 "pool" "Lcom/example/ringfence/ringfence/gate/Pool;" .null
theorem rm_m4_12 (l : Launch) (Z : State) (aZ : Array Value) (hw : ∀ d ∈ tables_1, d.before aZ Z = true) (ws : List Jvm.Cond) (a0 : Addr) (a1 : Addr) (jj0 : Addr) (jj1 : Addr) (h0 : Heap) (n0 : Nat) (Z0 : n0 ≤ h0.size) (zz2 : Fld Z h0 a1 kc0 "unrated" "Ljava/lang/String;" (.ref jj0)) (E_a0 : Exa Z h0 a0 kc0) (zz3 : Fld Z h0 a0 kc0 "unrated" "Ljava/lang/String;" .null) (zz4 : n0 ≤ a0) (zz5 : Fld Z h0 a1 kc0 "open" "Ljava/math/BigDecimal;" (.ref jj1)) (zz6 : a1 ≠ a0) (zz7 : Fld Z h0 a0 kc0 "open" "Ljava/math/BigDecimal;" (.ref jj1)) (zz8 : Fld Z h0 a1 kc0 "downside" "Ljava/math/BigDecimal;" (.ref jj1)) (zz9 : Fld Z h0 a0 kc0 "downside" "Ljava/math/BigDecimal;" (.ref jj1)) (zz10 : Fld Z h0 a1 kc0 "upside" "Ljava/math/BigDecimal;" (.ref jj1)) (zz11 : Fld Z h0 a0 kc0 "upside" "Ljava/math/BigDecimal;" (.ref jj1)) (zz12 : Fld Z h0 a1 kc0 "exposure" "Ljava/math/BigDecimal;" (.ref jj1)) (zz13 : Fld Z h0 a0 kc0 "exposure" "Ljava/math/BigDecimal;" (.ref jj1)) (zz14 : Fld Z h0 a0 kc0 "pool" "Lcom/example/ringfence/ringfence/gate/Pool;" .null) :
    MetN l Z yn_4 prog_36_method_6_code 2 none ws ({ frames := 0, cells := 0, slots := 0, locals := 0 } : Room) #[(.ref a0), (.ref a1)] h0 (Q_m4_12 Z a0 a1 jj0 jj1 h0 n0) := by
 refine MetN.of (plainFor_of_name pn_3) ?_
 intro p e s m below meth c s₁ hret hx hby hml hown hnm hlk hZ X0 e0
 have N0 := Fr.nil n0
 rw [ef_m4_12 m a0 a1]
 refine w_aloadN X0 hx (d4_0 hby) rfl rfl (pc' := 1) rfl ?_
 refine w_aloadN X0 hx (d4_1 hby) rfl rfl (pc' := 2) rfl ?_
 refine w_getF X0 hx "" hZ hown (Or.inl (wd_26 hw)) Via.refl e0 zz2 (d4_2 hby) (pc' := 5) rfl ?_
 intro T20 X20 e20
 refine w_putF X20 hx "" hZ hown (Or.inl (wd_26 hw)) Via.refl e20 zz3 E_a0 (Or.inl (wd_27 hw)) (wd_1 hw) (ty := (.object kc2)) (by decide) rfl rfl (d4_5 hby) (pc' := 8) rfl ?_
 intro T21 h21 X21 e21 W21
 have f22 : Fld Z h21 a0 kc0 "unrated" "Ljava/lang/String;" (.ref jj0) := zz3.same W21
 have K23 : Keep h0 h21 [a0] := (Keep.refl h0 [a0]).wr W21 (Or.inl (by simp))
 have N24 := Fr.snoc X21 N0 zz4
 refine w_aloadN X21 hx (d4_8 hby) rfl rfl (pc' := 9) rfl ?_
 refine w_aloadN X21 hx (d4_9 hby) rfl rfl (pc' := 10) rfl ?_
 have f25 : Fld Z h21 a1 kc0 "open" "Ljava/math/BigDecimal;" (.ref jj1) := (zz5.other W21 (Or.inl zz6))
 refine w_getF X21 hx "" hZ hown (Or.inl (wd_11 hw)) Via.refl e21 f25 (d4_10 hby) (pc' := 13) rfl ?_
 intro T26 X26 e26
 have f27 : Exa Z h21 a0 kc0 := (E_a0.wr W21)
 have f28 : Fld Z h21 a0 kc0 "open" "Ljava/math/BigDecimal;" (.ref jj1) := (zz7.other W21 (Or.inr (slot_ne (Or.inl (wd_12 hw)) (Or.inl (wd_27 hw)) (by decide) (t := (.object kc1)) (t' := (.object kc2)) (by decide) (by decide))))
 refine w_putF X26 hx "" hZ hown (Or.inl (wd_11 hw)) Via.refl e26 f28 f27 (Or.inl (wd_12 hw)) (wd_1 hw) (ty := (.object kc1)) (by decide) rfl rfl (d4_13 hby) (pc' := 16) rfl ?_
 intro T29 h29 X29 e29 W29
 have f30 : Fld Z h29 a0 kc0 "open" "Ljava/math/BigDecimal;" (.ref jj1) := f28.same W29
 have K31 : Keep h0 h29 [a0] := K23.wr W29 (Or.inl (by simp))
 have N32 := Fr.snoc X29 N24 zz4
 refine w_aloadN X29 hx (d4_16 hby) rfl rfl (pc' := 17) rfl ?_
 refine w_aloadN X29 hx (d4_17 hby) rfl rfl (pc' := 18) rfl ?_
 have f33 : Fld Z h29 a1 kc0 "downside" "Ljava/math/BigDecimal;" (.ref jj1) := ((zz8.other W21 (Or.inl zz6)).other W29 (Or.inl zz6))
 refine w_getF X29 hx "" hZ hown (Or.inl (wd_13 hw)) Via.refl e29 f33 (d4_18 hby) (pc' := 21) rfl ?_
 intro T34 X34 e34
 have f35 : Exa Z h29 a0 kc0 := (f27.wr W29)
 have f36 : Fld Z h29 a0 kc0 "downside" "Ljava/math/BigDecimal;" (.ref jj1) := ((zz9.other W21 (Or.inr (slot_ne (Or.inl (wd_14 hw)) (Or.inl (wd_27 hw)) (by decide) (t := (.object kc1)) (t' := (.object kc2)) (by decide) (by decide)))).other W29 (Or.inr (slot_ne (Or.inl (wd_14 hw)) (Or.inl (wd_12 hw)) (by decide) (t := (.object kc1)) (t' := (.object kc1)) (by decide) (by decide))))
 refine w_putF X34 hx "" hZ hown (Or.inl (wd_13 hw)) Via.refl e34 f36 f35 (Or.inl (wd_14 hw)) (wd_1 hw) (ty := (.object kc1)) (by decide) rfl rfl (d4_21 hby) (pc' := 24) rfl ?_
 intro T37 h37 X37 e37 W37
 have f38 : Fld Z h37 a0 kc0 "downside" "Ljava/math/BigDecimal;" (.ref jj1) := f36.same W37
 have K39 : Keep h0 h37 [a0] := K31.wr W37 (Or.inl (by simp))
 have N40 := Fr.snoc X37 N32 zz4
 refine w_aloadN X37 hx (d4_24 hby) rfl rfl (pc' := 25) rfl ?_
 refine w_aloadN X37 hx (d4_25 hby) rfl rfl (pc' := 26) rfl ?_
 have f41 : Fld Z h37 a1 kc0 "upside" "Ljava/math/BigDecimal;" (.ref jj1) := (((zz10.other W21 (Or.inl zz6)).other W29 (Or.inl zz6)).other W37 (Or.inl zz6))
 refine w_getF X37 hx "" hZ hown (Or.inl (wd_15 hw)) Via.refl e37 f41 (d4_26 hby) (pc' := 29) rfl ?_
 intro T42 X42 e42
 have f43 : Exa Z h37 a0 kc0 := (f35.wr W37)
 have f44 : Fld Z h37 a0 kc0 "upside" "Ljava/math/BigDecimal;" (.ref jj1) := (((zz11.other W21 (Or.inr (slot_ne (Or.inl (wd_16 hw)) (Or.inl (wd_27 hw)) (by decide) (t := (.object kc1)) (t' := (.object kc2)) (by decide) (by decide)))).other W29 (Or.inr (slot_ne (Or.inl (wd_16 hw)) (Or.inl (wd_12 hw)) (by decide) (t := (.object kc1)) (t' := (.object kc1)) (by decide) (by decide)))).other W37 (Or.inr (slot_ne (Or.inl (wd_16 hw)) (Or.inl (wd_14 hw)) (by decide) (t := (.object kc1)) (t' := (.object kc1)) (by decide) (by decide))))
 refine w_putF X42 hx "" hZ hown (Or.inl (wd_15 hw)) Via.refl e42 f44 f43 (Or.inl (wd_16 hw)) (wd_1 hw) (ty := (.object kc1)) (by decide) rfl rfl (d4_29 hby) (pc' := 32) rfl ?_
 intro T45 h45 X45 e45 W45
 have f46 : Fld Z h45 a0 kc0 "upside" "Ljava/math/BigDecimal;" (.ref jj1) := f44.same W45
 have K47 : Keep h0 h45 [a0] := K39.wr W45 (Or.inl (by simp))
 have N48 := Fr.snoc X45 N40 zz4
 refine w_aloadN X45 hx (d4_32 hby) rfl rfl (pc' := 33) rfl ?_
 refine w_aloadN X45 hx (d4_33 hby) rfl rfl (pc' := 34) rfl ?_
 have f49 : Fld Z h45 a1 kc0 "exposure" "Ljava/math/BigDecimal;" (.ref jj1) := ((((zz12.other W21 (Or.inl zz6)).other W29 (Or.inl zz6)).other W37 (Or.inl zz6)).other W45 (Or.inl zz6))
 refine w_getF X45 hx "" hZ hown (Or.inl (wd_17 hw)) Via.refl e45 f49 (d4_34 hby) (pc' := 37) rfl ?_
 intro T50 X50 e50
 have f51 : Exa Z h45 a0 kc0 := (f43.wr W45)
 have f52 : Fld Z h45 a0 kc0 "exposure" "Ljava/math/BigDecimal;" (.ref jj1) := ((((zz13.other W21 (Or.inr (slot_ne (Or.inl (wd_18 hw)) (Or.inl (wd_27 hw)) (by decide) (t := (.object kc1)) (t' := (.object kc2)) (by decide) (by decide)))).other W29 (Or.inr (slot_ne (Or.inl (wd_18 hw)) (Or.inl (wd_12 hw)) (by decide) (t := (.object kc1)) (t' := (.object kc1)) (by decide) (by decide)))).other W37 (Or.inr (slot_ne (Or.inl (wd_18 hw)) (Or.inl (wd_14 hw)) (by decide) (t := (.object kc1)) (t' := (.object kc1)) (by decide) (by decide)))).other W45 (Or.inr (slot_ne (Or.inl (wd_18 hw)) (Or.inl (wd_16 hw)) (by decide) (t := (.object kc1)) (t' := (.object kc1)) (by decide) (by decide))))
 refine w_putF X50 hx "" hZ hown (Or.inl (wd_17 hw)) Via.refl e50 f52 f51 (Or.inl (wd_18 hw)) (wd_1 hw) (ty := (.object kc1)) (by decide) rfl rfl (d4_37 hby) (pc' := 40) rfl ?_
 intro T53 h53 X53 e53 W53
 have f54 : Fld Z h53 a0 kc0 "exposure" "Ljava/math/BigDecimal;" (.ref jj1) := f52.same W53
 have K55 : Keep h0 h53 [a0] := K47.wr W53 (Or.inl (by simp))
 have N56 := Fr.snoc X53 N48 zz4
 have f57 : Exa Z h53 a0 kc0 := (f51.wr W53)
 have f58 : Fld Z h53 a0 kc0 "unrated" "Ljava/lang/String;" (.ref jj0) := ((((f22.other W29 (Or.inr (slot_ne (Or.inl (wd_27 hw)) (Or.inl (wd_12 hw)) (by decide) (t := (.object kc2)) (t' := (.object kc1)) (by decide) (by decide)))).other W37 (Or.inr (slot_ne (Or.inl (wd_27 hw)) (Or.inl (wd_14 hw)) (by decide) (t := (.object kc2)) (t' := (.object kc1)) (by decide) (by decide)))).other W45 (Or.inr (slot_ne (Or.inl (wd_27 hw)) (Or.inl (wd_16 hw)) (by decide) (t := (.object kc2)) (t' := (.object kc1)) (by decide) (by decide)))).other W53 (Or.inr (slot_ne (Or.inl (wd_27 hw)) (Or.inl (wd_18 hw)) (by decide) (t := (.object kc2)) (t' := (.object kc1)) (by decide) (by decide))))
 have f59 : Fld Z h53 a0 kc0 "open" "Ljava/math/BigDecimal;" (.ref jj1) := (((f30.other W37 (Or.inr (slot_ne (Or.inl (wd_12 hw)) (Or.inl (wd_14 hw)) (by decide) (t := (.object kc1)) (t' := (.object kc1)) (by decide) (by decide)))).other W45 (Or.inr (slot_ne (Or.inl (wd_12 hw)) (Or.inl (wd_16 hw)) (by decide) (t := (.object kc1)) (t' := (.object kc1)) (by decide) (by decide)))).other W53 (Or.inr (slot_ne (Or.inl (wd_12 hw)) (Or.inl (wd_18 hw)) (by decide) (t := (.object kc1)) (t' := (.object kc1)) (by decide) (by decide))))
 have f60 : Fld Z h53 a0 kc0 "downside" "Ljava/math/BigDecimal;" (.ref jj1) := ((f38.other W45 (Or.inr (slot_ne (Or.inl (wd_14 hw)) (Or.inl (wd_16 hw)) (by decide) (t := (.object kc1)) (t' := (.object kc1)) (by decide) (by decide)))).other W53 (Or.inr (slot_ne (Or.inl (wd_14 hw)) (Or.inl (wd_18 hw)) (by decide) (t := (.object kc1)) (t' := (.object kc1)) (by decide) (by decide))))
 have f61 : Fld Z h53 a0 kc0 "upside" "Ljava/math/BigDecimal;" (.ref jj1) := (f46.other W53 (Or.inr (slot_ne (Or.inl (wd_16 hw)) (Or.inl (wd_18 hw)) (by decide) (t := (.object kc1)) (t' := (.object kc1)) (by decide) (by decide))))
 have f62 : Fld Z h53 a0 kc0 "pool" "Lcom/example/ringfence/ringfence/gate/Pool;" .null := (((((zz14.other W21 (Or.inr (slot_ne (Or.inr (wd_20 hw)) (Or.inl (wd_27 hw)) (by decide) (t := (.object kc3)) (t' := (.object kc2)) (by decide) (by decide)))).other W29 (Or.inr (slot_ne (Or.inr (wd_20 hw)) (Or.inl (wd_12 hw)) (by decide) (t := (.object kc3)) (t' := (.object kc1)) (by decide) (by decide)))).other W37 (Or.inr (slot_ne (Or.inr (wd_20 hw)) (Or.inl (wd_14 hw)) (by decide) (t := (.object kc3)) (t' := (.object kc1)) (by decide) (by decide)))).other W45 (Or.inr (slot_ne (Or.inr (wd_20 hw)) (Or.inl (wd_16 hw)) (by decide) (t := (.object kc3)) (t' := (.object kc1)) (by decide) (by decide)))).other W53 (Or.inr (slot_ne (Or.inr (wd_20 hw)) (Or.inl (wd_18 hw)) (by decide) (t := (.object kc3)) (t' := (.object kc1)) (by decide) (by decide))))
 exact w_done X53 hlk (v := none) e53 (fun _ => rfl) (fun fs hr => X53.returnOut hx hret (d4_40 hby) hr) (by decide) (by decide) (⟨rfl, N56, K55, f57, f58, f59, f60, f61, f54, f62⟩)
theorem ef_m5_13 (m : MethodId) (a0 : Addr)  : entryFrame m #[(.ref a0)] 1 = mkF m 0 #[.val (.ref a0)] [] := by first | (simp [entryFrame, mkF, argsToLocals, Value.category]; done) | rfl
def Q_m5_13 (Z : State) (a0 : Addr) (jj0 : Addr) (h0 : Heap) (n0 : Nat) (v : Option Value) (h : Heap) (L : List Loc) : Prop := v = some (.ref jj0) ∧ Fr n0 L ∧ h = h0
theorem rm_m5_13 (l : Launch) (Z : State) (aZ : Array Value) (hw : ∀ d ∈ tables_1, d.before aZ Z = true) (ws : List Jvm.Cond) (a0 : Addr) (jj0 : Addr) (h0 : Heap) (n0 : Nat) (Z0 : n0 ≤ h0.size) (zz1 : Fld Z h0 a0 kc0 "unrated" "Ljava/lang/String;" (.ref jj0)) :
    MetN l Z yn_5 prog_36_method_4_code 1 (some (.object kc2)) ws ({ frames := 0, cells := 0, slots := 0, locals := 0 } : Room) #[(.ref a0)] h0 (Q_m5_13 Z a0 jj0 h0 n0) := by
 refine MetN.of (plainFor_of_name pn_3) ?_
 intro p e s m below meth c s₁ hret hx hby hml hown hnm hlk hZ X0 e0
 have N0 := Fr.nil n0
 rw [ef_m5_13 m a0]
 refine w_aloadN X0 hx (d5_0 hby) rfl rfl (pc' := 1) rfl ?_
 refine w_getF X0 hx "" hZ hown (Or.inl (wd_26 hw)) Via.refl e0 zz1 (d5_1 hby) (pc' := 4) rfl ?_
 intro T20 X20 e20
 exact w_done X20 hlk (v := some (.ref jj0)) e20 (fun h => by rw [hret] at h; cases h) (fun fs hr => retOut X20 hx hret rfl (Or.inr (Or.inr (Or.inr (Or.inr ⟨rfl, rfl, rfl⟩)))) (d5_4 hby) hr) (by decide) (by decide) (⟨rfl, N0, rfl⟩)
theorem ef_m17_15 (m : MethodId) (a0 : Addr)  : entryFrame m #[(.ref a0), (.ref a0)] 3 = mkF m 0 #[.val (.ref a0), .val (.ref a0), .unset] [] := by first | (simp [entryFrame, mkF, argsToLocals, Value.category]; done) | rfl
def Q_m17_15 (Z : State) (a0 : Addr) (h0 : Heap) (n0 : Nat) (v : Option Value) (h : Heap) (L : List Loc) : Prop := v = some (.int (1 : Int32)) ∧ Fr n0 L ∧ h = h0
theorem rm_m17_15 (l : Launch) (Z : State) (aZ : Array Value) (hw : ∀ d ∈ tables_1, d.before aZ Z = true) (ws : List Jvm.Cond) (a0 : Addr) (h0 : Heap) (n0 : Nat) (Z0 : n0 ≤ h0.size) :
    MetN l Z yn_17 jdk_42_method_66_code 3 (some .boolean) ws ({ frames := 0, cells := 0, slots := 0, locals := 0 } : Room) #[(.ref a0), (.ref a0)] h0 (Q_m17_15 Z a0 h0 n0) := by
 refine MetN.of (plainFor_of_name pn_1) ?_
 intro p e s m below meth c s₁ hret hx hby hml hown hnm hlk hZ X0 e0
 have N0 := Fr.nil n0
 rw [ef_m17_15 m a0]
 refine w_aloadN X0 hx (d17_0 hby) rfl rfl (pc' := 1) rfl ?_
 refine w_aloadN X0 hx (d17_1 hby) rfl rfl (pc' := 2) rfl ?_
 refine w_acmp X0 hx (d17_2 hby) (same := true) rfl rfl (decide_eq_true rfl) (pc' := 5) (by decide) (by decide) ?_
 refine w_iconst X0 hx (d17_5 hby) (v := (1 : Int32)) rfl (pc' := 6) rfl ?_
 exact w_done X0 hlk (v := some (.int (1 : Int32))) e0 (fun h => by rw [hret] at h; cases h) (fun fs hr => retN X0 hx (t := .boolean) hret (by simp) (d17_6 hby) hr) (by decide) (by decide) (⟨rfl, N0, rfl⟩)
theorem ef_m6_14 (m : MethodId) (a0 : Addr)  : entryFrame m #[(.ref a0), (.ref a0)] 2 = mkF m 0 #[.val (.ref a0), .val (.ref a0)] [] := by first | (simp [entryFrame, mkF, argsToLocals, Value.category]; done) | rfl
def Q_m6_14 (Z : State) (a0 : Addr) (h0 : Heap) (n0 : Nat) (v : Option Value) (h : Heap) (L : List Loc) : Prop := v = some (.int (1 : Int32)) ∧ Fr n0 L ∧ h = h0
theorem rm_m6_14 (l : Launch) (Z : State) (aZ : Array Value) (hw : ∀ d ∈ tables_1, d.before aZ Z = true) (ws : List Jvm.Cond) (a0 : Addr) (h0 : Heap) (n0 : Nat) (Z0 : n0 ≤ h0.size) (E_a0 : Exa Z h0 a0 kc2) :
    MetN l Z yn_6 method_4_code 2 (some .boolean) ws ({ frames := 1, cells := 0, slots := 0, locals := 14 } : Room) #[(.ref a0), (.ref a0)] h0 (Q_m6_14 Z a0 h0 n0) := by
 refine MetN.of (plainFor_of_name pn_2) ?_
 intro p e s m below meth c s₁ hret hx hby hml hown hnm hlk hZ X0 e0
 have N0 := Fr.nil n0
 rw [ef_m6_14 m a0]
 refine w_aloadN X0 hx (d6_0 hby) rfl rfl (pc' := 1) rfl ?_
 refine w_ifnonnullY X0 hx (d6_1 hby) (pc' := 14) (by decide) (by decide) ?_
 refine w_aloadN X0 hx (d6_14 hby) rfl rfl (pc' := 15) rfl ?_
 refine w_aloadN X0 hx (d6_15 hby) rfl rfl (pc' := 16) rfl ?_
 obtain ⟨cq20, kq20, q20a, q20b, q20c⟩ := isOf hZ e0 E_a0
 refine w_virtual X0 hx (y := yn_17) (z := yn_17) hown (mvT hZ (wd_87 hw)) (mvT hZ (wd_88 hw)) (notFace_of_selects (args := #[]) (mvT hZ (wd_90 hw))) (mvT hZ (wd_90 hw)) (mvT hZ (wd_89 hw)) (by decide) (backOf (W := 0) (rm_m17_15 l Z aZ hw [] a0 h0 n0 Z0 ) hZ (wd_91 hw) (wd_48 hw) (by decide) (by decide)) q20a q20c (by rw [hml]; rfl) [(.ref a0)] (lenOf pd_11 rfl) rfl (Nat.le_of_eq rfl) (d6_16 hby) (fun _ _ => ⟨rfl, e0, (by decide : 0 + 0 ≤ _), (by decide : 0 + 0 ≤ _)⟩) (pc' := 19) rfl ?_
 rintro _ _ ⟨T20, L20, k20, n20⟩ X20 ⟨Lc20, hQ20, l20, y20, z20⟩
 dsimp only [Pt.U, Pt.locs, Pt.cells, Pt.slots] at X20 l20 y20 z20 hQ20 ⊢
 subst l20 y20 z20
 obtain ⟨rfl, N20q, e20⟩ := hQ20
 have N21 := Fr.app N0 N20q
 show Runs _ _ _ _ (T20.setTop (mkF m 19 #[.val (.ref a0), .val (.ref a0)] [(.int (1 : Int32))]))
 exact w_done X20 hlk (v := some (.int (1 : Int32))) e20 (fun h => by rw [hret] at h; cases h) (fun fs hr => retN X20 hx (t := .boolean) hret (by simp) (d6_19 hby) hr) (by decide) (by decide) (⟨rfl, N21, rfl⟩)
theorem ef_m4_16 (m : MethodId) (a0 : Addr) (a1 : Addr)  : entryFrame m #[(.ref a0), (.ref a1)] 2 = mkF m 0 #[.val (.ref a0), .val (.ref a1)] [] := by first | (simp [entryFrame, mkF, argsToLocals, Value.category]; done) | rfl
def Q_m4_16 (Z : State) (a0 : Addr) (a1 : Addr) (jj0 : Addr) (jj1 : Addr) (h0 : Heap) (n0 : Nat) (v : Option Value) (h : Heap) (L : List Loc) : Prop := v = none ∧ Fr n0 L ∧ Keep h0 h [a0] ∧ Exa Z h a0 kc0 ∧ Fld Z h a0 kc0 "unrated" "Ljava/lang/String;" (.ref jj0) ∧ Fld Z h a0 kc0 "open" "Ljava/math/BigDecimal;" (.ref jj1) ∧ Fld Z h a0 kc0 "downside" "Ljava/math/BigDecimal;" (.ref jj1) ∧ Fld Z h a0 kc0 "upside" "Ljava/math/BigDecimal;" (.ref jj1) ∧ Fld Z h a0 kc0 "exposure" "Ljava/math/BigDecimal;" (.ref jj1) ∧ Fld Z h a0 kc0 "pool" "Lcom/example/ringfence/ringfence/gate/Pool;" .null
theorem rm_m4_16 (l : Launch) (Z : State) (aZ : Array Value) (hw : ∀ d ∈ tables_1, d.before aZ Z = true) (ws : List Jvm.Cond) (a0 : Addr) (a1 : Addr) (jj0 : Addr) (jj1 : Addr) (h0 : Heap) (n0 : Nat) (Z0 : n0 ≤ h0.size) (zz2 : Fld Z h0 a1 kc0 "unrated" "Ljava/lang/String;" (.ref jj0)) (E_a0 : Exa Z h0 a0 kc0) (zz3 : Fld Z h0 a0 kc0 "unrated" "Ljava/lang/String;" (.ref jj0)) (zz4 : n0 ≤ a0) (zz5 : Fld Z h0 a1 kc0 "open" "Ljava/math/BigDecimal;" (.ref jj1)) (zz6 : a1 ≠ a0) (zz7 : Fld Z h0 a0 kc0 "open" "Ljava/math/BigDecimal;" (.ref jj1)) (zz8 : Fld Z h0 a1 kc0 "downside" "Ljava/math/BigDecimal;" (.ref jj1)) (zz9 : Fld Z h0 a0 kc0 "downside" "Ljava/math/BigDecimal;" (.ref jj1)) (zz10 : Fld Z h0 a1 kc0 "upside" "Ljava/math/BigDecimal;" (.ref jj1)) (zz11 : Fld Z h0 a0 kc0 "upside" "Ljava/math/BigDecimal;" (.ref jj1)) (zz12 : Fld Z h0 a1 kc0 "exposure" "Ljava/math/BigDecimal;" (.ref jj1)) (zz13 : Fld Z h0 a0 kc0 "exposure" "Ljava/math/BigDecimal;" (.ref jj1)) (zz14 : Fld Z h0 a0 kc0 "pool" "Lcom/example/ringfence/ringfence/gate/Pool;" .null) :
    MetN l Z yn_4 prog_36_method_6_code 2 none ws ({ frames := 0, cells := 0, slots := 0, locals := 0 } : Room) #[(.ref a0), (.ref a1)] h0 (Q_m4_16 Z a0 a1 jj0 jj1 h0 n0) := by
 refine MetN.of (plainFor_of_name pn_3) ?_
 intro p e s m below meth c s₁ hret hx hby hml hown hnm hlk hZ X0 e0
 have N0 := Fr.nil n0
 rw [ef_m4_16 m a0 a1]
 refine w_aloadN X0 hx (d4_0 hby) rfl rfl (pc' := 1) rfl ?_
 refine w_aloadN X0 hx (d4_1 hby) rfl rfl (pc' := 2) rfl ?_
 refine w_getF X0 hx "" hZ hown (Or.inl (wd_26 hw)) Via.refl e0 zz2 (d4_2 hby) (pc' := 5) rfl ?_
 intro T20 X20 e20
 refine w_putF X20 hx "" hZ hown (Or.inl (wd_26 hw)) Via.refl e20 zz3 E_a0 (Or.inl (wd_27 hw)) (wd_1 hw) (ty := (.object kc2)) (by decide) rfl rfl (d4_5 hby) (pc' := 8) rfl ?_
 intro T21 h21 X21 e21 W21
 have f22 : Fld Z h21 a0 kc0 "unrated" "Ljava/lang/String;" (.ref jj0) := zz3.same W21
 have K23 : Keep h0 h21 [a0] := (Keep.refl h0 [a0]).wr W21 (Or.inl (by simp))
 have N24 := Fr.snoc X21 N0 zz4
 refine w_aloadN X21 hx (d4_8 hby) rfl rfl (pc' := 9) rfl ?_
 refine w_aloadN X21 hx (d4_9 hby) rfl rfl (pc' := 10) rfl ?_
 have f25 : Fld Z h21 a1 kc0 "open" "Ljava/math/BigDecimal;" (.ref jj1) := (zz5.other W21 (Or.inl zz6))
 refine w_getF X21 hx "" hZ hown (Or.inl (wd_11 hw)) Via.refl e21 f25 (d4_10 hby) (pc' := 13) rfl ?_
 intro T26 X26 e26
 have f27 : Exa Z h21 a0 kc0 := (E_a0.wr W21)
 have f28 : Fld Z h21 a0 kc0 "open" "Ljava/math/BigDecimal;" (.ref jj1) := (zz7.other W21 (Or.inr (slot_ne (Or.inl (wd_12 hw)) (Or.inl (wd_27 hw)) (by decide) (t := (.object kc1)) (t' := (.object kc2)) (by decide) (by decide))))
 refine w_putF X26 hx "" hZ hown (Or.inl (wd_11 hw)) Via.refl e26 f28 f27 (Or.inl (wd_12 hw)) (wd_1 hw) (ty := (.object kc1)) (by decide) rfl rfl (d4_13 hby) (pc' := 16) rfl ?_
 intro T29 h29 X29 e29 W29
 have f30 : Fld Z h29 a0 kc0 "open" "Ljava/math/BigDecimal;" (.ref jj1) := f28.same W29
 have K31 : Keep h0 h29 [a0] := K23.wr W29 (Or.inl (by simp))
 have N32 := Fr.snoc X29 N24 zz4
 refine w_aloadN X29 hx (d4_16 hby) rfl rfl (pc' := 17) rfl ?_
 refine w_aloadN X29 hx (d4_17 hby) rfl rfl (pc' := 18) rfl ?_
 have f33 : Fld Z h29 a1 kc0 "downside" "Ljava/math/BigDecimal;" (.ref jj1) := ((zz8.other W21 (Or.inl zz6)).other W29 (Or.inl zz6))
 refine w_getF X29 hx "" hZ hown (Or.inl (wd_13 hw)) Via.refl e29 f33 (d4_18 hby) (pc' := 21) rfl ?_
 intro T34 X34 e34
 have f35 : Exa Z h29 a0 kc0 := (f27.wr W29)
 have f36 : Fld Z h29 a0 kc0 "downside" "Ljava/math/BigDecimal;" (.ref jj1) := ((zz9.other W21 (Or.inr (slot_ne (Or.inl (wd_14 hw)) (Or.inl (wd_27 hw)) (by decide) (t := (.object kc1)) (t' := (.object kc2)) (by decide) (by decide)))).other W29 (Or.inr (slot_ne (Or.inl (wd_14 hw)) (Or.inl (wd_12 hw)) (by decide) (t := (.object kc1)) (t' := (.object kc1)) (by decide) (by decide))))
 refine w_putF X34 hx "" hZ hown (Or.inl (wd_13 hw)) Via.refl e34 f36 f35 (Or.inl (wd_14 hw)) (wd_1 hw) (ty := (.object kc1)) (by decide) rfl rfl (d4_21 hby) (pc' := 24) rfl ?_
 intro T37 h37 X37 e37 W37
 have f38 : Fld Z h37 a0 kc0 "downside" "Ljava/math/BigDecimal;" (.ref jj1) := f36.same W37
 have K39 : Keep h0 h37 [a0] := K31.wr W37 (Or.inl (by simp))
 have N40 := Fr.snoc X37 N32 zz4
 refine w_aloadN X37 hx (d4_24 hby) rfl rfl (pc' := 25) rfl ?_
 refine w_aloadN X37 hx (d4_25 hby) rfl rfl (pc' := 26) rfl ?_
 have f41 : Fld Z h37 a1 kc0 "upside" "Ljava/math/BigDecimal;" (.ref jj1) := (((zz10.other W21 (Or.inl zz6)).other W29 (Or.inl zz6)).other W37 (Or.inl zz6))
 refine w_getF X37 hx "" hZ hown (Or.inl (wd_15 hw)) Via.refl e37 f41 (d4_26 hby) (pc' := 29) rfl ?_
 intro T42 X42 e42
 have f43 : Exa Z h37 a0 kc0 := (f35.wr W37)
 have f44 : Fld Z h37 a0 kc0 "upside" "Ljava/math/BigDecimal;" (.ref jj1) := (((zz11.other W21 (Or.inr (slot_ne (Or.inl (wd_16 hw)) (Or.inl (wd_27 hw)) (by decide) (t := (.object kc1)) (t' := (.object kc2)) (by decide) (by decide)))).other W29 (Or.inr (slot_ne (Or.inl (wd_16 hw)) (Or.inl (wd_12 hw)) (by decide) (t := (.object kc1)) (t' := (.object kc1)) (by decide) (by decide)))).other W37 (Or.inr (slot_ne (Or.inl (wd_16 hw)) (Or.inl (wd_14 hw)) (by decide) (t := (.object kc1)) (t' := (.object kc1)) (by decide) (by decide))))
 refine w_putF X42 hx "" hZ hown (Or.inl (wd_15 hw)) Via.refl e42 f44 f43 (Or.inl (wd_16 hw)) (wd_1 hw) (ty := (.object kc1)) (by decide) rfl rfl (d4_29 hby) (pc' := 32) rfl ?_
 intro T45 h45 X45 e45 W45
 have f46 : Fld Z h45 a0 kc0 "upside" "Ljava/math/BigDecimal;" (.ref jj1) := f44.same W45
 have K47 : Keep h0 h45 [a0] := K39.wr W45 (Or.inl (by simp))
 have N48 := Fr.snoc X45 N40 zz4
 refine w_aloadN X45 hx (d4_32 hby) rfl rfl (pc' := 33) rfl ?_
 refine w_aloadN X45 hx (d4_33 hby) rfl rfl (pc' := 34) rfl ?_
 have f49 : Fld Z h45 a1 kc0 "exposure" "Ljava/math/BigDecimal;" (.ref jj1) := ((((zz12.other W21 (Or.inl zz6)).other W29 (Or.inl zz6)).other W37 (Or.inl zz6)).other W45 (Or.inl zz6))
 refine w_getF X45 hx "" hZ hown (Or.inl (wd_17 hw)) Via.refl e45 f49 (d4_34 hby) (pc' := 37) rfl ?_
 intro T50 X50 e50
 have f51 : Exa Z h45 a0 kc0 := (f43.wr W45)
 have f52 : Fld Z h45 a0 kc0 "exposure" "Ljava/math/BigDecimal;" (.ref jj1) := ((((zz13.other W21 (Or.inr (slot_ne (Or.inl (wd_18 hw)) (Or.inl (wd_27 hw)) (by decide) (t := (.object kc1)) (t' := (.object kc2)) (by decide) (by decide)))).other W29 (Or.inr (slot_ne (Or.inl (wd_18 hw)) (Or.inl (wd_12 hw)) (by decide) (t := (.object kc1)) (t' := (.object kc1)) (by decide) (by decide)))).other W37 (Or.inr (slot_ne (Or.inl (wd_18 hw)) (Or.inl (wd_14 hw)) (by decide) (t := (.object kc1)) (t' := (.object kc1)) (by decide) (by decide)))).other W45 (Or.inr (slot_ne (Or.inl (wd_18 hw)) (Or.inl (wd_16 hw)) (by decide) (t := (.object kc1)) (t' := (.object kc1)) (by decide) (by decide))))
 refine w_putF X50 hx "" hZ hown (Or.inl (wd_17 hw)) Via.refl e50 f52 f51 (Or.inl (wd_18 hw)) (wd_1 hw) (ty := (.object kc1)) (by decide) rfl rfl (d4_37 hby) (pc' := 40) rfl ?_
 intro T53 h53 X53 e53 W53
 have f54 : Fld Z h53 a0 kc0 "exposure" "Ljava/math/BigDecimal;" (.ref jj1) := f52.same W53
 have K55 : Keep h0 h53 [a0] := K47.wr W53 (Or.inl (by simp))
 have N56 := Fr.snoc X53 N48 zz4
 have f57 : Exa Z h53 a0 kc0 := (f51.wr W53)
 have f58 : Fld Z h53 a0 kc0 "unrated" "Ljava/lang/String;" (.ref jj0) := ((((f22.other W29 (Or.inr (slot_ne (Or.inl (wd_27 hw)) (Or.inl (wd_12 hw)) (by decide) (t := (.object kc2)) (t' := (.object kc1)) (by decide) (by decide)))).other W37 (Or.inr (slot_ne (Or.inl (wd_27 hw)) (Or.inl (wd_14 hw)) (by decide) (t := (.object kc2)) (t' := (.object kc1)) (by decide) (by decide)))).other W45 (Or.inr (slot_ne (Or.inl (wd_27 hw)) (Or.inl (wd_16 hw)) (by decide) (t := (.object kc2)) (t' := (.object kc1)) (by decide) (by decide)))).other W53 (Or.inr (slot_ne (Or.inl (wd_27 hw)) (Or.inl (wd_18 hw)) (by decide) (t := (.object kc2)) (t' := (.object kc1)) (by decide) (by decide))))
 have f59 : Fld Z h53 a0 kc0 "open" "Ljava/math/BigDecimal;" (.ref jj1) := (((f30.other W37 (Or.inr (slot_ne (Or.inl (wd_12 hw)) (Or.inl (wd_14 hw)) (by decide) (t := (.object kc1)) (t' := (.object kc1)) (by decide) (by decide)))).other W45 (Or.inr (slot_ne (Or.inl (wd_12 hw)) (Or.inl (wd_16 hw)) (by decide) (t := (.object kc1)) (t' := (.object kc1)) (by decide) (by decide)))).other W53 (Or.inr (slot_ne (Or.inl (wd_12 hw)) (Or.inl (wd_18 hw)) (by decide) (t := (.object kc1)) (t' := (.object kc1)) (by decide) (by decide))))
 have f60 : Fld Z h53 a0 kc0 "downside" "Ljava/math/BigDecimal;" (.ref jj1) := ((f38.other W45 (Or.inr (slot_ne (Or.inl (wd_14 hw)) (Or.inl (wd_16 hw)) (by decide) (t := (.object kc1)) (t' := (.object kc1)) (by decide) (by decide)))).other W53 (Or.inr (slot_ne (Or.inl (wd_14 hw)) (Or.inl (wd_18 hw)) (by decide) (t := (.object kc1)) (t' := (.object kc1)) (by decide) (by decide))))
 have f61 : Fld Z h53 a0 kc0 "upside" "Ljava/math/BigDecimal;" (.ref jj1) := (f46.other W53 (Or.inr (slot_ne (Or.inl (wd_16 hw)) (Or.inl (wd_18 hw)) (by decide) (t := (.object kc1)) (t' := (.object kc1)) (by decide) (by decide))))
 have f62 : Fld Z h53 a0 kc0 "pool" "Lcom/example/ringfence/ringfence/gate/Pool;" .null := (((((zz14.other W21 (Or.inr (slot_ne (Or.inr (wd_20 hw)) (Or.inl (wd_27 hw)) (by decide) (t := (.object kc3)) (t' := (.object kc2)) (by decide) (by decide)))).other W29 (Or.inr (slot_ne (Or.inr (wd_20 hw)) (Or.inl (wd_12 hw)) (by decide) (t := (.object kc3)) (t' := (.object kc1)) (by decide) (by decide)))).other W37 (Or.inr (slot_ne (Or.inr (wd_20 hw)) (Or.inl (wd_14 hw)) (by decide) (t := (.object kc3)) (t' := (.object kc1)) (by decide) (by decide)))).other W45 (Or.inr (slot_ne (Or.inr (wd_20 hw)) (Or.inl (wd_16 hw)) (by decide) (t := (.object kc3)) (t' := (.object kc1)) (by decide) (by decide)))).other W53 (Or.inr (slot_ne (Or.inr (wd_20 hw)) (Or.inl (wd_18 hw)) (by decide) (t := (.object kc3)) (t' := (.object kc1)) (by decide) (by decide))))
 exact w_done X53 hlk (v := none) e53 (fun _ => rfl) (fun fs hr => X53.returnOut hx hret (d4_40 hby) hr) (by decide) (by decide) (⟨rfl, N56, K55, f57, f58, f59, f60, f61, f54, f62⟩)
theorem ef_m4_17 (m : MethodId) (a0 : Addr) (a1 : Addr)  : entryFrame m #[(.ref a0), (.ref a1)] 2 = mkF m 0 #[.val (.ref a0), .val (.ref a1)] [] := by first | (simp [entryFrame, mkF, argsToLocals, Value.category]; done) | rfl
def Q_m4_17 (Z : State) (a0 : Addr) (a1 : Addr) (jj0 : Addr) (jj1 : Addr) (h0 : Heap) (n0 : Nat) (v : Option Value) (h : Heap) (L : List Loc) : Prop := v = none ∧ Fr n0 L ∧ Keep h0 h [a0] ∧ Exa Z h a0 kc0 ∧ Fld Z h a0 kc0 "unrated" "Ljava/lang/String;" .null ∧ Fld Z h a0 kc0 "open" "Ljava/math/BigDecimal;" (.ref jj1) ∧ Fld Z h a0 kc0 "downside" "Ljava/math/BigDecimal;" (.ref jj1) ∧ Fld Z h a0 kc0 "upside" "Ljava/math/BigDecimal;" (.ref jj1) ∧ Fld Z h a0 kc0 "exposure" "Ljava/math/BigDecimal;" (.ref jj1) ∧ Fld Z h a0 kc0 "pool" "Lcom/example/ringfence/ringfence/gate/Pool;" .null
theorem rm_m4_17 (l : Launch) (Z : State) (aZ : Array Value) (hw : ∀ d ∈ tables_1, d.before aZ Z = true) (ws : List Jvm.Cond) (a0 : Addr) (a1 : Addr) (jj0 : Addr) (jj1 : Addr) (h0 : Heap) (n0 : Nat) (Z0 : n0 ≤ h0.size) (zz2 : Fld Z h0 a1 kc0 "unrated" "Ljava/lang/String;" .null) (E_a0 : Exa Z h0 a0 kc0) (zz3 : Fld Z h0 a0 kc0 "unrated" "Ljava/lang/String;" (.ref jj0)) (zz4 : n0 ≤ a0) (zz5 : Fld Z h0 a1 kc0 "open" "Ljava/math/BigDecimal;" (.ref jj1)) (zz6 : a1 ≠ a0) (zz7 : Fld Z h0 a0 kc0 "open" "Ljava/math/BigDecimal;" (.ref jj1)) (zz8 : Fld Z h0 a1 kc0 "downside" "Ljava/math/BigDecimal;" (.ref jj1)) (zz9 : Fld Z h0 a0 kc0 "downside" "Ljava/math/BigDecimal;" (.ref jj1)) (zz10 : Fld Z h0 a1 kc0 "upside" "Ljava/math/BigDecimal;" (.ref jj1)) (zz11 : Fld Z h0 a0 kc0 "upside" "Ljava/math/BigDecimal;" (.ref jj1)) (zz12 : Fld Z h0 a1 kc0 "exposure" "Ljava/math/BigDecimal;" (.ref jj1)) (zz13 : Fld Z h0 a0 kc0 "exposure" "Ljava/math/BigDecimal;" (.ref jj1)) (zz14 : Fld Z h0 a0 kc0 "pool" "Lcom/example/ringfence/ringfence/gate/Pool;" .null) :
    MetN l Z yn_4 prog_36_method_6_code 2 none ws ({ frames := 0, cells := 0, slots := 0, locals := 0 } : Room) #[(.ref a0), (.ref a1)] h0 (Q_m4_17 Z a0 a1 jj0 jj1 h0 n0) := by
 refine MetN.of (plainFor_of_name pn_3) ?_
 intro p e s m below meth c s₁ hret hx hby hml hown hnm hlk hZ X0 e0
 have N0 := Fr.nil n0
 rw [ef_m4_17 m a0 a1]
 refine w_aloadN X0 hx (d4_0 hby) rfl rfl (pc' := 1) rfl ?_
 refine w_aloadN X0 hx (d4_1 hby) rfl rfl (pc' := 2) rfl ?_
 refine w_getF X0 hx "" hZ hown (Or.inl (wd_26 hw)) Via.refl e0 zz2 (d4_2 hby) (pc' := 5) rfl ?_
 intro T20 X20 e20
 refine w_putF X20 hx "" hZ hown (Or.inl (wd_26 hw)) Via.refl e20 zz3 E_a0 (Or.inl (wd_27 hw)) (wd_1 hw) (ty := (.object kc2)) (by decide) rfl rfl (d4_5 hby) (pc' := 8) rfl ?_
 intro T21 h21 X21 e21 W21
 have f22 : Fld Z h21 a0 kc0 "unrated" "Ljava/lang/String;" .null := zz3.same W21
 have K23 : Keep h0 h21 [a0] := (Keep.refl h0 [a0]).wr W21 (Or.inl (by simp))
 have N24 := Fr.snoc X21 N0 zz4
 refine w_aloadN X21 hx (d4_8 hby) rfl rfl (pc' := 9) rfl ?_
 refine w_aloadN X21 hx (d4_9 hby) rfl rfl (pc' := 10) rfl ?_
 have f25 : Fld Z h21 a1 kc0 "open" "Ljava/math/BigDecimal;" (.ref jj1) := (zz5.other W21 (Or.inl zz6))
 refine w_getF X21 hx "" hZ hown (Or.inl (wd_11 hw)) Via.refl e21 f25 (d4_10 hby) (pc' := 13) rfl ?_
 intro T26 X26 e26
 have f27 : Exa Z h21 a0 kc0 := (E_a0.wr W21)
 have f28 : Fld Z h21 a0 kc0 "open" "Ljava/math/BigDecimal;" (.ref jj1) := (zz7.other W21 (Or.inr (slot_ne (Or.inl (wd_12 hw)) (Or.inl (wd_27 hw)) (by decide) (t := (.object kc1)) (t' := (.object kc2)) (by decide) (by decide))))
 refine w_putF X26 hx "" hZ hown (Or.inl (wd_11 hw)) Via.refl e26 f28 f27 (Or.inl (wd_12 hw)) (wd_1 hw) (ty := (.object kc1)) (by decide) rfl rfl (d4_13 hby) (pc' := 16) rfl ?_
 intro T29 h29 X29 e29 W29
 have f30 : Fld Z h29 a0 kc0 "open" "Ljava/math/BigDecimal;" (.ref jj1) := f28.same W29
 have K31 : Keep h0 h29 [a0] := K23.wr W29 (Or.inl (by simp))
 have N32 := Fr.snoc X29 N24 zz4
 refine w_aloadN X29 hx (d4_16 hby) rfl rfl (pc' := 17) rfl ?_
 refine w_aloadN X29 hx (d4_17 hby) rfl rfl (pc' := 18) rfl ?_
 have f33 : Fld Z h29 a1 kc0 "downside" "Ljava/math/BigDecimal;" (.ref jj1) := ((zz8.other W21 (Or.inl zz6)).other W29 (Or.inl zz6))
 refine w_getF X29 hx "" hZ hown (Or.inl (wd_13 hw)) Via.refl e29 f33 (d4_18 hby) (pc' := 21) rfl ?_
 intro T34 X34 e34
 have f35 : Exa Z h29 a0 kc0 := (f27.wr W29)
 have f36 : Fld Z h29 a0 kc0 "downside" "Ljava/math/BigDecimal;" (.ref jj1) := ((zz9.other W21 (Or.inr (slot_ne (Or.inl (wd_14 hw)) (Or.inl (wd_27 hw)) (by decide) (t := (.object kc1)) (t' := (.object kc2)) (by decide) (by decide)))).other W29 (Or.inr (slot_ne (Or.inl (wd_14 hw)) (Or.inl (wd_12 hw)) (by decide) (t := (.object kc1)) (t' := (.object kc1)) (by decide) (by decide))))
 refine w_putF X34 hx "" hZ hown (Or.inl (wd_13 hw)) Via.refl e34 f36 f35 (Or.inl (wd_14 hw)) (wd_1 hw) (ty := (.object kc1)) (by decide) rfl rfl (d4_21 hby) (pc' := 24) rfl ?_
 intro T37 h37 X37 e37 W37
 have f38 : Fld Z h37 a0 kc0 "downside" "Ljava/math/BigDecimal;" (.ref jj1) := f36.same W37
 have K39 : Keep h0 h37 [a0] := K31.wr W37 (Or.inl (by simp))
 have N40 := Fr.snoc X37 N32 zz4
 refine w_aloadN X37 hx (d4_24 hby) rfl rfl (pc' := 25) rfl ?_
 refine w_aloadN X37 hx (d4_25 hby) rfl rfl (pc' := 26) rfl ?_
 have f41 : Fld Z h37 a1 kc0 "upside" "Ljava/math/BigDecimal;" (.ref jj1) := (((zz10.other W21 (Or.inl zz6)).other W29 (Or.inl zz6)).other W37 (Or.inl zz6))
 refine w_getF X37 hx "" hZ hown (Or.inl (wd_15 hw)) Via.refl e37 f41 (d4_26 hby) (pc' := 29) rfl ?_
 intro T42 X42 e42
 have f43 : Exa Z h37 a0 kc0 := (f35.wr W37)
 have f44 : Fld Z h37 a0 kc0 "upside" "Ljava/math/BigDecimal;" (.ref jj1) := (((zz11.other W21 (Or.inr (slot_ne (Or.inl (wd_16 hw)) (Or.inl (wd_27 hw)) (by decide) (t := (.object kc1)) (t' := (.object kc2)) (by decide) (by decide)))).other W29 (Or.inr (slot_ne (Or.inl (wd_16 hw)) (Or.inl (wd_12 hw)) (by decide) (t := (.object kc1)) (t' := (.object kc1)) (by decide) (by decide)))).other W37 (Or.inr (slot_ne (Or.inl (wd_16 hw)) (Or.inl (wd_14 hw)) (by decide) (t := (.object kc1)) (t' := (.object kc1)) (by decide) (by decide))))
 refine w_putF X42 hx "" hZ hown (Or.inl (wd_15 hw)) Via.refl e42 f44 f43 (Or.inl (wd_16 hw)) (wd_1 hw) (ty := (.object kc1)) (by decide) rfl rfl (d4_29 hby) (pc' := 32) rfl ?_
 intro T45 h45 X45 e45 W45
 have f46 : Fld Z h45 a0 kc0 "upside" "Ljava/math/BigDecimal;" (.ref jj1) := f44.same W45
 have K47 : Keep h0 h45 [a0] := K39.wr W45 (Or.inl (by simp))
 have N48 := Fr.snoc X45 N40 zz4
 refine w_aloadN X45 hx (d4_32 hby) rfl rfl (pc' := 33) rfl ?_
 refine w_aloadN X45 hx (d4_33 hby) rfl rfl (pc' := 34) rfl ?_
 have f49 : Fld Z h45 a1 kc0 "exposure" "Ljava/math/BigDecimal;" (.ref jj1) := ((((zz12.other W21 (Or.inl zz6)).other W29 (Or.inl zz6)).other W37 (Or.inl zz6)).other W45 (Or.inl zz6))
 refine w_getF X45 hx "" hZ hown (Or.inl (wd_17 hw)) Via.refl e45 f49 (d4_34 hby) (pc' := 37) rfl ?_
 intro T50 X50 e50
 have f51 : Exa Z h45 a0 kc0 := (f43.wr W45)
 have f52 : Fld Z h45 a0 kc0 "exposure" "Ljava/math/BigDecimal;" (.ref jj1) := ((((zz13.other W21 (Or.inr (slot_ne (Or.inl (wd_18 hw)) (Or.inl (wd_27 hw)) (by decide) (t := (.object kc1)) (t' := (.object kc2)) (by decide) (by decide)))).other W29 (Or.inr (slot_ne (Or.inl (wd_18 hw)) (Or.inl (wd_12 hw)) (by decide) (t := (.object kc1)) (t' := (.object kc1)) (by decide) (by decide)))).other W37 (Or.inr (slot_ne (Or.inl (wd_18 hw)) (Or.inl (wd_14 hw)) (by decide) (t := (.object kc1)) (t' := (.object kc1)) (by decide) (by decide)))).other W45 (Or.inr (slot_ne (Or.inl (wd_18 hw)) (Or.inl (wd_16 hw)) (by decide) (t := (.object kc1)) (t' := (.object kc1)) (by decide) (by decide))))
 refine w_putF X50 hx "" hZ hown (Or.inl (wd_17 hw)) Via.refl e50 f52 f51 (Or.inl (wd_18 hw)) (wd_1 hw) (ty := (.object kc1)) (by decide) rfl rfl (d4_37 hby) (pc' := 40) rfl ?_
 intro T53 h53 X53 e53 W53
 have f54 : Fld Z h53 a0 kc0 "exposure" "Ljava/math/BigDecimal;" (.ref jj1) := f52.same W53
 have K55 : Keep h0 h53 [a0] := K47.wr W53 (Or.inl (by simp))
 have N56 := Fr.snoc X53 N48 zz4
 have f57 : Exa Z h53 a0 kc0 := (f51.wr W53)
 have f58 : Fld Z h53 a0 kc0 "unrated" "Ljava/lang/String;" .null := ((((f22.other W29 (Or.inr (slot_ne (Or.inl (wd_27 hw)) (Or.inl (wd_12 hw)) (by decide) (t := (.object kc2)) (t' := (.object kc1)) (by decide) (by decide)))).other W37 (Or.inr (slot_ne (Or.inl (wd_27 hw)) (Or.inl (wd_14 hw)) (by decide) (t := (.object kc2)) (t' := (.object kc1)) (by decide) (by decide)))).other W45 (Or.inr (slot_ne (Or.inl (wd_27 hw)) (Or.inl (wd_16 hw)) (by decide) (t := (.object kc2)) (t' := (.object kc1)) (by decide) (by decide)))).other W53 (Or.inr (slot_ne (Or.inl (wd_27 hw)) (Or.inl (wd_18 hw)) (by decide) (t := (.object kc2)) (t' := (.object kc1)) (by decide) (by decide))))
 have f59 : Fld Z h53 a0 kc0 "open" "Ljava/math/BigDecimal;" (.ref jj1) := (((f30.other W37 (Or.inr (slot_ne (Or.inl (wd_12 hw)) (Or.inl (wd_14 hw)) (by decide) (t := (.object kc1)) (t' := (.object kc1)) (by decide) (by decide)))).other W45 (Or.inr (slot_ne (Or.inl (wd_12 hw)) (Or.inl (wd_16 hw)) (by decide) (t := (.object kc1)) (t' := (.object kc1)) (by decide) (by decide)))).other W53 (Or.inr (slot_ne (Or.inl (wd_12 hw)) (Or.inl (wd_18 hw)) (by decide) (t := (.object kc1)) (t' := (.object kc1)) (by decide) (by decide))))
 have f60 : Fld Z h53 a0 kc0 "downside" "Ljava/math/BigDecimal;" (.ref jj1) := ((f38.other W45 (Or.inr (slot_ne (Or.inl (wd_14 hw)) (Or.inl (wd_16 hw)) (by decide) (t := (.object kc1)) (t' := (.object kc1)) (by decide) (by decide)))).other W53 (Or.inr (slot_ne (Or.inl (wd_14 hw)) (Or.inl (wd_18 hw)) (by decide) (t := (.object kc1)) (t' := (.object kc1)) (by decide) (by decide))))
 have f61 : Fld Z h53 a0 kc0 "upside" "Ljava/math/BigDecimal;" (.ref jj1) := (f46.other W53 (Or.inr (slot_ne (Or.inl (wd_16 hw)) (Or.inl (wd_18 hw)) (by decide) (t := (.object kc1)) (t' := (.object kc1)) (by decide) (by decide))))
 have f62 : Fld Z h53 a0 kc0 "pool" "Lcom/example/ringfence/ringfence/gate/Pool;" .null := (((((zz14.other W21 (Or.inr (slot_ne (Or.inr (wd_20 hw)) (Or.inl (wd_27 hw)) (by decide) (t := (.object kc3)) (t' := (.object kc2)) (by decide) (by decide)))).other W29 (Or.inr (slot_ne (Or.inr (wd_20 hw)) (Or.inl (wd_12 hw)) (by decide) (t := (.object kc3)) (t' := (.object kc1)) (by decide) (by decide)))).other W37 (Or.inr (slot_ne (Or.inr (wd_20 hw)) (Or.inl (wd_14 hw)) (by decide) (t := (.object kc3)) (t' := (.object kc1)) (by decide) (by decide)))).other W45 (Or.inr (slot_ne (Or.inr (wd_20 hw)) (Or.inl (wd_16 hw)) (by decide) (t := (.object kc3)) (t' := (.object kc1)) (by decide) (by decide)))).other W53 (Or.inr (slot_ne (Or.inr (wd_20 hw)) (Or.inl (wd_18 hw)) (by decide) (t := (.object kc3)) (t' := (.object kc1)) (by decide) (by decide))))
 exact w_done X53 hlk (v := none) e53 (fun _ => rfl) (fun fs hr => X53.returnOut hx hret (d4_40 hby) hr) (by decide) (by decide) (⟨rfl, N56, K55, f57, f58, f59, f60, f61, f54, f62⟩)
theorem ef_m4_18 (m : MethodId) (a0 : Addr)  : entryFrame m #[(.ref a0), (.ref a0)] 2 = mkF m 0 #[.val (.ref a0), .val (.ref a0)] [] := by first | (simp [entryFrame, mkF, argsToLocals, Value.category]; done) | rfl
def Q_m4_18 (Z : State) (a0 : Addr) (jj0 : Addr) (jj1 : Addr) (h0 : Heap) (n0 : Nat) (v : Option Value) (h : Heap) (L : List Loc) : Prop := v = none ∧ Fr n0 L ∧ Keep h0 h [a0] ∧ Fld Z h a0 kc0 "unrated" "Ljava/lang/String;" (.ref jj0) ∧ Exa Z h a0 kc0 ∧ Fld Z h a0 kc0 "open" "Ljava/math/BigDecimal;" (.ref jj1) ∧ Fld Z h a0 kc0 "downside" "Ljava/math/BigDecimal;" (.ref jj1) ∧ Fld Z h a0 kc0 "upside" "Ljava/math/BigDecimal;" (.ref jj1) ∧ Fld Z h a0 kc0 "exposure" "Ljava/math/BigDecimal;" (.ref jj1) ∧ Fld Z h a0 kc0 "pool" "Lcom/example/ringfence/ringfence/gate/Pool;" .null
theorem rm_m4_18 (l : Launch) (Z : State) (aZ : Array Value) (hw : ∀ d ∈ tables_1, d.before aZ Z = true) (ws : List Jvm.Cond) (a0 : Addr) (jj0 : Addr) (jj1 : Addr) (h0 : Heap) (n0 : Nat) (Z0 : n0 ≤ h0.size) (zz2 : Fld Z h0 a0 kc0 "unrated" "Ljava/lang/String;" (.ref jj0)) (E_a0 : Exa Z h0 a0 kc0) (zz3 : n0 ≤ a0) (zz4 : Fld Z h0 a0 kc0 "open" "Ljava/math/BigDecimal;" (.ref jj1)) (zz5 : Fld Z h0 a0 kc0 "downside" "Ljava/math/BigDecimal;" (.ref jj1)) (zz6 : Fld Z h0 a0 kc0 "upside" "Ljava/math/BigDecimal;" (.ref jj1)) (zz7 : Fld Z h0 a0 kc0 "exposure" "Ljava/math/BigDecimal;" (.ref jj1)) (zz8 : Fld Z h0 a0 kc0 "pool" "Lcom/example/ringfence/ringfence/gate/Pool;" .null) :
    MetN l Z yn_4 prog_36_method_6_code 2 none ws ({ frames := 0, cells := 0, slots := 0, locals := 0 } : Room) #[(.ref a0), (.ref a0)] h0 (Q_m4_18 Z a0 jj0 jj1 h0 n0) := by
 refine MetN.of (plainFor_of_name pn_3) ?_
 intro p e s m below meth c s₁ hret hx hby hml hown hnm hlk hZ X0 e0
 have N0 := Fr.nil n0
 rw [ef_m4_18 m a0]
 refine w_aloadN X0 hx (d4_0 hby) rfl rfl (pc' := 1) rfl ?_
 refine w_aloadN X0 hx (d4_1 hby) rfl rfl (pc' := 2) rfl ?_
 refine w_getF X0 hx "" hZ hown (Or.inl (wd_26 hw)) Via.refl e0 zz2 (d4_2 hby) (pc' := 5) rfl ?_
 intro T20 X20 e20
 refine w_putF X20 hx "" hZ hown (Or.inl (wd_26 hw)) Via.refl e20 zz2 E_a0 (Or.inl (wd_27 hw)) (wd_1 hw) (ty := (.object kc2)) (by decide) rfl rfl (d4_5 hby) (pc' := 8) rfl ?_
 intro T21 h21 X21 e21 W21
 have f22 : Fld Z h21 a0 kc0 "unrated" "Ljava/lang/String;" (.ref jj0) := zz2.same W21
 have K23 : Keep h0 h21 [a0] := (Keep.refl h0 [a0]).wr W21 (Or.inl (by simp))
 have N24 := Fr.snoc X21 N0 zz3
 refine w_aloadN X21 hx (d4_8 hby) rfl rfl (pc' := 9) rfl ?_
 refine w_aloadN X21 hx (d4_9 hby) rfl rfl (pc' := 10) rfl ?_
 have f25 : Fld Z h21 a0 kc0 "open" "Ljava/math/BigDecimal;" (.ref jj1) := (zz4.other W21 (Or.inr (slot_ne (Or.inl (wd_12 hw)) (Or.inl (wd_27 hw)) (by decide) (t := (.object kc1)) (t' := (.object kc2)) (by decide) (by decide))))
 refine w_getF X21 hx "" hZ hown (Or.inl (wd_11 hw)) Via.refl e21 f25 (d4_10 hby) (pc' := 13) rfl ?_
 intro T26 X26 e26
 have f27 : Exa Z h21 a0 kc0 := (E_a0.wr W21)
 refine w_putF X26 hx "" hZ hown (Or.inl (wd_11 hw)) Via.refl e26 f25 f27 (Or.inl (wd_12 hw)) (wd_1 hw) (ty := (.object kc1)) (by decide) rfl rfl (d4_13 hby) (pc' := 16) rfl ?_
 intro T28 h28 X28 e28 W28
 have f29 : Fld Z h28 a0 kc0 "open" "Ljava/math/BigDecimal;" (.ref jj1) := f25.same W28
 have K30 : Keep h0 h28 [a0] := K23.wr W28 (Or.inl (by simp))
 have N31 := Fr.snoc X28 N24 zz3
 refine w_aloadN X28 hx (d4_16 hby) rfl rfl (pc' := 17) rfl ?_
 refine w_aloadN X28 hx (d4_17 hby) rfl rfl (pc' := 18) rfl ?_
 have f32 : Fld Z h28 a0 kc0 "downside" "Ljava/math/BigDecimal;" (.ref jj1) := ((zz5.other W21 (Or.inr (slot_ne (Or.inl (wd_14 hw)) (Or.inl (wd_27 hw)) (by decide) (t := (.object kc1)) (t' := (.object kc2)) (by decide) (by decide)))).other W28 (Or.inr (slot_ne (Or.inl (wd_14 hw)) (Or.inl (wd_12 hw)) (by decide) (t := (.object kc1)) (t' := (.object kc1)) (by decide) (by decide))))
 refine w_getF X28 hx "" hZ hown (Or.inl (wd_13 hw)) Via.refl e28 f32 (d4_18 hby) (pc' := 21) rfl ?_
 intro T33 X33 e33
 have f34 : Exa Z h28 a0 kc0 := (f27.wr W28)
 refine w_putF X33 hx "" hZ hown (Or.inl (wd_13 hw)) Via.refl e33 f32 f34 (Or.inl (wd_14 hw)) (wd_1 hw) (ty := (.object kc1)) (by decide) rfl rfl (d4_21 hby) (pc' := 24) rfl ?_
 intro T35 h35 X35 e35 W35
 have f36 : Fld Z h35 a0 kc0 "downside" "Ljava/math/BigDecimal;" (.ref jj1) := f32.same W35
 have K37 : Keep h0 h35 [a0] := K30.wr W35 (Or.inl (by simp))
 have N38 := Fr.snoc X35 N31 zz3
 refine w_aloadN X35 hx (d4_24 hby) rfl rfl (pc' := 25) rfl ?_
 refine w_aloadN X35 hx (d4_25 hby) rfl rfl (pc' := 26) rfl ?_
 have f39 : Fld Z h35 a0 kc0 "upside" "Ljava/math/BigDecimal;" (.ref jj1) := (((zz6.other W21 (Or.inr (slot_ne (Or.inl (wd_16 hw)) (Or.inl (wd_27 hw)) (by decide) (t := (.object kc1)) (t' := (.object kc2)) (by decide) (by decide)))).other W28 (Or.inr (slot_ne (Or.inl (wd_16 hw)) (Or.inl (wd_12 hw)) (by decide) (t := (.object kc1)) (t' := (.object kc1)) (by decide) (by decide)))).other W35 (Or.inr (slot_ne (Or.inl (wd_16 hw)) (Or.inl (wd_14 hw)) (by decide) (t := (.object kc1)) (t' := (.object kc1)) (by decide) (by decide))))
 refine w_getF X35 hx "" hZ hown (Or.inl (wd_15 hw)) Via.refl e35 f39 (d4_26 hby) (pc' := 29) rfl ?_
 intro T40 X40 e40
 have f41 : Exa Z h35 a0 kc0 := (f34.wr W35)
 refine w_putF X40 hx "" hZ hown (Or.inl (wd_15 hw)) Via.refl e40 f39 f41 (Or.inl (wd_16 hw)) (wd_1 hw) (ty := (.object kc1)) (by decide) rfl rfl (d4_29 hby) (pc' := 32) rfl ?_
 intro T42 h42 X42 e42 W42
 have f43 : Fld Z h42 a0 kc0 "upside" "Ljava/math/BigDecimal;" (.ref jj1) := f39.same W42
 have K44 : Keep h0 h42 [a0] := K37.wr W42 (Or.inl (by simp))
 have N45 := Fr.snoc X42 N38 zz3
 refine w_aloadN X42 hx (d4_32 hby) rfl rfl (pc' := 33) rfl ?_
 refine w_aloadN X42 hx (d4_33 hby) rfl rfl (pc' := 34) rfl ?_
 have f46 : Fld Z h42 a0 kc0 "exposure" "Ljava/math/BigDecimal;" (.ref jj1) := ((((zz7.other W21 (Or.inr (slot_ne (Or.inl (wd_18 hw)) (Or.inl (wd_27 hw)) (by decide) (t := (.object kc1)) (t' := (.object kc2)) (by decide) (by decide)))).other W28 (Or.inr (slot_ne (Or.inl (wd_18 hw)) (Or.inl (wd_12 hw)) (by decide) (t := (.object kc1)) (t' := (.object kc1)) (by decide) (by decide)))).other W35 (Or.inr (slot_ne (Or.inl (wd_18 hw)) (Or.inl (wd_14 hw)) (by decide) (t := (.object kc1)) (t' := (.object kc1)) (by decide) (by decide)))).other W42 (Or.inr (slot_ne (Or.inl (wd_18 hw)) (Or.inl (wd_16 hw)) (by decide) (t := (.object kc1)) (t' := (.object kc1)) (by decide) (by decide))))
 refine w_getF X42 hx "" hZ hown (Or.inl (wd_17 hw)) Via.refl e42 f46 (d4_34 hby) (pc' := 37) rfl ?_
 intro T47 X47 e47
 have f48 : Exa Z h42 a0 kc0 := (f41.wr W42)
 refine w_putF X47 hx "" hZ hown (Or.inl (wd_17 hw)) Via.refl e47 f46 f48 (Or.inl (wd_18 hw)) (wd_1 hw) (ty := (.object kc1)) (by decide) rfl rfl (d4_37 hby) (pc' := 40) rfl ?_
 intro T49 h49 X49 e49 W49
 have f50 : Fld Z h49 a0 kc0 "exposure" "Ljava/math/BigDecimal;" (.ref jj1) := f46.same W49
 have K51 : Keep h0 h49 [a0] := K44.wr W49 (Or.inl (by simp))
 have N52 := Fr.snoc X49 N45 zz3
 have f53 : Fld Z h49 a0 kc0 "unrated" "Ljava/lang/String;" (.ref jj0) := ((((f22.other W28 (Or.inr (slot_ne (Or.inl (wd_27 hw)) (Or.inl (wd_12 hw)) (by decide) (t := (.object kc2)) (t' := (.object kc1)) (by decide) (by decide)))).other W35 (Or.inr (slot_ne (Or.inl (wd_27 hw)) (Or.inl (wd_14 hw)) (by decide) (t := (.object kc2)) (t' := (.object kc1)) (by decide) (by decide)))).other W42 (Or.inr (slot_ne (Or.inl (wd_27 hw)) (Or.inl (wd_16 hw)) (by decide) (t := (.object kc2)) (t' := (.object kc1)) (by decide) (by decide)))).other W49 (Or.inr (slot_ne (Or.inl (wd_27 hw)) (Or.inl (wd_18 hw)) (by decide) (t := (.object kc2)) (t' := (.object kc1)) (by decide) (by decide))))
 have f54 : Exa Z h49 a0 kc0 := (f48.wr W49)
 have f55 : Fld Z h49 a0 kc0 "open" "Ljava/math/BigDecimal;" (.ref jj1) := (((f29.other W35 (Or.inr (slot_ne (Or.inl (wd_12 hw)) (Or.inl (wd_14 hw)) (by decide) (t := (.object kc1)) (t' := (.object kc1)) (by decide) (by decide)))).other W42 (Or.inr (slot_ne (Or.inl (wd_12 hw)) (Or.inl (wd_16 hw)) (by decide) (t := (.object kc1)) (t' := (.object kc1)) (by decide) (by decide)))).other W49 (Or.inr (slot_ne (Or.inl (wd_12 hw)) (Or.inl (wd_18 hw)) (by decide) (t := (.object kc1)) (t' := (.object kc1)) (by decide) (by decide))))
 have f56 : Fld Z h49 a0 kc0 "downside" "Ljava/math/BigDecimal;" (.ref jj1) := ((f36.other W42 (Or.inr (slot_ne (Or.inl (wd_14 hw)) (Or.inl (wd_16 hw)) (by decide) (t := (.object kc1)) (t' := (.object kc1)) (by decide) (by decide)))).other W49 (Or.inr (slot_ne (Or.inl (wd_14 hw)) (Or.inl (wd_18 hw)) (by decide) (t := (.object kc1)) (t' := (.object kc1)) (by decide) (by decide))))
 have f57 : Fld Z h49 a0 kc0 "upside" "Ljava/math/BigDecimal;" (.ref jj1) := (f43.other W49 (Or.inr (slot_ne (Or.inl (wd_16 hw)) (Or.inl (wd_18 hw)) (by decide) (t := (.object kc1)) (t' := (.object kc1)) (by decide) (by decide))))
 have f58 : Fld Z h49 a0 kc0 "pool" "Lcom/example/ringfence/ringfence/gate/Pool;" .null := (((((zz8.other W21 (Or.inr (slot_ne (Or.inr (wd_20 hw)) (Or.inl (wd_27 hw)) (by decide) (t := (.object kc3)) (t' := (.object kc2)) (by decide) (by decide)))).other W28 (Or.inr (slot_ne (Or.inr (wd_20 hw)) (Or.inl (wd_12 hw)) (by decide) (t := (.object kc3)) (t' := (.object kc1)) (by decide) (by decide)))).other W35 (Or.inr (slot_ne (Or.inr (wd_20 hw)) (Or.inl (wd_14 hw)) (by decide) (t := (.object kc3)) (t' := (.object kc1)) (by decide) (by decide)))).other W42 (Or.inr (slot_ne (Or.inr (wd_20 hw)) (Or.inl (wd_16 hw)) (by decide) (t := (.object kc3)) (t' := (.object kc1)) (by decide) (by decide)))).other W49 (Or.inr (slot_ne (Or.inr (wd_20 hw)) (Or.inl (wd_18 hw)) (by decide) (t := (.object kc3)) (t' := (.object kc1)) (by decide) (by decide))))
 exact w_done X49 hlk (v := none) e49 (fun _ => rfl) (fun fs hr => X49.returnOut hx hret (d4_40 hby) hr) (by decide) (by decide) (⟨rfl, N52, K51, f53, f54, f55, f56, f57, f50, f58⟩)
theorem ef_m4_19 (m : MethodId) (a0 : Addr) (a1 : Addr)  : entryFrame m #[(.ref a0), (.ref a1)] 2 = mkF m 0 #[.val (.ref a0), .val (.ref a1)] [] := by first | (simp [entryFrame, mkF, argsToLocals, Value.category]; done) | rfl
def Q_m4_19 (Z : State) (a0 : Addr) (a1 : Addr) (jj0 : Addr) (jj1 : Addr) (jj2 : Addr) (h0 : Heap) (n0 : Nat) (v : Option Value) (h : Heap) (L : List Loc) : Prop := v = none ∧ Fr n0 L ∧ Keep h0 h [a0] ∧ Exa Z h a0 kc0 ∧ Fld Z h a0 kc0 "unrated" "Ljava/lang/String;" (.ref jj0) ∧ Fld Z h a0 kc0 "open" "Ljava/math/BigDecimal;" (.ref jj2) ∧ Fld Z h a0 kc0 "downside" "Ljava/math/BigDecimal;" (.ref jj2) ∧ Fld Z h a0 kc0 "upside" "Ljava/math/BigDecimal;" (.ref jj2) ∧ Fld Z h a0 kc0 "exposure" "Ljava/math/BigDecimal;" (.ref jj2) ∧ Fld Z h a0 kc0 "pool" "Lcom/example/ringfence/ringfence/gate/Pool;" .null
theorem rm_m4_19 (l : Launch) (Z : State) (aZ : Array Value) (hw : ∀ d ∈ tables_1, d.before aZ Z = true) (ws : List Jvm.Cond) (a0 : Addr) (a1 : Addr) (jj0 : Addr) (jj1 : Addr) (jj2 : Addr) (h0 : Heap) (n0 : Nat) (Z0 : n0 ≤ h0.size) (zz3 : Fld Z h0 a1 kc0 "unrated" "Ljava/lang/String;" (.ref jj0)) (E_a0 : Exa Z h0 a0 kc0) (zz4 : Fld Z h0 a0 kc0 "unrated" "Ljava/lang/String;" (.ref jj1)) (zz5 : n0 ≤ a0) (zz6 : Fld Z h0 a1 kc0 "open" "Ljava/math/BigDecimal;" (.ref jj2)) (zz7 : a1 ≠ a0) (zz8 : Fld Z h0 a0 kc0 "open" "Ljava/math/BigDecimal;" (.ref jj2)) (zz9 : Fld Z h0 a1 kc0 "downside" "Ljava/math/BigDecimal;" (.ref jj2)) (zz10 : Fld Z h0 a0 kc0 "downside" "Ljava/math/BigDecimal;" (.ref jj2)) (zz11 : Fld Z h0 a1 kc0 "upside" "Ljava/math/BigDecimal;" (.ref jj2)) (zz12 : Fld Z h0 a0 kc0 "upside" "Ljava/math/BigDecimal;" (.ref jj2)) (zz13 : Fld Z h0 a1 kc0 "exposure" "Ljava/math/BigDecimal;" (.ref jj2)) (zz14 : Fld Z h0 a0 kc0 "exposure" "Ljava/math/BigDecimal;" (.ref jj2)) (zz15 : Fld Z h0 a0 kc0 "pool" "Lcom/example/ringfence/ringfence/gate/Pool;" .null) :
    MetN l Z yn_4 prog_36_method_6_code 2 none ws ({ frames := 0, cells := 0, slots := 0, locals := 0 } : Room) #[(.ref a0), (.ref a1)] h0 (Q_m4_19 Z a0 a1 jj0 jj1 jj2 h0 n0) := by
 refine MetN.of (plainFor_of_name pn_3) ?_
 intro p e s m below meth c s₁ hret hx hby hml hown hnm hlk hZ X0 e0
 have N0 := Fr.nil n0
 rw [ef_m4_19 m a0 a1]
 refine w_aloadN X0 hx (d4_0 hby) rfl rfl (pc' := 1) rfl ?_
 refine w_aloadN X0 hx (d4_1 hby) rfl rfl (pc' := 2) rfl ?_
 refine w_getF X0 hx "" hZ hown (Or.inl (wd_26 hw)) Via.refl e0 zz3 (d4_2 hby) (pc' := 5) rfl ?_
 intro T20 X20 e20
 refine w_putF X20 hx "" hZ hown (Or.inl (wd_26 hw)) Via.refl e20 zz4 E_a0 (Or.inl (wd_27 hw)) (wd_1 hw) (ty := (.object kc2)) (by decide) rfl rfl (d4_5 hby) (pc' := 8) rfl ?_
 intro T21 h21 X21 e21 W21
 have f22 : Fld Z h21 a0 kc0 "unrated" "Ljava/lang/String;" (.ref jj0) := zz4.same W21
 have K23 : Keep h0 h21 [a0] := (Keep.refl h0 [a0]).wr W21 (Or.inl (by simp))
 have N24 := Fr.snoc X21 N0 zz5
 refine w_aloadN X21 hx (d4_8 hby) rfl rfl (pc' := 9) rfl ?_
 refine w_aloadN X21 hx (d4_9 hby) rfl rfl (pc' := 10) rfl ?_
 have f25 : Fld Z h21 a1 kc0 "open" "Ljava/math/BigDecimal;" (.ref jj2) := (zz6.other W21 (Or.inl zz7))
 refine w_getF X21 hx "" hZ hown (Or.inl (wd_11 hw)) Via.refl e21 f25 (d4_10 hby) (pc' := 13) rfl ?_
 intro T26 X26 e26
 have f27 : Exa Z h21 a0 kc0 := (E_a0.wr W21)
 have f28 : Fld Z h21 a0 kc0 "open" "Ljava/math/BigDecimal;" (.ref jj2) := (zz8.other W21 (Or.inr (slot_ne (Or.inl (wd_12 hw)) (Or.inl (wd_27 hw)) (by decide) (t := (.object kc1)) (t' := (.object kc2)) (by decide) (by decide))))
 refine w_putF X26 hx "" hZ hown (Or.inl (wd_11 hw)) Via.refl e26 f28 f27 (Or.inl (wd_12 hw)) (wd_1 hw) (ty := (.object kc1)) (by decide) rfl rfl (d4_13 hby) (pc' := 16) rfl ?_
 intro T29 h29 X29 e29 W29
 have f30 : Fld Z h29 a0 kc0 "open" "Ljava/math/BigDecimal;" (.ref jj2) := f28.same W29
 have K31 : Keep h0 h29 [a0] := K23.wr W29 (Or.inl (by simp))
 have N32 := Fr.snoc X29 N24 zz5
 refine w_aloadN X29 hx (d4_16 hby) rfl rfl (pc' := 17) rfl ?_
 refine w_aloadN X29 hx (d4_17 hby) rfl rfl (pc' := 18) rfl ?_
 have f33 : Fld Z h29 a1 kc0 "downside" "Ljava/math/BigDecimal;" (.ref jj2) := ((zz9.other W21 (Or.inl zz7)).other W29 (Or.inl zz7))
 refine w_getF X29 hx "" hZ hown (Or.inl (wd_13 hw)) Via.refl e29 f33 (d4_18 hby) (pc' := 21) rfl ?_
 intro T34 X34 e34
 have f35 : Exa Z h29 a0 kc0 := (f27.wr W29)
 have f36 : Fld Z h29 a0 kc0 "downside" "Ljava/math/BigDecimal;" (.ref jj2) := ((zz10.other W21 (Or.inr (slot_ne (Or.inl (wd_14 hw)) (Or.inl (wd_27 hw)) (by decide) (t := (.object kc1)) (t' := (.object kc2)) (by decide) (by decide)))).other W29 (Or.inr (slot_ne (Or.inl (wd_14 hw)) (Or.inl (wd_12 hw)) (by decide) (t := (.object kc1)) (t' := (.object kc1)) (by decide) (by decide))))
 refine w_putF X34 hx "" hZ hown (Or.inl (wd_13 hw)) Via.refl e34 f36 f35 (Or.inl (wd_14 hw)) (wd_1 hw) (ty := (.object kc1)) (by decide) rfl rfl (d4_21 hby) (pc' := 24) rfl ?_
 intro T37 h37 X37 e37 W37
 have f38 : Fld Z h37 a0 kc0 "downside" "Ljava/math/BigDecimal;" (.ref jj2) := f36.same W37
 have K39 : Keep h0 h37 [a0] := K31.wr W37 (Or.inl (by simp))
 have N40 := Fr.snoc X37 N32 zz5
 refine w_aloadN X37 hx (d4_24 hby) rfl rfl (pc' := 25) rfl ?_
 refine w_aloadN X37 hx (d4_25 hby) rfl rfl (pc' := 26) rfl ?_
 have f41 : Fld Z h37 a1 kc0 "upside" "Ljava/math/BigDecimal;" (.ref jj2) := (((zz11.other W21 (Or.inl zz7)).other W29 (Or.inl zz7)).other W37 (Or.inl zz7))
 refine w_getF X37 hx "" hZ hown (Or.inl (wd_15 hw)) Via.refl e37 f41 (d4_26 hby) (pc' := 29) rfl ?_
 intro T42 X42 e42
 have f43 : Exa Z h37 a0 kc0 := (f35.wr W37)
 have f44 : Fld Z h37 a0 kc0 "upside" "Ljava/math/BigDecimal;" (.ref jj2) := (((zz12.other W21 (Or.inr (slot_ne (Or.inl (wd_16 hw)) (Or.inl (wd_27 hw)) (by decide) (t := (.object kc1)) (t' := (.object kc2)) (by decide) (by decide)))).other W29 (Or.inr (slot_ne (Or.inl (wd_16 hw)) (Or.inl (wd_12 hw)) (by decide) (t := (.object kc1)) (t' := (.object kc1)) (by decide) (by decide)))).other W37 (Or.inr (slot_ne (Or.inl (wd_16 hw)) (Or.inl (wd_14 hw)) (by decide) (t := (.object kc1)) (t' := (.object kc1)) (by decide) (by decide))))
 refine w_putF X42 hx "" hZ hown (Or.inl (wd_15 hw)) Via.refl e42 f44 f43 (Or.inl (wd_16 hw)) (wd_1 hw) (ty := (.object kc1)) (by decide) rfl rfl (d4_29 hby) (pc' := 32) rfl ?_
 intro T45 h45 X45 e45 W45
 have f46 : Fld Z h45 a0 kc0 "upside" "Ljava/math/BigDecimal;" (.ref jj2) := f44.same W45
 have K47 : Keep h0 h45 [a0] := K39.wr W45 (Or.inl (by simp))
 have N48 := Fr.snoc X45 N40 zz5
 refine w_aloadN X45 hx (d4_32 hby) rfl rfl (pc' := 33) rfl ?_
 refine w_aloadN X45 hx (d4_33 hby) rfl rfl (pc' := 34) rfl ?_
 have f49 : Fld Z h45 a1 kc0 "exposure" "Ljava/math/BigDecimal;" (.ref jj2) := ((((zz13.other W21 (Or.inl zz7)).other W29 (Or.inl zz7)).other W37 (Or.inl zz7)).other W45 (Or.inl zz7))
 refine w_getF X45 hx "" hZ hown (Or.inl (wd_17 hw)) Via.refl e45 f49 (d4_34 hby) (pc' := 37) rfl ?_
 intro T50 X50 e50
 have f51 : Exa Z h45 a0 kc0 := (f43.wr W45)
 have f52 : Fld Z h45 a0 kc0 "exposure" "Ljava/math/BigDecimal;" (.ref jj2) := ((((zz14.other W21 (Or.inr (slot_ne (Or.inl (wd_18 hw)) (Or.inl (wd_27 hw)) (by decide) (t := (.object kc1)) (t' := (.object kc2)) (by decide) (by decide)))).other W29 (Or.inr (slot_ne (Or.inl (wd_18 hw)) (Or.inl (wd_12 hw)) (by decide) (t := (.object kc1)) (t' := (.object kc1)) (by decide) (by decide)))).other W37 (Or.inr (slot_ne (Or.inl (wd_18 hw)) (Or.inl (wd_14 hw)) (by decide) (t := (.object kc1)) (t' := (.object kc1)) (by decide) (by decide)))).other W45 (Or.inr (slot_ne (Or.inl (wd_18 hw)) (Or.inl (wd_16 hw)) (by decide) (t := (.object kc1)) (t' := (.object kc1)) (by decide) (by decide))))
 refine w_putF X50 hx "" hZ hown (Or.inl (wd_17 hw)) Via.refl e50 f52 f51 (Or.inl (wd_18 hw)) (wd_1 hw) (ty := (.object kc1)) (by decide) rfl rfl (d4_37 hby) (pc' := 40) rfl ?_
 intro T53 h53 X53 e53 W53
 have f54 : Fld Z h53 a0 kc0 "exposure" "Ljava/math/BigDecimal;" (.ref jj2) := f52.same W53
 have K55 : Keep h0 h53 [a0] := K47.wr W53 (Or.inl (by simp))
 have N56 := Fr.snoc X53 N48 zz5
 have f57 : Exa Z h53 a0 kc0 := (f51.wr W53)
 have f58 : Fld Z h53 a0 kc0 "unrated" "Ljava/lang/String;" (.ref jj0) := ((((f22.other W29 (Or.inr (slot_ne (Or.inl (wd_27 hw)) (Or.inl (wd_12 hw)) (by decide) (t := (.object kc2)) (t' := (.object kc1)) (by decide) (by decide)))).other W37 (Or.inr (slot_ne (Or.inl (wd_27 hw)) (Or.inl (wd_14 hw)) (by decide) (t := (.object kc2)) (t' := (.object kc1)) (by decide) (by decide)))).other W45 (Or.inr (slot_ne (Or.inl (wd_27 hw)) (Or.inl (wd_16 hw)) (by decide) (t := (.object kc2)) (t' := (.object kc1)) (by decide) (by decide)))).other W53 (Or.inr (slot_ne (Or.inl (wd_27 hw)) (Or.inl (wd_18 hw)) (by decide) (t := (.object kc2)) (t' := (.object kc1)) (by decide) (by decide))))
 have f59 : Fld Z h53 a0 kc0 "open" "Ljava/math/BigDecimal;" (.ref jj2) := (((f30.other W37 (Or.inr (slot_ne (Or.inl (wd_12 hw)) (Or.inl (wd_14 hw)) (by decide) (t := (.object kc1)) (t' := (.object kc1)) (by decide) (by decide)))).other W45 (Or.inr (slot_ne (Or.inl (wd_12 hw)) (Or.inl (wd_16 hw)) (by decide) (t := (.object kc1)) (t' := (.object kc1)) (by decide) (by decide)))).other W53 (Or.inr (slot_ne (Or.inl (wd_12 hw)) (Or.inl (wd_18 hw)) (by decide) (t := (.object kc1)) (t' := (.object kc1)) (by decide) (by decide))))
 have f60 : Fld Z h53 a0 kc0 "downside" "Ljava/math/BigDecimal;" (.ref jj2) := ((f38.other W45 (Or.inr (slot_ne (Or.inl (wd_14 hw)) (Or.inl (wd_16 hw)) (by decide) (t := (.object kc1)) (t' := (.object kc1)) (by decide) (by decide)))).other W53 (Or.inr (slot_ne (Or.inl (wd_14 hw)) (Or.inl (wd_18 hw)) (by decide) (t := (.object kc1)) (t' := (.object kc1)) (by decide) (by decide))))
 have f61 : Fld Z h53 a0 kc0 "upside" "Ljava/math/BigDecimal;" (.ref jj2) := (f46.other W53 (Or.inr (slot_ne (Or.inl (wd_16 hw)) (Or.inl (wd_18 hw)) (by decide) (t := (.object kc1)) (t' := (.object kc1)) (by decide) (by decide))))
 have f62 : Fld Z h53 a0 kc0 "pool" "Lcom/example/ringfence/ringfence/gate/Pool;" .null := (((((zz15.other W21 (Or.inr (slot_ne (Or.inr (wd_20 hw)) (Or.inl (wd_27 hw)) (by decide) (t := (.object kc3)) (t' := (.object kc2)) (by decide) (by decide)))).other W29 (Or.inr (slot_ne (Or.inr (wd_20 hw)) (Or.inl (wd_12 hw)) (by decide) (t := (.object kc3)) (t' := (.object kc1)) (by decide) (by decide)))).other W37 (Or.inr (slot_ne (Or.inr (wd_20 hw)) (Or.inl (wd_14 hw)) (by decide) (t := (.object kc3)) (t' := (.object kc1)) (by decide) (by decide)))).other W45 (Or.inr (slot_ne (Or.inr (wd_20 hw)) (Or.inl (wd_16 hw)) (by decide) (t := (.object kc3)) (t' := (.object kc1)) (by decide) (by decide)))).other W53 (Or.inr (slot_ne (Or.inr (wd_20 hw)) (Or.inl (wd_18 hw)) (by decide) (t := (.object kc3)) (t' := (.object kc1)) (by decide) (by decide))))
 exact w_done X53 hlk (v := none) e53 (fun _ => rfl) (fun fs hr => X53.returnOut hx hret (d4_40 hby) hr) (by decide) (by decide) (⟨rfl, N56, K55, f57, f58, f59, f60, f61, f54, f62⟩)
theorem ef_law (m : MethodId) (p0 : Int32) (p1 : Int32) (p2 : Int32)  : entryFrame m #[(.int p0), (.int p1), (.int p2)] maxLocals = mkF m 0 #[.val (.int p0), .val (.int p1), .val (.int p2), .unset, .unset, .unset, .unset, .unset, .unset, .unset] [] := by first | (simp [entryFrame, mkF, argsToLocals, Value.category, maxLocals]; done) | rfl
def Q_law (Z : State) (p0 : Int32) (p1 : Int32) (p2 : Int32) (G_ZERO : Addr) (G_COMPACT_STRINGS : Int32) (h0 : Heap) (n0 : Nat) (v : Option Value) (h : Heap) (L : List Loc) : Prop := v = some (.int (1 : Int32)) ∧ Fr n0 L
theorem rm_law (l : Launch) (Z : State) (aZ : Array Value) (hw : ∀ d ∈ tables_1, d.before aZ Z = true) (ws : List Jvm.Cond) (p0 : Int32) (p1 : Int32) (p2 : Int32) (G_ZERO : Addr) (G_COMPACT_STRINGS : Int32) (h0 : Heap) (n0 : Nat) (Z0 : n0 ≤ h0.size) (S_ZERO : Sta Z Z.heap kc1 "ZERO" "Ljava/math/BigDecimal;" (.ref G_ZERO)) (O0 : Old Z n0 h0) (S_COMPACT_STRINGS : Sta Z Z.heap kc2 "COMPACT_STRINGS" "Z" (.int G_COMPACT_STRINGS)) (hP_3 : ¬ (G_COMPACT_STRINGS = (0 : Int32))) :
    MetN l Z x code maxLocals ret ws room_1 #[(.int p0), (.int p1), (.int p2)] h0 (Q_law Z p0 p1 p2 G_ZERO G_COMPACT_STRINGS h0 n0) := by
 refine MetN.of (plainFor_of_name pn_2) ?_
 intro p e s m below meth c s₁ hret hx hby hml hown hnm hlk hZ X0 e0
 have N0 := Fr.nil n0
 rw [ef_law m p0 p1 p2]
 refine w_iloadN X0 hx (hb hby at_0) rfl (pc' := 1) rfl ?_
 refine w_iconst X0 hx (hb hby at_1) (v := (1 : Int32)) rfl (pc' := 2) rfl ?_
 refine w_iand X0 hx (hb hby at_2) (pc' := 3) rfl ?_
 by_cases hc20 : (p0 &&& (1 : Int32)) = (0 : Int32)
 · refine w_ifY X0 hx (hb hby at_3) (teq hc20).1 (pc' := 13) (by decide) (by decide) ?_
   refine w_null X0 hx (hb hby at_13) (pc' := 14) rfl ?_
   refine w_astoreN X0 hx (hb hby at_14) rfl (L' := #[.val (.int p0), .val (.int p1), .val (.int p2), .val .null, .unset, .unset, .unset, .unset, .unset, .unset]) rfl (pc' := 15) rfl ?_
   refine w_iloadN X0 hx (hb hby at_15) rfl (pc' := 16) rfl ?_
   refine w_iconst X0 hx (hb hby at_16) (v := (2 : Int32)) rfl (pc' := 17) rfl ?_
   refine w_iand X0 hx (hb hby at_17) (pc' := 18) rfl ?_
   by_cases hc21 : (p0 &&& (2 : Int32)) = (0 : Int32)
   · refine w_ifY X0 hx (hb hby at_18) (teq hc21).1 (pc' := 28) (by decide) (by decide) ?_
     refine w_null X0 hx (hb hby at_28) (pc' := 29) rfl ?_
     refine w_astore X0 hx (hb hby at_29) rfl (L' := #[.val (.int p0), .val (.int p1), .val (.int p2), .val .null, .val .null, .unset, .unset, .unset, .unset, .unset]) rfl (pc' := 31) rfl ?_
     refine w_iloadN X0 hx (hb hby at_31) rfl (pc' := 32) rfl ?_
     refine w_iconst X0 hx (hb hby at_32) (v := (4 : Int32)) rfl (pc' := 33) rfl ?_
     refine w_iand X0 hx (hb hby at_33) (pc' := 34) rfl ?_
     suffices key23 : Runs p e below (EndN s (Q_law Z p0 p1 p2 G_ZERO G_COMPACT_STRINGS h0 n0) room_1.cells room_1.slots) (s₁.setTop (mkF m 42 #[.val (.int p0), .val (.int p1), .val (.int p2), .val .null, .val .null, .unset, .unset, .unset, .unset, .unset] [(.int (if (p0 &&& (4 : Int32)) = (0 : Int32) then (0 : Int32) else (1 : Int32)))])) by
      by_cases hc22 : (p0 &&& (4 : Int32)) = (0 : Int32)
      · rw [if_pos hc22] at key23
        refine w_ifY X0 hx (hb hby at_34) (teq hc22).1 (pc' := 41) (by decide) (by decide) ?_
        refine w_iconst X0 hx (hb hby at_41) (v := (0 : Int32)) rfl (pc' := 42) rfl ?_
        exact key23
      · rw [if_neg hc22] at key23
        refine w_ifN X0 hx (hb hby at_34) (feq hc22).1 (pc' := 37) rfl ?_
        refine w_iconst X0 hx (hb hby at_37) (v := (1 : Int32)) rfl (pc' := 38) rfl ?_
        refine w_goto X0 hx (hb hby at_38) (pc' := 42) (by decide) (by decide) ?_
        exact key23
     refine w_istore X0 hx (hb hby at_42) (L' := #[.val (.int p0), .val (.int p1), .val (.int p2), .val .null, .val .null, .val (.int (if (p0 &&& (4 : Int32)) = (0 : Int32) then (0 : Int32) else (1 : Int32))), .unset, .unset, .unset, .unset]) rfl (pc' := 44) rfl ?_
     refine w_new X0 hx hZ hown (wd_0 hw) (wd_1 hw) (wd_2 hw) e0 (hb hby at_44) (by decide) (by decide) (pc' := 47) rfl ?_
     intro T24 h24 b24 X24 e24 E24 g24 A24 D24
     have ge25 : n0 ≤ b24 := Nat.le_trans Z0 (Nat.le_of_eq g24.symm)
     have sz26 : h0.size ≤ b24 := Nat.le_trans (Nat.le_refl _) (Nat.le_of_eq g24.symm)
     have K27 : Keep h0 h24 [] := (Keep.refl h0 []).ext E24
     have f28 : Fld Z h24 b24 kc0 "open" "Ljava/math/BigDecimal;" .null := D24 (Or.inl (wd_12 hw)) (ty := (.object kc1)) (by decide)
     have f29 : Fld Z h24 b24 kc0 "downside" "Ljava/math/BigDecimal;" .null := D24 (Or.inl (wd_14 hw)) (ty := (.object kc1)) (by decide)
     have f30 : Fld Z h24 b24 kc0 "upside" "Ljava/math/BigDecimal;" .null := D24 (Or.inl (wd_16 hw)) (ty := (.object kc1)) (by decide)
     have f31 : Fld Z h24 b24 kc0 "exposure" "Ljava/math/BigDecimal;" .null := D24 (Or.inl (wd_18 hw)) (ty := (.object kc1)) (by decide)
     have f32 : Fld Z h24 b24 kc0 "pool" "Lcom/example/ringfence/ringfence/gate/Pool;" .null := D24 (Or.inr (wd_20 hw)) (ty := (.object kc3)) (by decide)
     have f33 : Fld Z h24 b24 kc0 "unrated" "Ljava/lang/String;" .null := D24 (Or.inl (wd_27 hw)) (ty := (.object kc2)) (by decide)
     refine w_dup X24 hx (hb hby at_47) rfl (pc' := 48) rfl ?_
     refine w_null X24 hx (hb hby at_48) (pc' := 49) rfl ?_
     have f34 : Old Z n0 h24 := (O0.ext E24)
     refine w_special X24 hx (y := yn_1) rfl hown (mvT hZ (wd_3 hw)) (mvT hZ (wd_4 hw)) (mvT hZ (wd_5 hw)) (by decide) (backOf (W := 1) (rm_m1_5 l Z aZ hw [] b24 G_ZERO h24 n0 (Nat.le_trans Z0 E24.1) S_ZERO f34 A24 f28 ge25 f29 f30 f31 f32 f33) hZ (wd_5 hw) (wd_2 hw) (by decide) (by decide)) (by rw [hml]; rfl) [.null] (lenOf pd_5 rfl) rfl (Nat.le_of_eq rfl) (hb hby at_49) (fun _ _ => ⟨rfl, e24, (by decide : 1 + 0 ≤ _), (by decide : 6 + 0 ≤ _)⟩) (pc' := 52) rfl ?_
     rintro _ _ ⟨T35, L35, k35, n35⟩ X35 ⟨Lc35, hQ35, l35, y35, z35⟩
     dsimp only [Pt.U, Pt.locs, Pt.cells, Pt.slots] at X35 l35 y35 z35 hQ35 ⊢
     subst l35 y35 z35
     obtain ⟨rfl, N35q, K35, g35_0, g35_1, g35_2, g35_3, g35_4, g35_5, g35_6⟩ := hQ35
     have N36 := Fr.app N0 N35q
     have K37 : Keep h0 T35.heap [] := K27.trans K35 (allS (Or.inr sz26) (all0 (P := fun x => x ∈ [] ∨ h0.size ≤ x)))
     show Runs _ _ _ _ (T35.setTop (mkF m 52 #[.val (.int p0), .val (.int p1), .val (.int p2), .val .null, .val .null, .val (.int (if (p0 &&& (4 : Int32)) = (0 : Int32) then (0 : Int32) else (1 : Int32))), .unset, .unset, .unset, .unset] [(.ref b24)]))
     refine w_astore X35 hx (hb hby at_52) rfl (L' := #[.val (.int p0), .val (.int p1), .val (.int p2), .val .null, .val .null, .val (.int (if (p0 &&& (4 : Int32)) = (0 : Int32) then (0 : Int32) else (1 : Int32))), .val (.ref b24), .unset, .unset, .unset]) rfl (pc' := 54) rfl ?_
     refine w_iload X35 hx (hb hby at_54) rfl (pc' := 56) rfl ?_
     by_cases hc38 : (p0 &&& (4 : Int32)) = (0 : Int32)
     · have v39 : (if (p0 &&& (4 : Int32)) = (0 : Int32) then (0 : Int32) else (1 : Int32)) = (0 : Int32) := if_pos hc38
       refine w_ifY X35 hx (hb hby at_56) (teq (v39.trans (by decide))).1 (pc' := 64) (by decide) (by decide) ?_
       refine w_new X35 hx hZ hown (wd_0 hw) (wd_1 hw) (wd_2 hw) rfl (hb hby at_64) (by decide) (by decide) (pc' := 67) rfl ?_
       intro T40 h40 b40 X40 e40 E40 g40 A40 D40
       have le42 : h0.size ≤ T35.heap.size := (Nat.le_trans E24.1 K35.1)
       have ge41 : n0 ≤ b40 := Nat.le_trans (Nat.le_trans Z0 le42) (Nat.le_of_eq g40.symm)
       have sz43 : h0.size ≤ b40 := Nat.le_trans le42 (Nat.le_of_eq g40.symm)
       have K44 : Keep h0 h40 [] := K37.ext E40
       have f45 : Fld Z h40 b40 kc0 "open" "Ljava/math/BigDecimal;" .null := D40 (Or.inl (wd_12 hw)) (ty := (.object kc1)) (by decide)
       have f46 : Fld Z h40 b40 kc0 "downside" "Ljava/math/BigDecimal;" .null := D40 (Or.inl (wd_14 hw)) (ty := (.object kc1)) (by decide)
       have f47 : Fld Z h40 b40 kc0 "upside" "Ljava/math/BigDecimal;" .null := D40 (Or.inl (wd_16 hw)) (ty := (.object kc1)) (by decide)
       have f48 : Fld Z h40 b40 kc0 "exposure" "Ljava/math/BigDecimal;" .null := D40 (Or.inl (wd_18 hw)) (ty := (.object kc1)) (by decide)
       have f49 : Fld Z h40 b40 kc0 "pool" "Lcom/example/ringfence/ringfence/gate/Pool;" .null := D40 (Or.inr (wd_20 hw)) (ty := (.object kc3)) (by decide)
       have f50 : Fld Z h40 b40 kc0 "unrated" "Ljava/lang/String;" .null := D40 (Or.inl (wd_27 hw)) (ty := (.object kc2)) (by decide)
       refine w_dup X40 hx (hb hby at_67) rfl (pc' := 68) rfl ?_
       refine w_null X40 hx (hb hby at_68) (pc' := 69) rfl ?_
       have f51 : Old Z n0 h40 := ((f34.keep K35 (allS ge25 all0)).ext E40)
       have le52 : h0.size ≤ h40.size := (Nat.le_trans le42 E40.1)
       refine w_special X40 hx (y := yn_1) rfl hown (mvT hZ (wd_3 hw)) (mvT hZ (wd_4 hw)) (mvT hZ (wd_5 hw)) (by decide) (backOf (W := 1) (rm_m1_5 l Z aZ hw [] b40 G_ZERO h40 n0 (Nat.le_trans Z0 le52) S_ZERO f51 A40 f45 ge41 f46 f47 f48 f49 f50) hZ (wd_5 hw) (wd_2 hw) (by decide) (by decide)) (by rw [hml]; rfl) [.null] (lenOf pd_5 rfl) rfl (Nat.le_of_eq rfl) (hb hby at_69) (fun _ _ => ⟨rfl, e40, (by decide : 2 + 0 ≤ _), (by decide : 12 + 0 ≤ _)⟩) (pc' := 72) rfl ?_
       rintro _ _ ⟨T53, L53, k53, n53⟩ X53 ⟨Lc53, hQ53, l53, y53, z53⟩
       dsimp only [Pt.U, Pt.locs, Pt.cells, Pt.slots] at X53 l53 y53 z53 hQ53 ⊢
       subst l53 y53 z53
       obtain ⟨rfl, N53q, K53, g53_0, g53_1, g53_2, g53_3, g53_4, g53_5, g53_6⟩ := hQ53
       have N54 := Fr.app N36 N53q
       have K55 : Keep h0 T53.heap [] := K44.trans K53 (allS (Or.inr sz43) (all0 (P := fun x => x ∈ [] ∨ h0.size ≤ x)))
       show Runs _ _ _ _ (T53.setTop (mkF m 72 #[.val (.int p0), .val (.int p1), .val (.int p2), .val .null, .val .null, .val (.int (if (p0 &&& (4 : Int32)) = (0 : Int32) then (0 : Int32) else (1 : Int32))), .val (.ref b24), .unset, .unset, .unset] [(.ref b40)]))
       refine w_astore X53 hx (hb hby at_72) rfl (L' := #[.val (.int p0), .val (.int p1), .val (.int p2), .val .null, .val .null, .val (.int (if (p0 &&& (4 : Int32)) = (0 : Int32) then (0 : Int32) else (1 : Int32))), .val (.ref b24), .val (.ref b40), .unset, .unset]) rfl (pc' := 74) rfl ?_
       refine w_aload X53 hx (hb hby at_74) rfl rfl (pc' := 76) rfl ?_
       refine w_aloadN X53 hx (hb hby at_76) rfl rfl (pc' := 77) rfl ?_
       have f56 : Exa Z T53.heap b24 kc0 := ((g35_0.ext E40).keep K53)
       have ne57 : b24 ≠ b40 := (Nat.ne_of_lt (Nat.lt_of_lt_of_le A24.lt (Nat.le_trans K35.1 (Nat.le_of_eq g40.symm))))
       have f58 : Fld Z T53.heap b24 kc0 "unrated" "Ljava/lang/String;" .null := ((g35_6.ext E40).keep K53 (ninS ne57 nin0))
       have f59 : Fld Z T53.heap b24 kc0 "open" "Ljava/math/BigDecimal;" (.ref G_ZERO) := ((g35_1.ext E40).keep K53 (ninS ne57 nin0))
       have f60 : Fld Z T53.heap b24 kc0 "downside" "Ljava/math/BigDecimal;" (.ref G_ZERO) := ((g35_2.ext E40).keep K53 (ninS ne57 nin0))
       have f61 : Fld Z T53.heap b24 kc0 "upside" "Ljava/math/BigDecimal;" (.ref G_ZERO) := ((g35_3.ext E40).keep K53 (ninS ne57 nin0))
       have f62 : Fld Z T53.heap b24 kc0 "exposure" "Ljava/math/BigDecimal;" (.ref G_ZERO) := ((g35_4.ext E40).keep K53 (ninS ne57 nin0))
       have f63 : Fld Z T53.heap b24 kc0 "pool" "Lcom/example/ringfence/ringfence/gate/Pool;" .null := ((g35_5.ext E40).keep K53 (ninS ne57 nin0))
       have le64 : h0.size ≤ T53.heap.size := (Nat.le_trans le52 K53.1)
       obtain ⟨cq65, kq65, q65a, q65b, q65c⟩ := isOf hZ rfl f56
       refine w_virtual X53 hx (y := yn_3) (z := yn_3) hown (mvT hZ (wd_21 hw)) (mvT hZ (wd_22 hw)) (notFace_of_selects (args := #[]) (mvT hZ (wd_24 hw))) (mvT hZ (wd_24 hw)) (mvT hZ (wd_23 hw)) (by decide) (backOf (W := 0) (rm_m3_6 l Z aZ hw [] b24 G_ZERO T53.heap n0 (Nat.le_trans Z0 le64) f56 f58 ge25 f59 f60 f61 f62 f63) hZ (wd_25 hw) (wd_2 hw) (by decide) (by decide)) q65a q65c (by rw [hml]; rfl) [.null] (lenOf pd_6 rfl) rfl (Nat.le_of_eq rfl) (hb hby at_77) (fun _ _ => ⟨rfl, rfl, (by decide : 2 + 0 ≤ _), (by decide : 12 + 0 ≤ _)⟩) (pc' := 80) rfl ?_
       rintro _ _ ⟨T65, L65, k65, n65⟩ X65 ⟨Lc65, hQ65, l65, y65, z65⟩
       dsimp only [Pt.U, Pt.locs, Pt.cells, Pt.slots] at X65 l65 y65 z65 hQ65 ⊢
       subst l65 y65 z65
       obtain ⟨rfl, N65q, K65, g65_0, g65_1, g65_2, g65_3, g65_4, g65_5, g65_6⟩ := hQ65
       have N66 := Fr.app N54 N65q
       have K67 : Keep h0 T65.heap [] := K55.trans K65 (allS (Or.inr sz26) (all0 (P := fun x => x ∈ [] ∨ h0.size ≤ x)))
       show Runs _ _ _ _ (T65.setTop (mkF m 80 #[.val (.int p0), .val (.int p1), .val (.int p2), .val .null, .val .null, .val (.int (if (p0 &&& (4 : Int32)) = (0 : Int32) then (0 : Int32) else (1 : Int32))), .val (.ref b24), .val (.ref b40), .unset, .unset] []))
       refine w_iload X65 hx (hb hby at_80) rfl (pc' := 82) rfl ?_
       have v68 : (if (p0 &&& (4 : Int32)) = (0 : Int32) then (0 : Int32) else (1 : Int32)) = (0 : Int32) := if_pos hc38
       refine w_ifN X65 hx (hb hby at_82) (teq (v68.trans (by decide))).2 (pc' := 85) rfl ?_
       refine w_aload X65 hx (hb hby at_85) rfl rfl (pc' := 87) rfl ?_
       refine w_aload X65 hx (hb hby at_87) rfl rfl (pc' := 89) rfl ?_
       have f69 : Exa Z T65.heap b40 kc0 := (g53_0.keep K65)
       have f70 : Fld Z T65.heap b40 kc0 "unrated" "Ljava/lang/String;" .null := (g53_6.keep K65 (ninS (Ne.symm ne57) nin0))
       have f71 : Fld Z T65.heap b40 kc0 "open" "Ljava/math/BigDecimal;" (.ref G_ZERO) := (g53_1.keep K65 (ninS (Ne.symm ne57) nin0))
       have f72 : Fld Z T65.heap b40 kc0 "downside" "Ljava/math/BigDecimal;" (.ref G_ZERO) := (g53_2.keep K65 (ninS (Ne.symm ne57) nin0))
       have f73 : Fld Z T65.heap b40 kc0 "upside" "Ljava/math/BigDecimal;" (.ref G_ZERO) := (g53_3.keep K65 (ninS (Ne.symm ne57) nin0))
       have f74 : Fld Z T65.heap b40 kc0 "exposure" "Ljava/math/BigDecimal;" (.ref G_ZERO) := (g53_4.keep K65 (ninS (Ne.symm ne57) nin0))
       have f75 : Fld Z T65.heap b40 kc0 "pool" "Lcom/example/ringfence/ringfence/gate/Pool;" .null := (g53_5.keep K65 (ninS (Ne.symm ne57) nin0))
       have le76 : h0.size ≤ T65.heap.size := (Nat.le_trans le64 K65.1)
       obtain ⟨cq77, kq77, q77a, q77b, q77c⟩ := isOf hZ rfl f69
       refine w_virtual X65 hx (y := yn_3) (z := yn_3) hown (mvT hZ (wd_21 hw)) (mvT hZ (wd_22 hw)) (notFace_of_selects (args := #[]) (mvT hZ (wd_24 hw))) (mvT hZ (wd_24 hw)) (mvT hZ (wd_23 hw)) (by decide) (backOf (W := 0) (rm_m3_6 l Z aZ hw [] b40 G_ZERO T65.heap n0 (Nat.le_trans Z0 le76) f69 f70 ge41 f71 f72 f73 f74 f75) hZ (wd_25 hw) (wd_2 hw) (by decide) (by decide)) q77a q77c (by rw [hml]; rfl) [.null] (lenOf pd_6 rfl) rfl (Nat.le_of_eq rfl) (hb hby at_89) (fun _ _ => ⟨rfl, rfl, (by decide : 2 + 0 ≤ _), (by decide : 12 + 0 ≤ _)⟩) (pc' := 92) rfl ?_
       rintro _ _ ⟨T77, L77, k77, n77⟩ X77 ⟨Lc77, hQ77, l77, y77, z77⟩
       dsimp only [Pt.U, Pt.locs, Pt.cells, Pt.slots] at X77 l77 y77 z77 hQ77 ⊢
       subst l77 y77 z77
       obtain ⟨rfl, N77q, K77, g77_0, g77_1, g77_2, g77_3, g77_4, g77_5, g77_6⟩ := hQ77
       have N78 := Fr.app N66 N77q
       have K79 : Keep h0 T77.heap [] := K67.trans K77 (allS (Or.inr sz43) (all0 (P := fun x => x ∈ [] ∨ h0.size ≤ x)))
       show Runs _ _ _ _ (T77.setTop (mkF m 92 #[.val (.int p0), .val (.int p1), .val (.int p2), .val .null, .val .null, .val (.int (if (p0 &&& (4 : Int32)) = (0 : Int32) then (0 : Int32) else (1 : Int32))), .val (.ref b24), .val (.ref b40), .unset, .unset] []))
       refine w_iload X77 hx (hb hby at_92) rfl (pc' := 94) rfl ?_
       have v80 : (if (p0 &&& (4 : Int32)) = (0 : Int32) then (0 : Int32) else (1 : Int32)) = (0 : Int32) := if_pos hc38
       refine w_ifY X77 hx (hb hby at_94) (teq (v80.trans (by decide))).1 (pc' := 101) (by decide) (by decide) ?_
       refine w_aload X77 hx (hb hby at_101) rfl rfl (pc' := 103) rfl ?_
       refine w_astore X77 hx (hb hby at_103) rfl (L' := #[.val (.int p0), .val (.int p1), .val (.int p2), .val .null, .val .null, .val (.int (if (p0 &&& (4 : Int32)) = (0 : Int32) then (0 : Int32) else (1 : Int32))), .val (.ref b24), .val (.ref b40), .val .null, .unset]) rfl (pc' := 105) rfl ?_
       refine w_aload X77 hx (hb hby at_105) rfl rfl (pc' := 107) rfl ?_
       refine w_aload X77 hx (hb hby at_107) rfl rfl (pc' := 109) rfl ?_
       have f81 : Exa Z T77.heap b24 kc0 := (g65_0.keep K77)
       have f82 : Fld Z T77.heap b24 kc0 "unrated" "Ljava/lang/String;" .null := (g65_1.keep K77 (ninS ne57 nin0))
       have f83 : Fld Z T77.heap b24 kc0 "open" "Ljava/math/BigDecimal;" (.ref G_ZERO) := (g65_2.keep K77 (ninS ne57 nin0))
       have f84 : Fld Z T77.heap b24 kc0 "downside" "Ljava/math/BigDecimal;" (.ref G_ZERO) := (g65_3.keep K77 (ninS ne57 nin0))
       have f85 : Fld Z T77.heap b24 kc0 "upside" "Ljava/math/BigDecimal;" (.ref G_ZERO) := (g65_4.keep K77 (ninS ne57 nin0))
       have f86 : Fld Z T77.heap b24 kc0 "exposure" "Ljava/math/BigDecimal;" (.ref G_ZERO) := (g65_5.keep K77 (ninS ne57 nin0))
       have f87 : Fld Z T77.heap b24 kc0 "pool" "Lcom/example/ringfence/ringfence/gate/Pool;" .null := (g65_6.keep K77 (ninS ne57 nin0))
       have le88 : h0.size ≤ T77.heap.size := (Nat.le_trans le76 K77.1)
       obtain ⟨cq89, kq89, q89a, q89b, q89c⟩ := isOf hZ rfl f81
       refine w_virtual X77 hx (y := yn_4) (z := yn_4) hown (mvT hZ (wd_28 hw)) (mvT hZ (wd_29 hw)) (notFace_of_selects (args := #[]) (mvT hZ (wd_31 hw))) (mvT hZ (wd_31 hw)) (mvT hZ (wd_30 hw)) (by decide) (backOf (W := 0) (rm_m4_7 l Z aZ hw [] b24 b40 G_ZERO T77.heap n0 (Nat.le_trans Z0 le88) g77_1 f81 f82 ge25 g77_2 (Ne.symm ne57) f83 g77_3 f84 g77_4 f85 g77_5 f86 f87) hZ (wd_32 hw) (wd_2 hw) (by decide) (by decide)) q89a q89c (by rw [hml]; rfl) [(.ref b40)] (lenOf pd_7 rfl) rfl (Nat.le_of_eq rfl) (hb hby at_109) (fun _ _ => ⟨rfl, rfl, (by decide : 2 + 0 ≤ _), (by decide : 12 + 0 ≤ _)⟩) (pc' := 112) rfl ?_
       rintro _ _ ⟨T89, L89, k89, n89⟩ X89 ⟨Lc89, hQ89, l89, y89, z89⟩
       dsimp only [Pt.U, Pt.locs, Pt.cells, Pt.slots] at X89 l89 y89 z89 hQ89 ⊢
       subst l89 y89 z89
       obtain ⟨rfl, N89q, K89, g89_0, g89_1, g89_2, g89_3, g89_4, g89_5, g89_6⟩ := hQ89
       have N90 := Fr.app N78 N89q
       have K91 : Keep h0 T89.heap [] := K79.trans K89 (allS (Or.inr sz26) (all0 (P := fun x => x ∈ [] ∨ h0.size ≤ x)))
       show Runs _ _ _ _ (T89.setTop (mkF m 112 #[.val (.int p0), .val (.int p1), .val (.int p2), .val .null, .val .null, .val (.int (if (p0 &&& (4 : Int32)) = (0 : Int32) then (0 : Int32) else (1 : Int32))), .val (.ref b24), .val (.ref b40), .val .null, .unset] []))
       refine w_aload X89 hx (hb hby at_112) rfl rfl (pc' := 114) rfl ?_
       have le92 : h0.size ≤ T89.heap.size := (Nat.le_trans le88 K89.1)
       obtain ⟨cq93, kq93, q93a, q93b, q93c⟩ := isOf hZ rfl g89_0
       refine w_virtual X89 hx (y := yn_5) (z := yn_5) hown (mvT hZ (wd_33 hw)) (mvT hZ (wd_34 hw)) (notFace_of_selects (args := #[]) (mvT hZ (wd_36 hw))) (mvT hZ (wd_36 hw)) (mvT hZ (wd_35 hw)) (by decide) (backOf (W := 0) (rm_m5_8 l Z aZ hw [] b24 T89.heap n0 (Nat.le_trans Z0 le92) g89_1) hZ (wd_37 hw) (wd_2 hw) (by decide) (by decide)) q93a q93c (by rw [hml]; rfl) [] (lenOf pd_8 rfl) rfl (Nat.le_of_eq rfl) (hb hby at_114) (fun _ _ => ⟨rfl, rfl, (by decide : 2 + 0 ≤ _), (by decide : 12 + 0 ≤ _)⟩) (pc' := 117) rfl ?_
       rintro _ _ ⟨T93, L93, k93, n93⟩ X93 ⟨Lc93, hQ93, l93, y93, z93⟩
       dsimp only [Pt.U, Pt.locs, Pt.cells, Pt.slots] at X93 l93 y93 z93 hQ93 ⊢
       subst l93 y93 z93
       obtain ⟨rfl, N93q, e93⟩ := hQ93
       have N94 := Fr.app N90 N93q
       show Runs _ _ _ _ (T93.setTop (mkF m 117 #[.val (.int p0), .val (.int p1), .val (.int p2), .val .null, .val .null, .val (.int (if (p0 &&& (4 : Int32)) = (0 : Int32) then (0 : Int32) else (1 : Int32))), .val (.ref b24), .val (.ref b40), .val .null, .unset] [.null]))
       refine w_aload X93 hx (hb hby at_117) rfl rfl (pc' := 119) rfl ?_
       refine w_static X93 hx (y := yn_6) hown (mvT hZ (wd_38 hw)) (mvT hZ (wd_39 hw)) (mvT hZ (wd_40 hw)) (mvT hZ (wd_41 hw)) (by decide) (backOf (W := 0) (rm_m6_9 l Z aZ hw []  T89.heap n0 (Nat.le_trans Z0 le92) ) hZ (wd_41 hw) (wd_40 hw) (by decide) (by decide)) (by rw [hml]; rfl) [.null, .null] (lenOf pd_9 rfl) rfl (Nat.le_of_eq rfl) (hb hby at_119) (fun _ _ => ⟨rfl, e93, (by decide : 2 + 0 ≤ _), (by decide : 12 + 0 ≤ _)⟩) (pc' := 122) rfl ?_
       rintro _ _ ⟨T95, L95, k95, n95⟩ X95 ⟨Lc95, hQ95, l95, y95, z95⟩
       dsimp only [Pt.U, Pt.locs, Pt.cells, Pt.slots] at X95 l95 y95 z95 hQ95 ⊢
       subst l95 y95 z95
       obtain ⟨rfl, N95q, e95⟩ := hQ95
       have N96 := Fr.app N94 N95q
       show Runs _ _ _ _ (T95.setTop (mkF m 122 #[.val (.int p0), .val (.int p1), .val (.int p2), .val .null, .val .null, .val (.int (if (p0 &&& (4 : Int32)) = (0 : Int32) then (0 : Int32) else (1 : Int32))), .val (.ref b24), .val (.ref b40), .val .null, .unset] [(.int (1 : Int32))]))
       refine w_ifN X95 hx (hb hby at_122) (feq (by decide : ¬ ((1 : Int32) = (0 : Int32)))).1 (pc' := 125) rfl ?_
       refine w_aload X95 hx (hb hby at_125) rfl rfl (pc' := 127) rfl ?_
       have f97 : Fld Z T89.heap b40 kc0 "unrated" "Ljava/lang/String;" .null := (g77_1.keep K89 (ninS (Ne.symm ne57) nin0))
       have f99 : Exa Z T89.heap b40 kc0 := (g77_0.keep K89)
       obtain ⟨cq98, kq98, q98a, q98b, q98c⟩ := isOf hZ e95 f99
       refine w_virtual X95 hx (y := yn_5) (z := yn_5) hown (mvT hZ (wd_33 hw)) (mvT hZ (wd_34 hw)) (notFace_of_selects (args := #[]) (mvT hZ (wd_36 hw))) (mvT hZ (wd_36 hw)) (mvT hZ (wd_35 hw)) (by decide) (backOf (W := 0) (rm_m5_8 l Z aZ hw [] b40 T89.heap n0 (Nat.le_trans Z0 le92) f97) hZ (wd_37 hw) (wd_2 hw) (by decide) (by decide)) q98a q98c (by rw [hml]; rfl) [] (lenOf pd_8 rfl) rfl (Nat.le_of_eq rfl) (hb hby at_127) (fun _ _ => ⟨rfl, e95, (by decide : 2 + 0 ≤ _), (by decide : 12 + 0 ≤ _)⟩) (pc' := 130) rfl ?_
       rintro _ _ ⟨T98, L98, k98, n98⟩ X98 ⟨Lc98, hQ98, l98, y98, z98⟩
       dsimp only [Pt.U, Pt.locs, Pt.cells, Pt.slots] at X98 l98 y98 z98 hQ98 ⊢
       subst l98 y98 z98
       obtain ⟨rfl, N98q, e98⟩ := hQ98
       have N100 := Fr.app N96 N98q
       show Runs _ _ _ _ (T98.setTop (mkF m 130 #[.val (.int p0), .val (.int p1), .val (.int p2), .val .null, .val .null, .val (.int (if (p0 &&& (4 : Int32)) = (0 : Int32) then (0 : Int32) else (1 : Int32))), .val (.ref b24), .val (.ref b40), .val .null, .unset] [.null]))
       refine w_aload X98 hx (hb hby at_130) rfl rfl (pc' := 132) rfl ?_
       refine w_static X98 hx (y := yn_6) hown (mvT hZ (wd_38 hw)) (mvT hZ (wd_39 hw)) (mvT hZ (wd_40 hw)) (mvT hZ (wd_41 hw)) (by decide) (backOf (W := 0) (rm_m6_9 l Z aZ hw []  T89.heap n0 (Nat.le_trans Z0 le92) ) hZ (wd_41 hw) (wd_40 hw) (by decide) (by decide)) (by rw [hml]; rfl) [.null, .null] (lenOf pd_9 rfl) rfl (Nat.le_of_eq rfl) (hb hby at_132) (fun _ _ => ⟨rfl, e98, (by decide : 2 + 0 ≤ _), (by decide : 12 + 0 ≤ _)⟩) (pc' := 135) rfl ?_
       rintro _ _ ⟨T101, L101, k101, n101⟩ X101 ⟨Lc101, hQ101, l101, y101, z101⟩
       dsimp only [Pt.U, Pt.locs, Pt.cells, Pt.slots] at X101 l101 y101 z101 hQ101 ⊢
       subst l101 y101 z101
       obtain ⟨rfl, N101q, e101⟩ := hQ101
       have N102 := Fr.app N100 N101q
       show Runs _ _ _ _ (T101.setTop (mkF m 135 #[.val (.int p0), .val (.int p1), .val (.int p2), .val .null, .val .null, .val (.int (if (p0 &&& (4 : Int32)) = (0 : Int32) then (0 : Int32) else (1 : Int32))), .val (.ref b24), .val (.ref b40), .val .null, .unset] [(.int (1 : Int32))]))
       refine w_ifN X101 hx (hb hby at_135) (feq (by decide : ¬ ((1 : Int32) = (0 : Int32)))).1 (pc' := 138) rfl ?_
       refine w_iconst X101 hx (hb hby at_138) (v := (1 : Int32)) rfl (pc' := 139) rfl ?_
       refine w_goto X101 hx (hb hby at_139) (pc' := 143) (by decide) (by decide) ?_
       refine w_istore X101 hx (hb hby at_143) (L' := #[.val (.int p0), .val (.int p1), .val (.int p2), .val .null, .val .null, .val (.int (if (p0 &&& (4 : Int32)) = (0 : Int32) then (0 : Int32) else (1 : Int32))), .val (.ref b24), .val (.ref b40), .val .null, .val (.int (1 : Int32))]) rfl (pc' := 145) rfl ?_
       refine w_aload X101 hx (hb hby at_145) rfl rfl (pc' := 147) rfl ?_
       refine w_aload X101 hx (hb hby at_147) rfl rfl (pc' := 149) rfl ?_
       have f103 : Fld Z T89.heap b40 kc0 "open" "Ljava/math/BigDecimal;" (.ref G_ZERO) := (g77_2.keep K89 (ninS (Ne.symm ne57) nin0))
       have f104 : Fld Z T89.heap b40 kc0 "downside" "Ljava/math/BigDecimal;" (.ref G_ZERO) := (g77_3.keep K89 (ninS (Ne.symm ne57) nin0))
       have f105 : Fld Z T89.heap b40 kc0 "upside" "Ljava/math/BigDecimal;" (.ref G_ZERO) := (g77_4.keep K89 (ninS (Ne.symm ne57) nin0))
       have f106 : Fld Z T89.heap b40 kc0 "exposure" "Ljava/math/BigDecimal;" (.ref G_ZERO) := (g77_5.keep K89 (ninS (Ne.symm ne57) nin0))
       obtain ⟨cq107, kq107, q107a, q107b, q107c⟩ := isOf hZ e101 g89_0
       refine w_virtual X101 hx (y := yn_4) (z := yn_4) hown (mvT hZ (wd_28 hw)) (mvT hZ (wd_29 hw)) (notFace_of_selects (args := #[]) (mvT hZ (wd_31 hw))) (mvT hZ (wd_31 hw)) (mvT hZ (wd_30 hw)) (by decide) (backOf (W := 0) (rm_m4_7 l Z aZ hw [] b24 b40 G_ZERO T89.heap n0 (Nat.le_trans Z0 le92) f97 g89_0 g89_1 ge25 f103 (Ne.symm ne57) g89_2 f104 g89_3 f105 g89_4 f106 g89_5 g89_6) hZ (wd_32 hw) (wd_2 hw) (by decide) (by decide)) q107a q107c (by rw [hml]; rfl) [(.ref b40)] (lenOf pd_7 rfl) rfl (Nat.le_of_eq rfl) (hb hby at_149) (fun _ _ => ⟨rfl, e101, (by decide : 2 + 0 ≤ _), (by decide : 12 + 0 ≤ _)⟩) (pc' := 152) rfl ?_
       rintro _ _ ⟨T107, L107, k107, n107⟩ X107 ⟨Lc107, hQ107, l107, y107, z107⟩
       dsimp only [Pt.U, Pt.locs, Pt.cells, Pt.slots] at X107 l107 y107 z107 hQ107 ⊢
       subst l107 y107 z107
       obtain ⟨rfl, N107q, K107, g107_0, g107_1, g107_2, g107_3, g107_4, g107_5, g107_6⟩ := hQ107
       have N108 := Fr.app N102 N107q
       have K109 : Keep h0 T107.heap [] := K91.trans K107 (allS (Or.inr sz26) (all0 (P := fun x => x ∈ [] ∨ h0.size ≤ x)))
       show Runs _ _ _ _ (T107.setTop (mkF m 152 #[.val (.int p0), .val (.int p1), .val (.int p2), .val .null, .val .null, .val (.int (if (p0 &&& (4 : Int32)) = (0 : Int32) then (0 : Int32) else (1 : Int32))), .val (.ref b24), .val (.ref b40), .val .null, .val (.int (1 : Int32))] []))
       refine w_iload X107 hx (hb hby at_152) rfl (pc' := 154) rfl ?_
       refine w_ifN X107 hx (hb hby at_154) (feq (by decide : ¬ ((1 : Int32) = (0 : Int32)))).1 (pc' := 157) rfl ?_
       refine w_aload X107 hx (hb hby at_157) rfl rfl (pc' := 159) rfl ?_
       have le110 : h0.size ≤ T107.heap.size := (Nat.le_trans le92 K107.1)
       obtain ⟨cq111, kq111, q111a, q111b, q111c⟩ := isOf hZ rfl g107_0
       refine w_virtual X107 hx (y := yn_5) (z := yn_5) hown (mvT hZ (wd_33 hw)) (mvT hZ (wd_34 hw)) (notFace_of_selects (args := #[]) (mvT hZ (wd_36 hw))) (mvT hZ (wd_36 hw)) (mvT hZ (wd_35 hw)) (by decide) (backOf (W := 0) (rm_m5_8 l Z aZ hw [] b24 T107.heap n0 (Nat.le_trans Z0 le110) g107_1) hZ (wd_37 hw) (wd_2 hw) (by decide) (by decide)) q111a q111c (by rw [hml]; rfl) [] (lenOf pd_8 rfl) rfl (Nat.le_of_eq rfl) (hb hby at_159) (fun _ _ => ⟨rfl, rfl, (by decide : 2 + 0 ≤ _), (by decide : 12 + 0 ≤ _)⟩) (pc' := 162) rfl ?_
       rintro _ _ ⟨T111, L111, k111, n111⟩ X111 ⟨Lc111, hQ111, l111, y111, z111⟩
       dsimp only [Pt.U, Pt.locs, Pt.cells, Pt.slots] at X111 l111 y111 z111 hQ111 ⊢
       subst l111 y111 z111
       obtain ⟨rfl, N111q, e111⟩ := hQ111
       have N112 := Fr.app N108 N111q
       show Runs _ _ _ _ (T111.setTop (mkF m 162 #[.val (.int p0), .val (.int p1), .val (.int p2), .val .null, .val .null, .val (.int (if (p0 &&& (4 : Int32)) = (0 : Int32) then (0 : Int32) else (1 : Int32))), .val (.ref b24), .val (.ref b40), .val .null, .val (.int (1 : Int32))] [.null]))
       refine w_aload X111 hx (hb hby at_162) rfl rfl (pc' := 164) rfl ?_
       refine w_static X111 hx (y := yn_6) hown (mvT hZ (wd_38 hw)) (mvT hZ (wd_39 hw)) (mvT hZ (wd_40 hw)) (mvT hZ (wd_41 hw)) (by decide) (backOf (W := 0) (rm_m6_9 l Z aZ hw []  T107.heap n0 (Nat.le_trans Z0 le110) ) hZ (wd_41 hw) (wd_40 hw) (by decide) (by decide)) (by rw [hml]; rfl) [.null, .null] (lenOf pd_9 rfl) rfl (Nat.le_of_eq rfl) (hb hby at_164) (fun _ _ => ⟨rfl, e111, (by decide : 2 + 0 ≤ _), (by decide : 12 + 0 ≤ _)⟩) (pc' := 167) rfl ?_
       rintro _ _ ⟨T113, L113, k113, n113⟩ X113 ⟨Lc113, hQ113, l113, y113, z113⟩
       dsimp only [Pt.U, Pt.locs, Pt.cells, Pt.slots] at X113 l113 y113 z113 hQ113 ⊢
       subst l113 y113 z113
       obtain ⟨rfl, N113q, e113⟩ := hQ113
       have N114 := Fr.app N112 N113q
       show Runs _ _ _ _ (T113.setTop (mkF m 167 #[.val (.int p0), .val (.int p1), .val (.int p2), .val .null, .val .null, .val (.int (if (p0 &&& (4 : Int32)) = (0 : Int32) then (0 : Int32) else (1 : Int32))), .val (.ref b24), .val (.ref b40), .val .null, .val (.int (1 : Int32))] [(.int (1 : Int32))]))
       refine w_ifN X113 hx (hb hby at_167) (feq (by decide : ¬ ((1 : Int32) = (0 : Int32)))).1 (pc' := 170) rfl ?_
       refine w_aload X113 hx (hb hby at_170) rfl rfl (pc' := 172) rfl ?_
       have f115 : Fld Z T107.heap b40 kc0 "unrated" "Ljava/lang/String;" .null := (f97.keep K107 (ninS (Ne.symm ne57) nin0))
       have f117 : Exa Z T107.heap b40 kc0 := (f99.keep K107)
       obtain ⟨cq116, kq116, q116a, q116b, q116c⟩ := isOf hZ e113 f117
       refine w_virtual X113 hx (y := yn_5) (z := yn_5) hown (mvT hZ (wd_33 hw)) (mvT hZ (wd_34 hw)) (notFace_of_selects (args := #[]) (mvT hZ (wd_36 hw))) (mvT hZ (wd_36 hw)) (mvT hZ (wd_35 hw)) (by decide) (backOf (W := 0) (rm_m5_8 l Z aZ hw [] b40 T107.heap n0 (Nat.le_trans Z0 le110) f115) hZ (wd_37 hw) (wd_2 hw) (by decide) (by decide)) q116a q116c (by rw [hml]; rfl) [] (lenOf pd_8 rfl) rfl (Nat.le_of_eq rfl) (hb hby at_172) (fun _ _ => ⟨rfl, e113, (by decide : 2 + 0 ≤ _), (by decide : 12 + 0 ≤ _)⟩) (pc' := 175) rfl ?_
       rintro _ _ ⟨T116, L116, k116, n116⟩ X116 ⟨Lc116, hQ116, l116, y116, z116⟩
       dsimp only [Pt.U, Pt.locs, Pt.cells, Pt.slots] at X116 l116 y116 z116 hQ116 ⊢
       subst l116 y116 z116
       obtain ⟨rfl, N116q, e116⟩ := hQ116
       have N118 := Fr.app N114 N116q
       show Runs _ _ _ _ (T116.setTop (mkF m 175 #[.val (.int p0), .val (.int p1), .val (.int p2), .val .null, .val .null, .val (.int (if (p0 &&& (4 : Int32)) = (0 : Int32) then (0 : Int32) else (1 : Int32))), .val (.ref b24), .val (.ref b40), .val .null, .val (.int (1 : Int32))] [.null]))
       refine w_aload X116 hx (hb hby at_175) rfl rfl (pc' := 177) rfl ?_
       refine w_static X116 hx (y := yn_6) hown (mvT hZ (wd_38 hw)) (mvT hZ (wd_39 hw)) (mvT hZ (wd_40 hw)) (mvT hZ (wd_41 hw)) (by decide) (backOf (W := 0) (rm_m6_9 l Z aZ hw []  T107.heap n0 (Nat.le_trans Z0 le110) ) hZ (wd_41 hw) (wd_40 hw) (by decide) (by decide)) (by rw [hml]; rfl) [.null, .null] (lenOf pd_9 rfl) rfl (Nat.le_of_eq rfl) (hb hby at_177) (fun _ _ => ⟨rfl, e116, (by decide : 2 + 0 ≤ _), (by decide : 12 + 0 ≤ _)⟩) (pc' := 180) rfl ?_
       rintro _ _ ⟨T119, L119, k119, n119⟩ X119 ⟨Lc119, hQ119, l119, y119, z119⟩
       dsimp only [Pt.U, Pt.locs, Pt.cells, Pt.slots] at X119 l119 y119 z119 hQ119 ⊢
       subst l119 y119 z119
       obtain ⟨rfl, N119q, e119⟩ := hQ119
       have N120 := Fr.app N118 N119q
       show Runs _ _ _ _ (T119.setTop (mkF m 180 #[.val (.int p0), .val (.int p1), .val (.int p2), .val .null, .val .null, .val (.int (if (p0 &&& (4 : Int32)) = (0 : Int32) then (0 : Int32) else (1 : Int32))), .val (.ref b24), .val (.ref b40), .val .null, .val (.int (1 : Int32))] [(.int (1 : Int32))]))
       refine w_ifN X119 hx (hb hby at_180) (feq (by decide : ¬ ((1 : Int32) = (0 : Int32)))).1 (pc' := 183) rfl ?_
       refine w_iconst X119 hx (hb hby at_183) (v := (1 : Int32)) rfl (pc' := 184) rfl ?_
       refine w_goto X119 hx (hb hby at_184) (pc' := 188) (by decide) (by decide) ?_
       exact w_done X119 hlk (v := some (.int (1 : Int32))) e119 (fun h => by rw [hret] at h; cases h) (fun fs hr => retN X119 hx (t := .boolean) hret (by simp) (hb hby at_188) hr) (by decide) (by decide) (⟨rfl, N120⟩)
     · have v121 : (if (p0 &&& (4 : Int32)) = (0 : Int32) then (0 : Int32) else (1 : Int32)) = (1 : Int32) := if_neg hc38
       refine w_ifN X35 hx (hb hby at_56) (feq (fun q => absurd (v121.symm.trans q) (by decide))).1 (pc' := 59) rfl ?_
       refine w_aload X35 hx (hb hby at_59) rfl rfl (pc' := 61) rfl ?_
       refine w_goto X35 hx (hb hby at_61) (pc' := 72) (by decide) (by decide) ?_
       refine w_astore X35 hx (hb hby at_72) rfl (L' := #[.val (.int p0), .val (.int p1), .val (.int p2), .val .null, .val .null, .val (.int (if (p0 &&& (4 : Int32)) = (0 : Int32) then (0 : Int32) else (1 : Int32))), .val (.ref b24), .val (.ref b24), .unset, .unset]) rfl (pc' := 74) rfl ?_
       refine w_aload X35 hx (hb hby at_74) rfl rfl (pc' := 76) rfl ?_
       refine w_aloadN X35 hx (hb hby at_76) rfl rfl (pc' := 77) rfl ?_
       have le122 : h0.size ≤ T35.heap.size := (Nat.le_trans E24.1 K35.1)
       obtain ⟨cq123, kq123, q123a, q123b, q123c⟩ := isOf hZ rfl g35_0
       refine w_virtual X35 hx (y := yn_3) (z := yn_3) hown (mvT hZ (wd_21 hw)) (mvT hZ (wd_22 hw)) (notFace_of_selects (args := #[]) (mvT hZ (wd_24 hw))) (mvT hZ (wd_24 hw)) (mvT hZ (wd_23 hw)) (by decide) (backOf (W := 0) (rm_m3_6 l Z aZ hw [] b24 G_ZERO T35.heap n0 (Nat.le_trans Z0 le122) g35_0 g35_6 ge25 g35_1 g35_2 g35_3 g35_4 g35_5) hZ (wd_25 hw) (wd_2 hw) (by decide) (by decide)) q123a q123c (by rw [hml]; rfl) [.null] (lenOf pd_6 rfl) rfl (Nat.le_of_eq rfl) (hb hby at_77) (fun _ _ => ⟨rfl, rfl, (by decide : 1 + 0 ≤ _), (by decide : 6 + 0 ≤ _)⟩) (pc' := 80) rfl ?_
       rintro _ _ ⟨T123, L123, k123, n123⟩ X123 ⟨Lc123, hQ123, l123, y123, z123⟩
       dsimp only [Pt.U, Pt.locs, Pt.cells, Pt.slots] at X123 l123 y123 z123 hQ123 ⊢
       subst l123 y123 z123
       obtain ⟨rfl, N123q, K123, g123_0, g123_1, g123_2, g123_3, g123_4, g123_5, g123_6⟩ := hQ123
       have N124 := Fr.app N36 N123q
       have K125 : Keep h0 T123.heap [] := K37.trans K123 (allS (Or.inr sz26) (all0 (P := fun x => x ∈ [] ∨ h0.size ≤ x)))
       show Runs _ _ _ _ (T123.setTop (mkF m 80 #[.val (.int p0), .val (.int p1), .val (.int p2), .val .null, .val .null, .val (.int (if (p0 &&& (4 : Int32)) = (0 : Int32) then (0 : Int32) else (1 : Int32))), .val (.ref b24), .val (.ref b24), .unset, .unset] []))
       refine w_iload X123 hx (hb hby at_80) rfl (pc' := 82) rfl ?_
       have v126 : (if (p0 &&& (4 : Int32)) = (0 : Int32) then (0 : Int32) else (1 : Int32)) = (1 : Int32) := if_neg hc38
       refine w_ifY X123 hx (hb hby at_82) (feq (fun q => absurd (v126.symm.trans q) (by decide))).2 (pc' := 92) (by decide) (by decide) ?_
       refine w_iload X123 hx (hb hby at_92) rfl (pc' := 94) rfl ?_
       have v127 : (if (p0 &&& (4 : Int32)) = (0 : Int32) then (0 : Int32) else (1 : Int32)) = (1 : Int32) := if_neg hc38
       refine w_ifN X123 hx (hb hby at_94) (feq (fun q => absurd (v127.symm.trans q) (by decide))).1 (pc' := 97) rfl ?_
       refine w_aloadN X123 hx (hb hby at_97) rfl rfl (pc' := 98) rfl ?_
       refine w_goto X123 hx (hb hby at_98) (pc' := 103) (by decide) (by decide) ?_
       refine w_astore X123 hx (hb hby at_103) rfl (L' := #[.val (.int p0), .val (.int p1), .val (.int p2), .val .null, .val .null, .val (.int (if (p0 &&& (4 : Int32)) = (0 : Int32) then (0 : Int32) else (1 : Int32))), .val (.ref b24), .val (.ref b24), .val .null, .unset]) rfl (pc' := 105) rfl ?_
       refine w_aload X123 hx (hb hby at_105) rfl rfl (pc' := 107) rfl ?_
       refine w_aload X123 hx (hb hby at_107) rfl rfl (pc' := 109) rfl ?_
       have le128 : h0.size ≤ T123.heap.size := (Nat.le_trans le122 K123.1)
       obtain ⟨cq129, kq129, q129a, q129b, q129c⟩ := isOf hZ rfl g123_0
       refine w_virtual X123 hx (y := yn_4) (z := yn_4) hown (mvT hZ (wd_28 hw)) (mvT hZ (wd_29 hw)) (notFace_of_selects (args := #[]) (mvT hZ (wd_31 hw))) (mvT hZ (wd_31 hw)) (mvT hZ (wd_30 hw)) (by decide) (backOf (W := 0) (rm_m4_10 l Z aZ hw [] b24 G_ZERO T123.heap n0 (Nat.le_trans Z0 le128) g123_1 g123_0 ge25 g123_2 g123_3 g123_4 g123_5 g123_6) hZ (wd_32 hw) (wd_2 hw) (by decide) (by decide)) q129a q129c (by rw [hml]; rfl) [(.ref b24)] (lenOf pd_7 rfl) rfl (Nat.le_of_eq rfl) (hb hby at_109) (fun _ _ => ⟨rfl, rfl, (by decide : 1 + 0 ≤ _), (by decide : 6 + 0 ≤ _)⟩) (pc' := 112) rfl ?_
       rintro _ _ ⟨T129, L129, k129, n129⟩ X129 ⟨Lc129, hQ129, l129, y129, z129⟩
       dsimp only [Pt.U, Pt.locs, Pt.cells, Pt.slots] at X129 l129 y129 z129 hQ129 ⊢
       subst l129 y129 z129
       obtain ⟨rfl, N129q, K129, g129_0, g129_1, g129_2, g129_3, g129_4, g129_5, g129_6⟩ := hQ129
       have N130 := Fr.app N124 N129q
       have K131 : Keep h0 T129.heap [] := K125.trans K129 (allS (Or.inr sz26) (all0 (P := fun x => x ∈ [] ∨ h0.size ≤ x)))
       show Runs _ _ _ _ (T129.setTop (mkF m 112 #[.val (.int p0), .val (.int p1), .val (.int p2), .val .null, .val .null, .val (.int (if (p0 &&& (4 : Int32)) = (0 : Int32) then (0 : Int32) else (1 : Int32))), .val (.ref b24), .val (.ref b24), .val .null, .unset] []))
       refine w_aload X129 hx (hb hby at_112) rfl rfl (pc' := 114) rfl ?_
       have le132 : h0.size ≤ T129.heap.size := (Nat.le_trans le128 K129.1)
       obtain ⟨cq133, kq133, q133a, q133b, q133c⟩ := isOf hZ rfl g129_1
       refine w_virtual X129 hx (y := yn_5) (z := yn_5) hown (mvT hZ (wd_33 hw)) (mvT hZ (wd_34 hw)) (notFace_of_selects (args := #[]) (mvT hZ (wd_36 hw))) (mvT hZ (wd_36 hw)) (mvT hZ (wd_35 hw)) (by decide) (backOf (W := 0) (rm_m5_8 l Z aZ hw [] b24 T129.heap n0 (Nat.le_trans Z0 le132) g129_0) hZ (wd_37 hw) (wd_2 hw) (by decide) (by decide)) q133a q133c (by rw [hml]; rfl) [] (lenOf pd_8 rfl) rfl (Nat.le_of_eq rfl) (hb hby at_114) (fun _ _ => ⟨rfl, rfl, (by decide : 1 + 0 ≤ _), (by decide : 6 + 0 ≤ _)⟩) (pc' := 117) rfl ?_
       rintro _ _ ⟨T133, L133, k133, n133⟩ X133 ⟨Lc133, hQ133, l133, y133, z133⟩
       dsimp only [Pt.U, Pt.locs, Pt.cells, Pt.slots] at X133 l133 y133 z133 hQ133 ⊢
       subst l133 y133 z133
       obtain ⟨rfl, N133q, e133⟩ := hQ133
       have N134 := Fr.app N130 N133q
       show Runs _ _ _ _ (T133.setTop (mkF m 117 #[.val (.int p0), .val (.int p1), .val (.int p2), .val .null, .val .null, .val (.int (if (p0 &&& (4 : Int32)) = (0 : Int32) then (0 : Int32) else (1 : Int32))), .val (.ref b24), .val (.ref b24), .val .null, .unset] [.null]))
       refine w_aload X133 hx (hb hby at_117) rfl rfl (pc' := 119) rfl ?_
       refine w_static X133 hx (y := yn_6) hown (mvT hZ (wd_38 hw)) (mvT hZ (wd_39 hw)) (mvT hZ (wd_40 hw)) (mvT hZ (wd_41 hw)) (by decide) (backOf (W := 0) (rm_m6_9 l Z aZ hw []  T129.heap n0 (Nat.le_trans Z0 le132) ) hZ (wd_41 hw) (wd_40 hw) (by decide) (by decide)) (by rw [hml]; rfl) [.null, .null] (lenOf pd_9 rfl) rfl (Nat.le_of_eq rfl) (hb hby at_119) (fun _ _ => ⟨rfl, e133, (by decide : 1 + 0 ≤ _), (by decide : 6 + 0 ≤ _)⟩) (pc' := 122) rfl ?_
       rintro _ _ ⟨T135, L135, k135, n135⟩ X135 ⟨Lc135, hQ135, l135, y135, z135⟩
       dsimp only [Pt.U, Pt.locs, Pt.cells, Pt.slots] at X135 l135 y135 z135 hQ135 ⊢
       subst l135 y135 z135
       obtain ⟨rfl, N135q, e135⟩ := hQ135
       have N136 := Fr.app N134 N135q
       show Runs _ _ _ _ (T135.setTop (mkF m 122 #[.val (.int p0), .val (.int p1), .val (.int p2), .val .null, .val .null, .val (.int (if (p0 &&& (4 : Int32)) = (0 : Int32) then (0 : Int32) else (1 : Int32))), .val (.ref b24), .val (.ref b24), .val .null, .unset] [(.int (1 : Int32))]))
       refine w_ifN X135 hx (hb hby at_122) (feq (by decide : ¬ ((1 : Int32) = (0 : Int32)))).1 (pc' := 125) rfl ?_
       refine w_aload X135 hx (hb hby at_125) rfl rfl (pc' := 127) rfl ?_
       obtain ⟨cq137, kq137, q137a, q137b, q137c⟩ := isOf hZ e135 g129_1
       refine w_virtual X135 hx (y := yn_5) (z := yn_5) hown (mvT hZ (wd_33 hw)) (mvT hZ (wd_34 hw)) (notFace_of_selects (args := #[]) (mvT hZ (wd_36 hw))) (mvT hZ (wd_36 hw)) (mvT hZ (wd_35 hw)) (by decide) (backOf (W := 0) (rm_m5_8 l Z aZ hw [] b24 T129.heap n0 (Nat.le_trans Z0 le132) g129_0) hZ (wd_37 hw) (wd_2 hw) (by decide) (by decide)) q137a q137c (by rw [hml]; rfl) [] (lenOf pd_8 rfl) rfl (Nat.le_of_eq rfl) (hb hby at_127) (fun _ _ => ⟨rfl, e135, (by decide : 1 + 0 ≤ _), (by decide : 6 + 0 ≤ _)⟩) (pc' := 130) rfl ?_
       rintro _ _ ⟨T137, L137, k137, n137⟩ X137 ⟨Lc137, hQ137, l137, y137, z137⟩
       dsimp only [Pt.U, Pt.locs, Pt.cells, Pt.slots] at X137 l137 y137 z137 hQ137 ⊢
       subst l137 y137 z137
       obtain ⟨rfl, N137q, e137⟩ := hQ137
       have N138 := Fr.app N136 N137q
       show Runs _ _ _ _ (T137.setTop (mkF m 130 #[.val (.int p0), .val (.int p1), .val (.int p2), .val .null, .val .null, .val (.int (if (p0 &&& (4 : Int32)) = (0 : Int32) then (0 : Int32) else (1 : Int32))), .val (.ref b24), .val (.ref b24), .val .null, .unset] [.null]))
       refine w_aload X137 hx (hb hby at_130) rfl rfl (pc' := 132) rfl ?_
       refine w_static X137 hx (y := yn_6) hown (mvT hZ (wd_38 hw)) (mvT hZ (wd_39 hw)) (mvT hZ (wd_40 hw)) (mvT hZ (wd_41 hw)) (by decide) (backOf (W := 0) (rm_m6_9 l Z aZ hw []  T129.heap n0 (Nat.le_trans Z0 le132) ) hZ (wd_41 hw) (wd_40 hw) (by decide) (by decide)) (by rw [hml]; rfl) [.null, .null] (lenOf pd_9 rfl) rfl (Nat.le_of_eq rfl) (hb hby at_132) (fun _ _ => ⟨rfl, e137, (by decide : 1 + 0 ≤ _), (by decide : 6 + 0 ≤ _)⟩) (pc' := 135) rfl ?_
       rintro _ _ ⟨T139, L139, k139, n139⟩ X139 ⟨Lc139, hQ139, l139, y139, z139⟩
       dsimp only [Pt.U, Pt.locs, Pt.cells, Pt.slots] at X139 l139 y139 z139 hQ139 ⊢
       subst l139 y139 z139
       obtain ⟨rfl, N139q, e139⟩ := hQ139
       have N140 := Fr.app N138 N139q
       show Runs _ _ _ _ (T139.setTop (mkF m 135 #[.val (.int p0), .val (.int p1), .val (.int p2), .val .null, .val .null, .val (.int (if (p0 &&& (4 : Int32)) = (0 : Int32) then (0 : Int32) else (1 : Int32))), .val (.ref b24), .val (.ref b24), .val .null, .unset] [(.int (1 : Int32))]))
       refine w_ifN X139 hx (hb hby at_135) (feq (by decide : ¬ ((1 : Int32) = (0 : Int32)))).1 (pc' := 138) rfl ?_
       refine w_iconst X139 hx (hb hby at_138) (v := (1 : Int32)) rfl (pc' := 139) rfl ?_
       refine w_goto X139 hx (hb hby at_139) (pc' := 143) (by decide) (by decide) ?_
       refine w_istore X139 hx (hb hby at_143) (L' := #[.val (.int p0), .val (.int p1), .val (.int p2), .val .null, .val .null, .val (.int (if (p0 &&& (4 : Int32)) = (0 : Int32) then (0 : Int32) else (1 : Int32))), .val (.ref b24), .val (.ref b24), .val .null, .val (.int (1 : Int32))]) rfl (pc' := 145) rfl ?_
       refine w_aload X139 hx (hb hby at_145) rfl rfl (pc' := 147) rfl ?_
       refine w_aload X139 hx (hb hby at_147) rfl rfl (pc' := 149) rfl ?_
       obtain ⟨cq141, kq141, q141a, q141b, q141c⟩ := isOf hZ e139 g129_1
       refine w_virtual X139 hx (y := yn_4) (z := yn_4) hown (mvT hZ (wd_28 hw)) (mvT hZ (wd_29 hw)) (notFace_of_selects (args := #[]) (mvT hZ (wd_31 hw))) (mvT hZ (wd_31 hw)) (mvT hZ (wd_30 hw)) (by decide) (backOf (W := 0) (rm_m4_10 l Z aZ hw [] b24 G_ZERO T129.heap n0 (Nat.le_trans Z0 le132) g129_0 g129_1 ge25 g129_2 g129_3 g129_4 g129_5 g129_6) hZ (wd_32 hw) (wd_2 hw) (by decide) (by decide)) q141a q141c (by rw [hml]; rfl) [(.ref b24)] (lenOf pd_7 rfl) rfl (Nat.le_of_eq rfl) (hb hby at_149) (fun _ _ => ⟨rfl, e139, (by decide : 1 + 0 ≤ _), (by decide : 6 + 0 ≤ _)⟩) (pc' := 152) rfl ?_
       rintro _ _ ⟨T141, L141, k141, n141⟩ X141 ⟨Lc141, hQ141, l141, y141, z141⟩
       dsimp only [Pt.U, Pt.locs, Pt.cells, Pt.slots] at X141 l141 y141 z141 hQ141 ⊢
       subst l141 y141 z141
       obtain ⟨rfl, N141q, K141, g141_0, g141_1, g141_2, g141_3, g141_4, g141_5, g141_6⟩ := hQ141
       have N142 := Fr.app N140 N141q
       have K143 : Keep h0 T141.heap [] := K131.trans K141 (allS (Or.inr sz26) (all0 (P := fun x => x ∈ [] ∨ h0.size ≤ x)))
       show Runs _ _ _ _ (T141.setTop (mkF m 152 #[.val (.int p0), .val (.int p1), .val (.int p2), .val .null, .val .null, .val (.int (if (p0 &&& (4 : Int32)) = (0 : Int32) then (0 : Int32) else (1 : Int32))), .val (.ref b24), .val (.ref b24), .val .null, .val (.int (1 : Int32))] []))
       refine w_iload X141 hx (hb hby at_152) rfl (pc' := 154) rfl ?_
       refine w_ifN X141 hx (hb hby at_154) (feq (by decide : ¬ ((1 : Int32) = (0 : Int32)))).1 (pc' := 157) rfl ?_
       refine w_aload X141 hx (hb hby at_157) rfl rfl (pc' := 159) rfl ?_
       have le144 : h0.size ≤ T141.heap.size := (Nat.le_trans le132 K141.1)
       obtain ⟨cq145, kq145, q145a, q145b, q145c⟩ := isOf hZ rfl g141_1
       refine w_virtual X141 hx (y := yn_5) (z := yn_5) hown (mvT hZ (wd_33 hw)) (mvT hZ (wd_34 hw)) (notFace_of_selects (args := #[]) (mvT hZ (wd_36 hw))) (mvT hZ (wd_36 hw)) (mvT hZ (wd_35 hw)) (by decide) (backOf (W := 0) (rm_m5_8 l Z aZ hw [] b24 T141.heap n0 (Nat.le_trans Z0 le144) g141_0) hZ (wd_37 hw) (wd_2 hw) (by decide) (by decide)) q145a q145c (by rw [hml]; rfl) [] (lenOf pd_8 rfl) rfl (Nat.le_of_eq rfl) (hb hby at_159) (fun _ _ => ⟨rfl, rfl, (by decide : 1 + 0 ≤ _), (by decide : 6 + 0 ≤ _)⟩) (pc' := 162) rfl ?_
       rintro _ _ ⟨T145, L145, k145, n145⟩ X145 ⟨Lc145, hQ145, l145, y145, z145⟩
       dsimp only [Pt.U, Pt.locs, Pt.cells, Pt.slots] at X145 l145 y145 z145 hQ145 ⊢
       subst l145 y145 z145
       obtain ⟨rfl, N145q, e145⟩ := hQ145
       have N146 := Fr.app N142 N145q
       show Runs _ _ _ _ (T145.setTop (mkF m 162 #[.val (.int p0), .val (.int p1), .val (.int p2), .val .null, .val .null, .val (.int (if (p0 &&& (4 : Int32)) = (0 : Int32) then (0 : Int32) else (1 : Int32))), .val (.ref b24), .val (.ref b24), .val .null, .val (.int (1 : Int32))] [.null]))
       refine w_aload X145 hx (hb hby at_162) rfl rfl (pc' := 164) rfl ?_
       refine w_static X145 hx (y := yn_6) hown (mvT hZ (wd_38 hw)) (mvT hZ (wd_39 hw)) (mvT hZ (wd_40 hw)) (mvT hZ (wd_41 hw)) (by decide) (backOf (W := 0) (rm_m6_9 l Z aZ hw []  T141.heap n0 (Nat.le_trans Z0 le144) ) hZ (wd_41 hw) (wd_40 hw) (by decide) (by decide)) (by rw [hml]; rfl) [.null, .null] (lenOf pd_9 rfl) rfl (Nat.le_of_eq rfl) (hb hby at_164) (fun _ _ => ⟨rfl, e145, (by decide : 1 + 0 ≤ _), (by decide : 6 + 0 ≤ _)⟩) (pc' := 167) rfl ?_
       rintro _ _ ⟨T147, L147, k147, n147⟩ X147 ⟨Lc147, hQ147, l147, y147, z147⟩
       dsimp only [Pt.U, Pt.locs, Pt.cells, Pt.slots] at X147 l147 y147 z147 hQ147 ⊢
       subst l147 y147 z147
       obtain ⟨rfl, N147q, e147⟩ := hQ147
       have N148 := Fr.app N146 N147q
       show Runs _ _ _ _ (T147.setTop (mkF m 167 #[.val (.int p0), .val (.int p1), .val (.int p2), .val .null, .val .null, .val (.int (if (p0 &&& (4 : Int32)) = (0 : Int32) then (0 : Int32) else (1 : Int32))), .val (.ref b24), .val (.ref b24), .val .null, .val (.int (1 : Int32))] [(.int (1 : Int32))]))
       refine w_ifN X147 hx (hb hby at_167) (feq (by decide : ¬ ((1 : Int32) = (0 : Int32)))).1 (pc' := 170) rfl ?_
       refine w_aload X147 hx (hb hby at_170) rfl rfl (pc' := 172) rfl ?_
       obtain ⟨cq149, kq149, q149a, q149b, q149c⟩ := isOf hZ e147 g141_1
       refine w_virtual X147 hx (y := yn_5) (z := yn_5) hown (mvT hZ (wd_33 hw)) (mvT hZ (wd_34 hw)) (notFace_of_selects (args := #[]) (mvT hZ (wd_36 hw))) (mvT hZ (wd_36 hw)) (mvT hZ (wd_35 hw)) (by decide) (backOf (W := 0) (rm_m5_8 l Z aZ hw [] b24 T141.heap n0 (Nat.le_trans Z0 le144) g141_0) hZ (wd_37 hw) (wd_2 hw) (by decide) (by decide)) q149a q149c (by rw [hml]; rfl) [] (lenOf pd_8 rfl) rfl (Nat.le_of_eq rfl) (hb hby at_172) (fun _ _ => ⟨rfl, e147, (by decide : 1 + 0 ≤ _), (by decide : 6 + 0 ≤ _)⟩) (pc' := 175) rfl ?_
       rintro _ _ ⟨T149, L149, k149, n149⟩ X149 ⟨Lc149, hQ149, l149, y149, z149⟩
       dsimp only [Pt.U, Pt.locs, Pt.cells, Pt.slots] at X149 l149 y149 z149 hQ149 ⊢
       subst l149 y149 z149
       obtain ⟨rfl, N149q, e149⟩ := hQ149
       have N150 := Fr.app N148 N149q
       show Runs _ _ _ _ (T149.setTop (mkF m 175 #[.val (.int p0), .val (.int p1), .val (.int p2), .val .null, .val .null, .val (.int (if (p0 &&& (4 : Int32)) = (0 : Int32) then (0 : Int32) else (1 : Int32))), .val (.ref b24), .val (.ref b24), .val .null, .val (.int (1 : Int32))] [.null]))
       refine w_aload X149 hx (hb hby at_175) rfl rfl (pc' := 177) rfl ?_
       refine w_static X149 hx (y := yn_6) hown (mvT hZ (wd_38 hw)) (mvT hZ (wd_39 hw)) (mvT hZ (wd_40 hw)) (mvT hZ (wd_41 hw)) (by decide) (backOf (W := 0) (rm_m6_9 l Z aZ hw []  T141.heap n0 (Nat.le_trans Z0 le144) ) hZ (wd_41 hw) (wd_40 hw) (by decide) (by decide)) (by rw [hml]; rfl) [.null, .null] (lenOf pd_9 rfl) rfl (Nat.le_of_eq rfl) (hb hby at_177) (fun _ _ => ⟨rfl, e149, (by decide : 1 + 0 ≤ _), (by decide : 6 + 0 ≤ _)⟩) (pc' := 180) rfl ?_
       rintro _ _ ⟨T151, L151, k151, n151⟩ X151 ⟨Lc151, hQ151, l151, y151, z151⟩
       dsimp only [Pt.U, Pt.locs, Pt.cells, Pt.slots] at X151 l151 y151 z151 hQ151 ⊢
       subst l151 y151 z151
       obtain ⟨rfl, N151q, e151⟩ := hQ151
       have N152 := Fr.app N150 N151q
       show Runs _ _ _ _ (T151.setTop (mkF m 180 #[.val (.int p0), .val (.int p1), .val (.int p2), .val .null, .val .null, .val (.int (if (p0 &&& (4 : Int32)) = (0 : Int32) then (0 : Int32) else (1 : Int32))), .val (.ref b24), .val (.ref b24), .val .null, .val (.int (1 : Int32))] [(.int (1 : Int32))]))
       refine w_ifN X151 hx (hb hby at_180) (feq (by decide : ¬ ((1 : Int32) = (0 : Int32)))).1 (pc' := 183) rfl ?_
       refine w_iconst X151 hx (hb hby at_183) (v := (1 : Int32)) rfl (pc' := 184) rfl ?_
       refine w_goto X151 hx (hb hby at_184) (pc' := 188) (by decide) (by decide) ?_
       exact w_done X151 hlk (v := some (.int (1 : Int32))) e151 (fun h => by rw [hret] at h; cases h) (fun fs hr => retN X151 hx (t := .boolean) hret (by simp) (hb hby at_188) hr) (by decide) (by decide) (⟨rfl, N152⟩)
   · refine w_ifN X0 hx (hb hby at_18) (feq hc21).1 (pc' := 21) rfl ?_
     refine w_iloadN X0 hx (hb hby at_21) rfl (pc' := 22) rfl ?_
     refine w_static X0 hx (y := yn_7) hown (mvT hZ (wd_42 hw)) (mvT hZ (wd_43 hw)) (mvT hZ (wd_40 hw)) (mvT hZ (wd_44 hw)) (by decide) (backOf (W := 0) (rm_drawn l Z aZ hw [] p2 G_COMPACT_STRINGS h0 n0 Z0 S_COMPACT_STRINGS O0 hP_3) hZ (wd_44 hw) (wd_40 hw) (by decide) (by decide)) (by rw [hml]; rfl) [(.int p2)] (lenOf pd_10 rfl) rfl (Nat.le_of_eq rfl) (hb hby at_22) (fun _ _ => ⟨rfl, e0, (by decide : 0 + 3 ≤ _), (by decide : 0 + 8 ≤ _)⟩) (pc' := 25) rfl ?_
     rintro _ _ ⟨T153, L153, k153, n153⟩ X153 ⟨Lc153, hQ153, l153, y153, z153⟩
     dsimp only [Pt.U, Pt.locs, Pt.cells, Pt.slots] at X153 l153 y153 z153 hQ153 ⊢
     subst l153 y153 z153
     obtain ⟨r_153, rfl, N153q, K153, g153_0, g153_1⟩ := hQ153
     have N154 := Fr.app N0 N153q
     have K155 : Keep h0 T153.heap [] := (Keep.refl h0 []).trans K153 (all0 (P := fun x => x ∈ [] ∨ h0.size ≤ x))
     have ge156 : n0 ≤ r_153 := Nat.le_trans Z0 g153_0
     have sz157 : h0.size ≤ r_153 := Nat.le_trans (Nat.le_refl _) g153_0
     show Runs _ _ _ _ (T153.setTop (mkF m 25 #[.val (.int p0), .val (.int p1), .val (.int p2), .val .null, .unset, .unset, .unset, .unset, .unset, .unset] [(.ref r_153)]))
     refine w_goto X153 hx (hb hby at_25) (pc' := 29) (by decide) (by decide) ?_
     refine w_astore X153 hx (hb hby at_29) rfl (L' := #[.val (.int p0), .val (.int p1), .val (.int p2), .val .null, .val (.ref r_153), .unset, .unset, .unset, .unset, .unset]) rfl (pc' := 31) rfl ?_
     refine w_iloadN X153 hx (hb hby at_31) rfl (pc' := 32) rfl ?_
     refine w_iconst X153 hx (hb hby at_32) (v := (4 : Int32)) rfl (pc' := 33) rfl ?_
     refine w_iand X153 hx (hb hby at_33) (pc' := 34) rfl ?_
     suffices key159 : Runs p e below (EndN s (Q_law Z p0 p1 p2 G_ZERO G_COMPACT_STRINGS h0 n0) room_1.cells room_1.slots) (T153.setTop (mkF m 42 #[.val (.int p0), .val (.int p1), .val (.int p2), .val .null, .val (.ref r_153), .unset, .unset, .unset, .unset, .unset] [(.int (if (p0 &&& (4 : Int32)) = (0 : Int32) then (0 : Int32) else (1 : Int32)))])) by
      by_cases hc158 : (p0 &&& (4 : Int32)) = (0 : Int32)
      · rw [if_pos hc158] at key159
        refine w_ifY X153 hx (hb hby at_34) (teq hc158).1 (pc' := 41) (by decide) (by decide) ?_
        refine w_iconst X153 hx (hb hby at_41) (v := (0 : Int32)) rfl (pc' := 42) rfl ?_
        exact key159
      · rw [if_neg hc158] at key159
        refine w_ifN X153 hx (hb hby at_34) (feq hc158).1 (pc' := 37) rfl ?_
        refine w_iconst X153 hx (hb hby at_37) (v := (1 : Int32)) rfl (pc' := 38) rfl ?_
        refine w_goto X153 hx (hb hby at_38) (pc' := 42) (by decide) (by decide) ?_
        exact key159
     refine w_istore X153 hx (hb hby at_42) (L' := #[.val (.int p0), .val (.int p1), .val (.int p2), .val .null, .val (.ref r_153), .val (.int (if (p0 &&& (4 : Int32)) = (0 : Int32) then (0 : Int32) else (1 : Int32))), .unset, .unset, .unset, .unset]) rfl (pc' := 44) rfl ?_
     refine w_new X153 hx hZ hown (wd_0 hw) (wd_1 hw) (wd_2 hw) rfl (hb hby at_44) (by decide) (by decide) (pc' := 47) rfl ?_
     intro T160 h160 b160 X160 e160 E160 g160 A160 D160
     have ge161 : n0 ≤ b160 := Nat.le_trans (Nat.le_trans Z0 K153.1) (Nat.le_of_eq g160.symm)
     have sz162 : h0.size ≤ b160 := Nat.le_trans K153.1 (Nat.le_of_eq g160.symm)
     have K163 : Keep h0 h160 [] := K155.ext E160
     have f164 : Fld Z h160 b160 kc0 "open" "Ljava/math/BigDecimal;" .null := D160 (Or.inl (wd_12 hw)) (ty := (.object kc1)) (by decide)
     have f165 : Fld Z h160 b160 kc0 "downside" "Ljava/math/BigDecimal;" .null := D160 (Or.inl (wd_14 hw)) (ty := (.object kc1)) (by decide)
     have f166 : Fld Z h160 b160 kc0 "upside" "Ljava/math/BigDecimal;" .null := D160 (Or.inl (wd_16 hw)) (ty := (.object kc1)) (by decide)
     have f167 : Fld Z h160 b160 kc0 "exposure" "Ljava/math/BigDecimal;" .null := D160 (Or.inl (wd_18 hw)) (ty := (.object kc1)) (by decide)
     have f168 : Fld Z h160 b160 kc0 "pool" "Lcom/example/ringfence/ringfence/gate/Pool;" .null := D160 (Or.inr (wd_20 hw)) (ty := (.object kc3)) (by decide)
     have f169 : Fld Z h160 b160 kc0 "unrated" "Ljava/lang/String;" .null := D160 (Or.inl (wd_27 hw)) (ty := (.object kc2)) (by decide)
     refine w_dup X160 hx (hb hby at_47) rfl (pc' := 48) rfl ?_
     refine w_null X160 hx (hb hby at_48) (pc' := 49) rfl ?_
     have f170 : Old Z n0 h160 := ((O0.keep K153 all0).ext E160)
     have le171 : h0.size ≤ h160.size := (Nat.le_trans K153.1 E160.1)
     refine w_special X160 hx (y := yn_1) rfl hown (mvT hZ (wd_3 hw)) (mvT hZ (wd_4 hw)) (mvT hZ (wd_5 hw)) (by decide) (backOf (W := 1) (rm_m1_5 l Z aZ hw [] b160 G_ZERO h160 n0 (Nat.le_trans Z0 le171) S_ZERO f170 A160 f164 ge161 f165 f166 f167 f168 f169) hZ (wd_5 hw) (wd_2 hw) (by decide) (by decide)) (by rw [hml]; rfl) [.null] (lenOf pd_5 rfl) rfl (Nat.le_of_eq rfl) (hb hby at_49) (fun _ _ => ⟨rfl, e160, (by decide : 4 + 0 ≤ _), (by decide : 14 + 0 ≤ _)⟩) (pc' := 52) rfl ?_
     rintro _ _ ⟨T172, L172, k172, n172⟩ X172 ⟨Lc172, hQ172, l172, y172, z172⟩
     dsimp only [Pt.U, Pt.locs, Pt.cells, Pt.slots] at X172 l172 y172 z172 hQ172 ⊢
     subst l172 y172 z172
     obtain ⟨rfl, N172q, K172, g172_0, g172_1, g172_2, g172_3, g172_4, g172_5, g172_6⟩ := hQ172
     have N173 := Fr.app N154 N172q
     have K174 : Keep h0 T172.heap [] := K163.trans K172 (allS (Or.inr sz162) (all0 (P := fun x => x ∈ [] ∨ h0.size ≤ x)))
     show Runs _ _ _ _ (T172.setTop (mkF m 52 #[.val (.int p0), .val (.int p1), .val (.int p2), .val .null, .val (.ref r_153), .val (.int (if (p0 &&& (4 : Int32)) = (0 : Int32) then (0 : Int32) else (1 : Int32))), .unset, .unset, .unset, .unset] [(.ref b160)]))
     refine w_astore X172 hx (hb hby at_52) rfl (L' := #[.val (.int p0), .val (.int p1), .val (.int p2), .val .null, .val (.ref r_153), .val (.int (if (p0 &&& (4 : Int32)) = (0 : Int32) then (0 : Int32) else (1 : Int32))), .val (.ref b160), .unset, .unset, .unset]) rfl (pc' := 54) rfl ?_
     refine w_iload X172 hx (hb hby at_54) rfl (pc' := 56) rfl ?_
     by_cases hc175 : (p0 &&& (4 : Int32)) = (0 : Int32)
     · have v176 : (if (p0 &&& (4 : Int32)) = (0 : Int32) then (0 : Int32) else (1 : Int32)) = (0 : Int32) := if_pos hc175
       refine w_ifY X172 hx (hb hby at_56) (teq (v176.trans (by decide))).1 (pc' := 64) (by decide) (by decide) ?_
       refine w_new X172 hx hZ hown (wd_0 hw) (wd_1 hw) (wd_2 hw) rfl (hb hby at_64) (by decide) (by decide) (pc' := 67) rfl ?_
       intro T177 h177 b177 X177 e177 E177 g177 A177 D177
       have le179 : h0.size ≤ T172.heap.size := (Nat.le_trans le171 K172.1)
       have ge178 : n0 ≤ b177 := Nat.le_trans (Nat.le_trans Z0 le179) (Nat.le_of_eq g177.symm)
       have sz180 : h0.size ≤ b177 := Nat.le_trans le179 (Nat.le_of_eq g177.symm)
       have K181 : Keep h0 h177 [] := K174.ext E177
       have f182 : Fld Z h177 b177 kc0 "open" "Ljava/math/BigDecimal;" .null := D177 (Or.inl (wd_12 hw)) (ty := (.object kc1)) (by decide)
       have f183 : Fld Z h177 b177 kc0 "downside" "Ljava/math/BigDecimal;" .null := D177 (Or.inl (wd_14 hw)) (ty := (.object kc1)) (by decide)
       have f184 : Fld Z h177 b177 kc0 "upside" "Ljava/math/BigDecimal;" .null := D177 (Or.inl (wd_16 hw)) (ty := (.object kc1)) (by decide)
       have f185 : Fld Z h177 b177 kc0 "exposure" "Ljava/math/BigDecimal;" .null := D177 (Or.inl (wd_18 hw)) (ty := (.object kc1)) (by decide)
       have f186 : Fld Z h177 b177 kc0 "pool" "Lcom/example/ringfence/ringfence/gate/Pool;" .null := D177 (Or.inr (wd_20 hw)) (ty := (.object kc3)) (by decide)
       have f187 : Fld Z h177 b177 kc0 "unrated" "Ljava/lang/String;" .null := D177 (Or.inl (wd_27 hw)) (ty := (.object kc2)) (by decide)
       refine w_dup X177 hx (hb hby at_67) rfl (pc' := 68) rfl ?_
       refine w_null X177 hx (hb hby at_68) (pc' := 69) rfl ?_
       have f188 : Old Z n0 h177 := ((f170.keep K172 (allS ge161 all0)).ext E177)
       have le189 : h0.size ≤ h177.size := (Nat.le_trans le179 E177.1)
       refine w_special X177 hx (y := yn_1) rfl hown (mvT hZ (wd_3 hw)) (mvT hZ (wd_4 hw)) (mvT hZ (wd_5 hw)) (by decide) (backOf (W := 1) (rm_m1_5 l Z aZ hw [] b177 G_ZERO h177 n0 (Nat.le_trans Z0 le189) S_ZERO f188 A177 f182 ge178 f183 f184 f185 f186 f187) hZ (wd_5 hw) (wd_2 hw) (by decide) (by decide)) (by rw [hml]; rfl) [.null] (lenOf pd_5 rfl) rfl (Nat.le_of_eq rfl) (hb hby at_69) (fun _ _ => ⟨rfl, e177, (by decide : 5 + 0 ≤ _), (by decide : 20 + 0 ≤ _)⟩) (pc' := 72) rfl ?_
       rintro _ _ ⟨T190, L190, k190, n190⟩ X190 ⟨Lc190, hQ190, l190, y190, z190⟩
       dsimp only [Pt.U, Pt.locs, Pt.cells, Pt.slots] at X190 l190 y190 z190 hQ190 ⊢
       subst l190 y190 z190
       obtain ⟨rfl, N190q, K190, g190_0, g190_1, g190_2, g190_3, g190_4, g190_5, g190_6⟩ := hQ190
       have N191 := Fr.app N173 N190q
       have K192 : Keep h0 T190.heap [] := K181.trans K190 (allS (Or.inr sz180) (all0 (P := fun x => x ∈ [] ∨ h0.size ≤ x)))
       show Runs _ _ _ _ (T190.setTop (mkF m 72 #[.val (.int p0), .val (.int p1), .val (.int p2), .val .null, .val (.ref r_153), .val (.int (if (p0 &&& (4 : Int32)) = (0 : Int32) then (0 : Int32) else (1 : Int32))), .val (.ref b160), .unset, .unset, .unset] [(.ref b177)]))
       refine w_astore X190 hx (hb hby at_72) rfl (L' := #[.val (.int p0), .val (.int p1), .val (.int p2), .val .null, .val (.ref r_153), .val (.int (if (p0 &&& (4 : Int32)) = (0 : Int32) then (0 : Int32) else (1 : Int32))), .val (.ref b160), .val (.ref b177), .unset, .unset]) rfl (pc' := 74) rfl ?_
       refine w_aload X190 hx (hb hby at_74) rfl rfl (pc' := 76) rfl ?_
       refine w_aloadN X190 hx (hb hby at_76) rfl rfl (pc' := 77) rfl ?_
       have f193 : Exa Z T190.heap b160 kc0 := ((g172_0.ext E177).keep K190)
       have ne194 : b160 ≠ b177 := (Nat.ne_of_lt (Nat.lt_of_lt_of_le A160.lt (Nat.le_trans K172.1 (Nat.le_of_eq g177.symm))))
       have f195 : Fld Z T190.heap b160 kc0 "unrated" "Ljava/lang/String;" .null := ((g172_6.ext E177).keep K190 (ninS ne194 nin0))
       have f196 : Fld Z T190.heap b160 kc0 "open" "Ljava/math/BigDecimal;" (.ref G_ZERO) := ((g172_1.ext E177).keep K190 (ninS ne194 nin0))
       have f197 : Fld Z T190.heap b160 kc0 "downside" "Ljava/math/BigDecimal;" (.ref G_ZERO) := ((g172_2.ext E177).keep K190 (ninS ne194 nin0))
       have f198 : Fld Z T190.heap b160 kc0 "upside" "Ljava/math/BigDecimal;" (.ref G_ZERO) := ((g172_3.ext E177).keep K190 (ninS ne194 nin0))
       have f199 : Fld Z T190.heap b160 kc0 "exposure" "Ljava/math/BigDecimal;" (.ref G_ZERO) := ((g172_4.ext E177).keep K190 (ninS ne194 nin0))
       have f200 : Fld Z T190.heap b160 kc0 "pool" "Lcom/example/ringfence/ringfence/gate/Pool;" .null := ((g172_5.ext E177).keep K190 (ninS ne194 nin0))
       have le201 : h0.size ≤ T190.heap.size := (Nat.le_trans le189 K190.1)
       obtain ⟨cq202, kq202, q202a, q202b, q202c⟩ := isOf hZ rfl f193
       refine w_virtual X190 hx (y := yn_3) (z := yn_3) hown (mvT hZ (wd_21 hw)) (mvT hZ (wd_22 hw)) (notFace_of_selects (args := #[]) (mvT hZ (wd_24 hw))) (mvT hZ (wd_24 hw)) (mvT hZ (wd_23 hw)) (by decide) (backOf (W := 0) (rm_m3_6 l Z aZ hw [] b160 G_ZERO T190.heap n0 (Nat.le_trans Z0 le201) f193 f195 ge161 f196 f197 f198 f199 f200) hZ (wd_25 hw) (wd_2 hw) (by decide) (by decide)) q202a q202c (by rw [hml]; rfl) [.null] (lenOf pd_6 rfl) rfl (Nat.le_of_eq rfl) (hb hby at_77) (fun _ _ => ⟨rfl, rfl, (by decide : 5 + 0 ≤ _), (by decide : 20 + 0 ≤ _)⟩) (pc' := 80) rfl ?_
       rintro _ _ ⟨T202, L202, k202, n202⟩ X202 ⟨Lc202, hQ202, l202, y202, z202⟩
       dsimp only [Pt.U, Pt.locs, Pt.cells, Pt.slots] at X202 l202 y202 z202 hQ202 ⊢
       subst l202 y202 z202
       obtain ⟨rfl, N202q, K202, g202_0, g202_1, g202_2, g202_3, g202_4, g202_5, g202_6⟩ := hQ202
       have N203 := Fr.app N191 N202q
       have K204 : Keep h0 T202.heap [] := K192.trans K202 (allS (Or.inr sz162) (all0 (P := fun x => x ∈ [] ∨ h0.size ≤ x)))
       show Runs _ _ _ _ (T202.setTop (mkF m 80 #[.val (.int p0), .val (.int p1), .val (.int p2), .val .null, .val (.ref r_153), .val (.int (if (p0 &&& (4 : Int32)) = (0 : Int32) then (0 : Int32) else (1 : Int32))), .val (.ref b160), .val (.ref b177), .unset, .unset] []))
       refine w_iload X202 hx (hb hby at_80) rfl (pc' := 82) rfl ?_
       have v205 : (if (p0 &&& (4 : Int32)) = (0 : Int32) then (0 : Int32) else (1 : Int32)) = (0 : Int32) := if_pos hc175
       refine w_ifN X202 hx (hb hby at_82) (teq (v205.trans (by decide))).2 (pc' := 85) rfl ?_
       refine w_aload X202 hx (hb hby at_85) rfl rfl (pc' := 87) rfl ?_
       refine w_aload X202 hx (hb hby at_87) rfl rfl (pc' := 89) rfl ?_
       have f206 : Exa Z T202.heap b177 kc0 := (g190_0.keep K202)
       have f207 : Fld Z T202.heap b177 kc0 "unrated" "Ljava/lang/String;" .null := (g190_6.keep K202 (ninS (Ne.symm ne194) nin0))
       have f208 : Fld Z T202.heap b177 kc0 "open" "Ljava/math/BigDecimal;" (.ref G_ZERO) := (g190_1.keep K202 (ninS (Ne.symm ne194) nin0))
       have f209 : Fld Z T202.heap b177 kc0 "downside" "Ljava/math/BigDecimal;" (.ref G_ZERO) := (g190_2.keep K202 (ninS (Ne.symm ne194) nin0))
       have f210 : Fld Z T202.heap b177 kc0 "upside" "Ljava/math/BigDecimal;" (.ref G_ZERO) := (g190_3.keep K202 (ninS (Ne.symm ne194) nin0))
       have f211 : Fld Z T202.heap b177 kc0 "exposure" "Ljava/math/BigDecimal;" (.ref G_ZERO) := (g190_4.keep K202 (ninS (Ne.symm ne194) nin0))
       have f212 : Fld Z T202.heap b177 kc0 "pool" "Lcom/example/ringfence/ringfence/gate/Pool;" .null := (g190_5.keep K202 (ninS (Ne.symm ne194) nin0))
       have le213 : h0.size ≤ T202.heap.size := (Nat.le_trans le201 K202.1)
       obtain ⟨cq214, kq214, q214a, q214b, q214c⟩ := isOf hZ rfl f206
       refine w_virtual X202 hx (y := yn_3) (z := yn_3) hown (mvT hZ (wd_21 hw)) (mvT hZ (wd_22 hw)) (notFace_of_selects (args := #[]) (mvT hZ (wd_24 hw))) (mvT hZ (wd_24 hw)) (mvT hZ (wd_23 hw)) (by decide) (backOf (W := 0) (rm_m3_11 l Z aZ hw [] b177 r_153 G_ZERO T202.heap n0 (Nat.le_trans Z0 le213) f206 f207 ge178 f208 f209 f210 f211 f212) hZ (wd_25 hw) (wd_2 hw) (by decide) (by decide)) q214a q214c (by rw [hml]; rfl) [(.ref r_153)] (lenOf pd_6 rfl) rfl (Nat.le_of_eq rfl) (hb hby at_89) (fun _ _ => ⟨rfl, rfl, (by decide : 5 + 0 ≤ _), (by decide : 20 + 0 ≤ _)⟩) (pc' := 92) rfl ?_
       rintro _ _ ⟨T214, L214, k214, n214⟩ X214 ⟨Lc214, hQ214, l214, y214, z214⟩
       dsimp only [Pt.U, Pt.locs, Pt.cells, Pt.slots] at X214 l214 y214 z214 hQ214 ⊢
       subst l214 y214 z214
       obtain ⟨rfl, N214q, K214, g214_0, g214_1, g214_2, g214_3, g214_4, g214_5, g214_6⟩ := hQ214
       have N215 := Fr.app N203 N214q
       have K216 : Keep h0 T214.heap [] := K204.trans K214 (allS (Or.inr sz180) (all0 (P := fun x => x ∈ [] ∨ h0.size ≤ x)))
       show Runs _ _ _ _ (T214.setTop (mkF m 92 #[.val (.int p0), .val (.int p1), .val (.int p2), .val .null, .val (.ref r_153), .val (.int (if (p0 &&& (4 : Int32)) = (0 : Int32) then (0 : Int32) else (1 : Int32))), .val (.ref b160), .val (.ref b177), .unset, .unset] []))
       refine w_iload X214 hx (hb hby at_92) rfl (pc' := 94) rfl ?_
       have v217 : (if (p0 &&& (4 : Int32)) = (0 : Int32) then (0 : Int32) else (1 : Int32)) = (0 : Int32) := if_pos hc175
       refine w_ifY X214 hx (hb hby at_94) (teq (v217.trans (by decide))).1 (pc' := 101) (by decide) (by decide) ?_
       refine w_aload X214 hx (hb hby at_101) rfl rfl (pc' := 103) rfl ?_
       refine w_astore X214 hx (hb hby at_103) rfl (L' := #[.val (.int p0), .val (.int p1), .val (.int p2), .val .null, .val (.ref r_153), .val (.int (if (p0 &&& (4 : Int32)) = (0 : Int32) then (0 : Int32) else (1 : Int32))), .val (.ref b160), .val (.ref b177), .val (.ref r_153), .unset]) rfl (pc' := 105) rfl ?_
       refine w_aload X214 hx (hb hby at_105) rfl rfl (pc' := 107) rfl ?_
       refine w_aload X214 hx (hb hby at_107) rfl rfl (pc' := 109) rfl ?_
       have f218 : Exa Z T214.heap b160 kc0 := (g202_0.keep K214)
       have f219 : Fld Z T214.heap b160 kc0 "unrated" "Ljava/lang/String;" .null := (g202_1.keep K214 (ninS ne194 nin0))
       have f220 : Fld Z T214.heap b160 kc0 "open" "Ljava/math/BigDecimal;" (.ref G_ZERO) := (g202_2.keep K214 (ninS ne194 nin0))
       have f221 : Fld Z T214.heap b160 kc0 "downside" "Ljava/math/BigDecimal;" (.ref G_ZERO) := (g202_3.keep K214 (ninS ne194 nin0))
       have f222 : Fld Z T214.heap b160 kc0 "upside" "Ljava/math/BigDecimal;" (.ref G_ZERO) := (g202_4.keep K214 (ninS ne194 nin0))
       have f223 : Fld Z T214.heap b160 kc0 "exposure" "Ljava/math/BigDecimal;" (.ref G_ZERO) := (g202_5.keep K214 (ninS ne194 nin0))
       have f224 : Fld Z T214.heap b160 kc0 "pool" "Lcom/example/ringfence/ringfence/gate/Pool;" .null := (g202_6.keep K214 (ninS ne194 nin0))
       have le225 : h0.size ≤ T214.heap.size := (Nat.le_trans le213 K214.1)
       obtain ⟨cq226, kq226, q226a, q226b, q226c⟩ := isOf hZ rfl f218
       refine w_virtual X214 hx (y := yn_4) (z := yn_4) hown (mvT hZ (wd_28 hw)) (mvT hZ (wd_29 hw)) (notFace_of_selects (args := #[]) (mvT hZ (wd_31 hw))) (mvT hZ (wd_31 hw)) (mvT hZ (wd_30 hw)) (by decide) (backOf (W := 0) (rm_m4_12 l Z aZ hw [] b160 b177 r_153 G_ZERO T214.heap n0 (Nat.le_trans Z0 le225) g214_1 f218 f219 ge161 g214_2 (Ne.symm ne194) f220 g214_3 f221 g214_4 f222 g214_5 f223 f224) hZ (wd_32 hw) (wd_2 hw) (by decide) (by decide)) q226a q226c (by rw [hml]; rfl) [(.ref b177)] (lenOf pd_7 rfl) rfl (Nat.le_of_eq rfl) (hb hby at_109) (fun _ _ => ⟨rfl, rfl, (by decide : 5 + 0 ≤ _), (by decide : 20 + 0 ≤ _)⟩) (pc' := 112) rfl ?_
       rintro _ _ ⟨T226, L226, k226, n226⟩ X226 ⟨Lc226, hQ226, l226, y226, z226⟩
       dsimp only [Pt.U, Pt.locs, Pt.cells, Pt.slots] at X226 l226 y226 z226 hQ226 ⊢
       subst l226 y226 z226
       obtain ⟨rfl, N226q, K226, g226_0, g226_1, g226_2, g226_3, g226_4, g226_5, g226_6⟩ := hQ226
       have N227 := Fr.app N215 N226q
       have K228 : Keep h0 T226.heap [] := K216.trans K226 (allS (Or.inr sz162) (all0 (P := fun x => x ∈ [] ∨ h0.size ≤ x)))
       show Runs _ _ _ _ (T226.setTop (mkF m 112 #[.val (.int p0), .val (.int p1), .val (.int p2), .val .null, .val (.ref r_153), .val (.int (if (p0 &&& (4 : Int32)) = (0 : Int32) then (0 : Int32) else (1 : Int32))), .val (.ref b160), .val (.ref b177), .val (.ref r_153), .unset] []))
       refine w_aload X226 hx (hb hby at_112) rfl rfl (pc' := 114) rfl ?_
       have le229 : h0.size ≤ T226.heap.size := (Nat.le_trans le225 K226.1)
       obtain ⟨cq230, kq230, q230a, q230b, q230c⟩ := isOf hZ rfl g226_0
       refine w_virtual X226 hx (y := yn_5) (z := yn_5) hown (mvT hZ (wd_33 hw)) (mvT hZ (wd_34 hw)) (notFace_of_selects (args := #[]) (mvT hZ (wd_36 hw))) (mvT hZ (wd_36 hw)) (mvT hZ (wd_35 hw)) (by decide) (backOf (W := 0) (rm_m5_13 l Z aZ hw [] b160 r_153 T226.heap n0 (Nat.le_trans Z0 le229) g226_1) hZ (wd_37 hw) (wd_2 hw) (by decide) (by decide)) q230a q230c (by rw [hml]; rfl) [] (lenOf pd_8 rfl) rfl (Nat.le_of_eq rfl) (hb hby at_114) (fun _ _ => ⟨rfl, rfl, (by decide : 5 + 0 ≤ _), (by decide : 20 + 0 ≤ _)⟩) (pc' := 117) rfl ?_
       rintro _ _ ⟨T230, L230, k230, n230⟩ X230 ⟨Lc230, hQ230, l230, y230, z230⟩
       dsimp only [Pt.U, Pt.locs, Pt.cells, Pt.slots] at X230 l230 y230 z230 hQ230 ⊢
       subst l230 y230 z230
       obtain ⟨rfl, N230q, e230⟩ := hQ230
       have N231 := Fr.app N227 N230q
       show Runs _ _ _ _ (T230.setTop (mkF m 117 #[.val (.int p0), .val (.int p1), .val (.int p2), .val .null, .val (.ref r_153), .val (.int (if (p0 &&& (4 : Int32)) = (0 : Int32) then (0 : Int32) else (1 : Int32))), .val (.ref b160), .val (.ref b177), .val (.ref r_153), .unset] [(.ref r_153)]))
       refine w_aload X230 hx (hb hby at_117) rfl rfl (pc' := 119) rfl ?_
       have f232 : Exa Z T226.heap r_153 kc2 := (((((((g153_1.ext E160).keep K172).ext E177).keep K190).keep K202).keep K214).keep K226)
       refine w_static X230 hx (y := yn_6) hown (mvT hZ (wd_38 hw)) (mvT hZ (wd_39 hw)) (mvT hZ (wd_40 hw)) (mvT hZ (wd_41 hw)) (by decide) (backOf (W := 0) (rm_m6_14 l Z aZ hw [] r_153 T226.heap n0 (Nat.le_trans Z0 le229) f232) hZ (wd_41 hw) (wd_40 hw) (by decide) (by decide)) (by rw [hml]; rfl) [(.ref r_153), (.ref r_153)] (lenOf pd_9 rfl) rfl (Nat.le_of_eq rfl) (hb hby at_119) (fun _ _ => ⟨rfl, e230, (by decide : 5 + 0 ≤ _), (by decide : 20 + 0 ≤ _)⟩) (pc' := 122) rfl ?_
       rintro _ _ ⟨T233, L233, k233, n233⟩ X233 ⟨Lc233, hQ233, l233, y233, z233⟩
       dsimp only [Pt.U, Pt.locs, Pt.cells, Pt.slots] at X233 l233 y233 z233 hQ233 ⊢
       subst l233 y233 z233
       obtain ⟨rfl, N233q, e233⟩ := hQ233
       have N234 := Fr.app N231 N233q
       show Runs _ _ _ _ (T233.setTop (mkF m 122 #[.val (.int p0), .val (.int p1), .val (.int p2), .val .null, .val (.ref r_153), .val (.int (if (p0 &&& (4 : Int32)) = (0 : Int32) then (0 : Int32) else (1 : Int32))), .val (.ref b160), .val (.ref b177), .val (.ref r_153), .unset] [(.int (1 : Int32))]))
       refine w_ifN X233 hx (hb hby at_122) (feq (by decide : ¬ ((1 : Int32) = (0 : Int32)))).1 (pc' := 125) rfl ?_
       refine w_aload X233 hx (hb hby at_125) rfl rfl (pc' := 127) rfl ?_
       have f235 : Fld Z T226.heap b177 kc0 "unrated" "Ljava/lang/String;" (.ref r_153) := (g214_1.keep K226 (ninS (Ne.symm ne194) nin0))
       have f237 : Exa Z T226.heap b177 kc0 := (g214_0.keep K226)
       obtain ⟨cq236, kq236, q236a, q236b, q236c⟩ := isOf hZ e233 f237
       refine w_virtual X233 hx (y := yn_5) (z := yn_5) hown (mvT hZ (wd_33 hw)) (mvT hZ (wd_34 hw)) (notFace_of_selects (args := #[]) (mvT hZ (wd_36 hw))) (mvT hZ (wd_36 hw)) (mvT hZ (wd_35 hw)) (by decide) (backOf (W := 0) (rm_m5_13 l Z aZ hw [] b177 r_153 T226.heap n0 (Nat.le_trans Z0 le229) f235) hZ (wd_37 hw) (wd_2 hw) (by decide) (by decide)) q236a q236c (by rw [hml]; rfl) [] (lenOf pd_8 rfl) rfl (Nat.le_of_eq rfl) (hb hby at_127) (fun _ _ => ⟨rfl, e233, (by decide : 5 + 0 ≤ _), (by decide : 20 + 0 ≤ _)⟩) (pc' := 130) rfl ?_
       rintro _ _ ⟨T236, L236, k236, n236⟩ X236 ⟨Lc236, hQ236, l236, y236, z236⟩
       dsimp only [Pt.U, Pt.locs, Pt.cells, Pt.slots] at X236 l236 y236 z236 hQ236 ⊢
       subst l236 y236 z236
       obtain ⟨rfl, N236q, e236⟩ := hQ236
       have N238 := Fr.app N234 N236q
       show Runs _ _ _ _ (T236.setTop (mkF m 130 #[.val (.int p0), .val (.int p1), .val (.int p2), .val .null, .val (.ref r_153), .val (.int (if (p0 &&& (4 : Int32)) = (0 : Int32) then (0 : Int32) else (1 : Int32))), .val (.ref b160), .val (.ref b177), .val (.ref r_153), .unset] [(.ref r_153)]))
       refine w_aload X236 hx (hb hby at_130) rfl rfl (pc' := 132) rfl ?_
       refine w_static X236 hx (y := yn_6) hown (mvT hZ (wd_38 hw)) (mvT hZ (wd_39 hw)) (mvT hZ (wd_40 hw)) (mvT hZ (wd_41 hw)) (by decide) (backOf (W := 0) (rm_m6_14 l Z aZ hw [] r_153 T226.heap n0 (Nat.le_trans Z0 le229) f232) hZ (wd_41 hw) (wd_40 hw) (by decide) (by decide)) (by rw [hml]; rfl) [(.ref r_153), (.ref r_153)] (lenOf pd_9 rfl) rfl (Nat.le_of_eq rfl) (hb hby at_132) (fun _ _ => ⟨rfl, e236, (by decide : 5 + 0 ≤ _), (by decide : 20 + 0 ≤ _)⟩) (pc' := 135) rfl ?_
       rintro _ _ ⟨T239, L239, k239, n239⟩ X239 ⟨Lc239, hQ239, l239, y239, z239⟩
       dsimp only [Pt.U, Pt.locs, Pt.cells, Pt.slots] at X239 l239 y239 z239 hQ239 ⊢
       subst l239 y239 z239
       obtain ⟨rfl, N239q, e239⟩ := hQ239
       have N240 := Fr.app N238 N239q
       show Runs _ _ _ _ (T239.setTop (mkF m 135 #[.val (.int p0), .val (.int p1), .val (.int p2), .val .null, .val (.ref r_153), .val (.int (if (p0 &&& (4 : Int32)) = (0 : Int32) then (0 : Int32) else (1 : Int32))), .val (.ref b160), .val (.ref b177), .val (.ref r_153), .unset] [(.int (1 : Int32))]))
       refine w_ifN X239 hx (hb hby at_135) (feq (by decide : ¬ ((1 : Int32) = (0 : Int32)))).1 (pc' := 138) rfl ?_
       refine w_iconst X239 hx (hb hby at_138) (v := (1 : Int32)) rfl (pc' := 139) rfl ?_
       refine w_goto X239 hx (hb hby at_139) (pc' := 143) (by decide) (by decide) ?_
       refine w_istore X239 hx (hb hby at_143) (L' := #[.val (.int p0), .val (.int p1), .val (.int p2), .val .null, .val (.ref r_153), .val (.int (if (p0 &&& (4 : Int32)) = (0 : Int32) then (0 : Int32) else (1 : Int32))), .val (.ref b160), .val (.ref b177), .val (.ref r_153), .val (.int (1 : Int32))]) rfl (pc' := 145) rfl ?_
       refine w_aload X239 hx (hb hby at_145) rfl rfl (pc' := 147) rfl ?_
       refine w_aload X239 hx (hb hby at_147) rfl rfl (pc' := 149) rfl ?_
       have f241 : Fld Z T226.heap b177 kc0 "open" "Ljava/math/BigDecimal;" (.ref G_ZERO) := (g214_2.keep K226 (ninS (Ne.symm ne194) nin0))
       have f242 : Fld Z T226.heap b177 kc0 "downside" "Ljava/math/BigDecimal;" (.ref G_ZERO) := (g214_3.keep K226 (ninS (Ne.symm ne194) nin0))
       have f243 : Fld Z T226.heap b177 kc0 "upside" "Ljava/math/BigDecimal;" (.ref G_ZERO) := (g214_4.keep K226 (ninS (Ne.symm ne194) nin0))
       have f244 : Fld Z T226.heap b177 kc0 "exposure" "Ljava/math/BigDecimal;" (.ref G_ZERO) := (g214_5.keep K226 (ninS (Ne.symm ne194) nin0))
       obtain ⟨cq245, kq245, q245a, q245b, q245c⟩ := isOf hZ e239 g226_0
       refine w_virtual X239 hx (y := yn_4) (z := yn_4) hown (mvT hZ (wd_28 hw)) (mvT hZ (wd_29 hw)) (notFace_of_selects (args := #[]) (mvT hZ (wd_31 hw))) (mvT hZ (wd_31 hw)) (mvT hZ (wd_30 hw)) (by decide) (backOf (W := 0) (rm_m4_16 l Z aZ hw [] b160 b177 r_153 G_ZERO T226.heap n0 (Nat.le_trans Z0 le229) f235 g226_0 g226_1 ge161 f241 (Ne.symm ne194) g226_2 f242 g226_3 f243 g226_4 f244 g226_5 g226_6) hZ (wd_32 hw) (wd_2 hw) (by decide) (by decide)) q245a q245c (by rw [hml]; rfl) [(.ref b177)] (lenOf pd_7 rfl) rfl (Nat.le_of_eq rfl) (hb hby at_149) (fun _ _ => ⟨rfl, e239, (by decide : 5 + 0 ≤ _), (by decide : 20 + 0 ≤ _)⟩) (pc' := 152) rfl ?_
       rintro _ _ ⟨T245, L245, k245, n245⟩ X245 ⟨Lc245, hQ245, l245, y245, z245⟩
       dsimp only [Pt.U, Pt.locs, Pt.cells, Pt.slots] at X245 l245 y245 z245 hQ245 ⊢
       subst l245 y245 z245
       obtain ⟨rfl, N245q, K245, g245_0, g245_1, g245_2, g245_3, g245_4, g245_5, g245_6⟩ := hQ245
       have N246 := Fr.app N240 N245q
       have K247 : Keep h0 T245.heap [] := K228.trans K245 (allS (Or.inr sz162) (all0 (P := fun x => x ∈ [] ∨ h0.size ≤ x)))
       show Runs _ _ _ _ (T245.setTop (mkF m 152 #[.val (.int p0), .val (.int p1), .val (.int p2), .val .null, .val (.ref r_153), .val (.int (if (p0 &&& (4 : Int32)) = (0 : Int32) then (0 : Int32) else (1 : Int32))), .val (.ref b160), .val (.ref b177), .val (.ref r_153), .val (.int (1 : Int32))] []))
       refine w_iload X245 hx (hb hby at_152) rfl (pc' := 154) rfl ?_
       refine w_ifN X245 hx (hb hby at_154) (feq (by decide : ¬ ((1 : Int32) = (0 : Int32)))).1 (pc' := 157) rfl ?_
       refine w_aload X245 hx (hb hby at_157) rfl rfl (pc' := 159) rfl ?_
       have le248 : h0.size ≤ T245.heap.size := (Nat.le_trans le229 K245.1)
       obtain ⟨cq249, kq249, q249a, q249b, q249c⟩ := isOf hZ rfl g245_0
       refine w_virtual X245 hx (y := yn_5) (z := yn_5) hown (mvT hZ (wd_33 hw)) (mvT hZ (wd_34 hw)) (notFace_of_selects (args := #[]) (mvT hZ (wd_36 hw))) (mvT hZ (wd_36 hw)) (mvT hZ (wd_35 hw)) (by decide) (backOf (W := 0) (rm_m5_13 l Z aZ hw [] b160 r_153 T245.heap n0 (Nat.le_trans Z0 le248) g245_1) hZ (wd_37 hw) (wd_2 hw) (by decide) (by decide)) q249a q249c (by rw [hml]; rfl) [] (lenOf pd_8 rfl) rfl (Nat.le_of_eq rfl) (hb hby at_159) (fun _ _ => ⟨rfl, rfl, (by decide : 5 + 0 ≤ _), (by decide : 20 + 0 ≤ _)⟩) (pc' := 162) rfl ?_
       rintro _ _ ⟨T249, L249, k249, n249⟩ X249 ⟨Lc249, hQ249, l249, y249, z249⟩
       dsimp only [Pt.U, Pt.locs, Pt.cells, Pt.slots] at X249 l249 y249 z249 hQ249 ⊢
       subst l249 y249 z249
       obtain ⟨rfl, N249q, e249⟩ := hQ249
       have N250 := Fr.app N246 N249q
       show Runs _ _ _ _ (T249.setTop (mkF m 162 #[.val (.int p0), .val (.int p1), .val (.int p2), .val .null, .val (.ref r_153), .val (.int (if (p0 &&& (4 : Int32)) = (0 : Int32) then (0 : Int32) else (1 : Int32))), .val (.ref b160), .val (.ref b177), .val (.ref r_153), .val (.int (1 : Int32))] [(.ref r_153)]))
       refine w_aload X249 hx (hb hby at_162) rfl rfl (pc' := 164) rfl ?_
       have f251 : Exa Z T245.heap r_153 kc2 := (f232.keep K245)
       refine w_static X249 hx (y := yn_6) hown (mvT hZ (wd_38 hw)) (mvT hZ (wd_39 hw)) (mvT hZ (wd_40 hw)) (mvT hZ (wd_41 hw)) (by decide) (backOf (W := 0) (rm_m6_14 l Z aZ hw [] r_153 T245.heap n0 (Nat.le_trans Z0 le248) f251) hZ (wd_41 hw) (wd_40 hw) (by decide) (by decide)) (by rw [hml]; rfl) [(.ref r_153), (.ref r_153)] (lenOf pd_9 rfl) rfl (Nat.le_of_eq rfl) (hb hby at_164) (fun _ _ => ⟨rfl, e249, (by decide : 5 + 0 ≤ _), (by decide : 20 + 0 ≤ _)⟩) (pc' := 167) rfl ?_
       rintro _ _ ⟨T252, L252, k252, n252⟩ X252 ⟨Lc252, hQ252, l252, y252, z252⟩
       dsimp only [Pt.U, Pt.locs, Pt.cells, Pt.slots] at X252 l252 y252 z252 hQ252 ⊢
       subst l252 y252 z252
       obtain ⟨rfl, N252q, e252⟩ := hQ252
       have N253 := Fr.app N250 N252q
       show Runs _ _ _ _ (T252.setTop (mkF m 167 #[.val (.int p0), .val (.int p1), .val (.int p2), .val .null, .val (.ref r_153), .val (.int (if (p0 &&& (4 : Int32)) = (0 : Int32) then (0 : Int32) else (1 : Int32))), .val (.ref b160), .val (.ref b177), .val (.ref r_153), .val (.int (1 : Int32))] [(.int (1 : Int32))]))
       refine w_ifN X252 hx (hb hby at_167) (feq (by decide : ¬ ((1 : Int32) = (0 : Int32)))).1 (pc' := 170) rfl ?_
       refine w_aload X252 hx (hb hby at_170) rfl rfl (pc' := 172) rfl ?_
       have f254 : Fld Z T245.heap b177 kc0 "unrated" "Ljava/lang/String;" (.ref r_153) := (f235.keep K245 (ninS (Ne.symm ne194) nin0))
       have f256 : Exa Z T245.heap b177 kc0 := (f237.keep K245)
       obtain ⟨cq255, kq255, q255a, q255b, q255c⟩ := isOf hZ e252 f256
       refine w_virtual X252 hx (y := yn_5) (z := yn_5) hown (mvT hZ (wd_33 hw)) (mvT hZ (wd_34 hw)) (notFace_of_selects (args := #[]) (mvT hZ (wd_36 hw))) (mvT hZ (wd_36 hw)) (mvT hZ (wd_35 hw)) (by decide) (backOf (W := 0) (rm_m5_13 l Z aZ hw [] b177 r_153 T245.heap n0 (Nat.le_trans Z0 le248) f254) hZ (wd_37 hw) (wd_2 hw) (by decide) (by decide)) q255a q255c (by rw [hml]; rfl) [] (lenOf pd_8 rfl) rfl (Nat.le_of_eq rfl) (hb hby at_172) (fun _ _ => ⟨rfl, e252, (by decide : 5 + 0 ≤ _), (by decide : 20 + 0 ≤ _)⟩) (pc' := 175) rfl ?_
       rintro _ _ ⟨T255, L255, k255, n255⟩ X255 ⟨Lc255, hQ255, l255, y255, z255⟩
       dsimp only [Pt.U, Pt.locs, Pt.cells, Pt.slots] at X255 l255 y255 z255 hQ255 ⊢
       subst l255 y255 z255
       obtain ⟨rfl, N255q, e255⟩ := hQ255
       have N257 := Fr.app N253 N255q
       show Runs _ _ _ _ (T255.setTop (mkF m 175 #[.val (.int p0), .val (.int p1), .val (.int p2), .val .null, .val (.ref r_153), .val (.int (if (p0 &&& (4 : Int32)) = (0 : Int32) then (0 : Int32) else (1 : Int32))), .val (.ref b160), .val (.ref b177), .val (.ref r_153), .val (.int (1 : Int32))] [(.ref r_153)]))
       refine w_aload X255 hx (hb hby at_175) rfl rfl (pc' := 177) rfl ?_
       refine w_static X255 hx (y := yn_6) hown (mvT hZ (wd_38 hw)) (mvT hZ (wd_39 hw)) (mvT hZ (wd_40 hw)) (mvT hZ (wd_41 hw)) (by decide) (backOf (W := 0) (rm_m6_14 l Z aZ hw [] r_153 T245.heap n0 (Nat.le_trans Z0 le248) f251) hZ (wd_41 hw) (wd_40 hw) (by decide) (by decide)) (by rw [hml]; rfl) [(.ref r_153), (.ref r_153)] (lenOf pd_9 rfl) rfl (Nat.le_of_eq rfl) (hb hby at_177) (fun _ _ => ⟨rfl, e255, (by decide : 5 + 0 ≤ _), (by decide : 20 + 0 ≤ _)⟩) (pc' := 180) rfl ?_
       rintro _ _ ⟨T258, L258, k258, n258⟩ X258 ⟨Lc258, hQ258, l258, y258, z258⟩
       dsimp only [Pt.U, Pt.locs, Pt.cells, Pt.slots] at X258 l258 y258 z258 hQ258 ⊢
       subst l258 y258 z258
       obtain ⟨rfl, N258q, e258⟩ := hQ258
       have N259 := Fr.app N257 N258q
       show Runs _ _ _ _ (T258.setTop (mkF m 180 #[.val (.int p0), .val (.int p1), .val (.int p2), .val .null, .val (.ref r_153), .val (.int (if (p0 &&& (4 : Int32)) = (0 : Int32) then (0 : Int32) else (1 : Int32))), .val (.ref b160), .val (.ref b177), .val (.ref r_153), .val (.int (1 : Int32))] [(.int (1 : Int32))]))
       refine w_ifN X258 hx (hb hby at_180) (feq (by decide : ¬ ((1 : Int32) = (0 : Int32)))).1 (pc' := 183) rfl ?_
       refine w_iconst X258 hx (hb hby at_183) (v := (1 : Int32)) rfl (pc' := 184) rfl ?_
       refine w_goto X258 hx (hb hby at_184) (pc' := 188) (by decide) (by decide) ?_
       exact w_done X258 hlk (v := some (.int (1 : Int32))) e258 (fun h => by rw [hret] at h; cases h) (fun fs hr => retN X258 hx (t := .boolean) hret (by simp) (hb hby at_188) hr) (by decide) (by decide) (⟨rfl, N259⟩)
     · have v260 : (if (p0 &&& (4 : Int32)) = (0 : Int32) then (0 : Int32) else (1 : Int32)) = (1 : Int32) := if_neg hc175
       refine w_ifN X172 hx (hb hby at_56) (feq (fun q => absurd (v260.symm.trans q) (by decide))).1 (pc' := 59) rfl ?_
       refine w_aload X172 hx (hb hby at_59) rfl rfl (pc' := 61) rfl ?_
       refine w_goto X172 hx (hb hby at_61) (pc' := 72) (by decide) (by decide) ?_
       refine w_astore X172 hx (hb hby at_72) rfl (L' := #[.val (.int p0), .val (.int p1), .val (.int p2), .val .null, .val (.ref r_153), .val (.int (if (p0 &&& (4 : Int32)) = (0 : Int32) then (0 : Int32) else (1 : Int32))), .val (.ref b160), .val (.ref b160), .unset, .unset]) rfl (pc' := 74) rfl ?_
       refine w_aload X172 hx (hb hby at_74) rfl rfl (pc' := 76) rfl ?_
       refine w_aloadN X172 hx (hb hby at_76) rfl rfl (pc' := 77) rfl ?_
       have le261 : h0.size ≤ T172.heap.size := (Nat.le_trans le171 K172.1)
       obtain ⟨cq262, kq262, q262a, q262b, q262c⟩ := isOf hZ rfl g172_0
       refine w_virtual X172 hx (y := yn_3) (z := yn_3) hown (mvT hZ (wd_21 hw)) (mvT hZ (wd_22 hw)) (notFace_of_selects (args := #[]) (mvT hZ (wd_24 hw))) (mvT hZ (wd_24 hw)) (mvT hZ (wd_23 hw)) (by decide) (backOf (W := 0) (rm_m3_6 l Z aZ hw [] b160 G_ZERO T172.heap n0 (Nat.le_trans Z0 le261) g172_0 g172_6 ge161 g172_1 g172_2 g172_3 g172_4 g172_5) hZ (wd_25 hw) (wd_2 hw) (by decide) (by decide)) q262a q262c (by rw [hml]; rfl) [.null] (lenOf pd_6 rfl) rfl (Nat.le_of_eq rfl) (hb hby at_77) (fun _ _ => ⟨rfl, rfl, (by decide : 4 + 0 ≤ _), (by decide : 14 + 0 ≤ _)⟩) (pc' := 80) rfl ?_
       rintro _ _ ⟨T262, L262, k262, n262⟩ X262 ⟨Lc262, hQ262, l262, y262, z262⟩
       dsimp only [Pt.U, Pt.locs, Pt.cells, Pt.slots] at X262 l262 y262 z262 hQ262 ⊢
       subst l262 y262 z262
       obtain ⟨rfl, N262q, K262, g262_0, g262_1, g262_2, g262_3, g262_4, g262_5, g262_6⟩ := hQ262
       have N263 := Fr.app N173 N262q
       have K264 : Keep h0 T262.heap [] := K174.trans K262 (allS (Or.inr sz162) (all0 (P := fun x => x ∈ [] ∨ h0.size ≤ x)))
       show Runs _ _ _ _ (T262.setTop (mkF m 80 #[.val (.int p0), .val (.int p1), .val (.int p2), .val .null, .val (.ref r_153), .val (.int (if (p0 &&& (4 : Int32)) = (0 : Int32) then (0 : Int32) else (1 : Int32))), .val (.ref b160), .val (.ref b160), .unset, .unset] []))
       refine w_iload X262 hx (hb hby at_80) rfl (pc' := 82) rfl ?_
       have v265 : (if (p0 &&& (4 : Int32)) = (0 : Int32) then (0 : Int32) else (1 : Int32)) = (1 : Int32) := if_neg hc175
       refine w_ifY X262 hx (hb hby at_82) (feq (fun q => absurd (v265.symm.trans q) (by decide))).2 (pc' := 92) (by decide) (by decide) ?_
       refine w_iload X262 hx (hb hby at_92) rfl (pc' := 94) rfl ?_
       have v266 : (if (p0 &&& (4 : Int32)) = (0 : Int32) then (0 : Int32) else (1 : Int32)) = (1 : Int32) := if_neg hc175
       refine w_ifN X262 hx (hb hby at_94) (feq (fun q => absurd (v266.symm.trans q) (by decide))).1 (pc' := 97) rfl ?_
       refine w_aloadN X262 hx (hb hby at_97) rfl rfl (pc' := 98) rfl ?_
       refine w_goto X262 hx (hb hby at_98) (pc' := 103) (by decide) (by decide) ?_
       refine w_astore X262 hx (hb hby at_103) rfl (L' := #[.val (.int p0), .val (.int p1), .val (.int p2), .val .null, .val (.ref r_153), .val (.int (if (p0 &&& (4 : Int32)) = (0 : Int32) then (0 : Int32) else (1 : Int32))), .val (.ref b160), .val (.ref b160), .val .null, .unset]) rfl (pc' := 105) rfl ?_
       refine w_aload X262 hx (hb hby at_105) rfl rfl (pc' := 107) rfl ?_
       refine w_aload X262 hx (hb hby at_107) rfl rfl (pc' := 109) rfl ?_
       have le267 : h0.size ≤ T262.heap.size := (Nat.le_trans le261 K262.1)
       obtain ⟨cq268, kq268, q268a, q268b, q268c⟩ := isOf hZ rfl g262_0
       refine w_virtual X262 hx (y := yn_4) (z := yn_4) hown (mvT hZ (wd_28 hw)) (mvT hZ (wd_29 hw)) (notFace_of_selects (args := #[]) (mvT hZ (wd_31 hw))) (mvT hZ (wd_31 hw)) (mvT hZ (wd_30 hw)) (by decide) (backOf (W := 0) (rm_m4_10 l Z aZ hw [] b160 G_ZERO T262.heap n0 (Nat.le_trans Z0 le267) g262_1 g262_0 ge161 g262_2 g262_3 g262_4 g262_5 g262_6) hZ (wd_32 hw) (wd_2 hw) (by decide) (by decide)) q268a q268c (by rw [hml]; rfl) [(.ref b160)] (lenOf pd_7 rfl) rfl (Nat.le_of_eq rfl) (hb hby at_109) (fun _ _ => ⟨rfl, rfl, (by decide : 4 + 0 ≤ _), (by decide : 14 + 0 ≤ _)⟩) (pc' := 112) rfl ?_
       rintro _ _ ⟨T268, L268, k268, n268⟩ X268 ⟨Lc268, hQ268, l268, y268, z268⟩
       dsimp only [Pt.U, Pt.locs, Pt.cells, Pt.slots] at X268 l268 y268 z268 hQ268 ⊢
       subst l268 y268 z268
       obtain ⟨rfl, N268q, K268, g268_0, g268_1, g268_2, g268_3, g268_4, g268_5, g268_6⟩ := hQ268
       have N269 := Fr.app N263 N268q
       have K270 : Keep h0 T268.heap [] := K264.trans K268 (allS (Or.inr sz162) (all0 (P := fun x => x ∈ [] ∨ h0.size ≤ x)))
       show Runs _ _ _ _ (T268.setTop (mkF m 112 #[.val (.int p0), .val (.int p1), .val (.int p2), .val .null, .val (.ref r_153), .val (.int (if (p0 &&& (4 : Int32)) = (0 : Int32) then (0 : Int32) else (1 : Int32))), .val (.ref b160), .val (.ref b160), .val .null, .unset] []))
       refine w_aload X268 hx (hb hby at_112) rfl rfl (pc' := 114) rfl ?_
       have le271 : h0.size ≤ T268.heap.size := (Nat.le_trans le267 K268.1)
       obtain ⟨cq272, kq272, q272a, q272b, q272c⟩ := isOf hZ rfl g268_1
       refine w_virtual X268 hx (y := yn_5) (z := yn_5) hown (mvT hZ (wd_33 hw)) (mvT hZ (wd_34 hw)) (notFace_of_selects (args := #[]) (mvT hZ (wd_36 hw))) (mvT hZ (wd_36 hw)) (mvT hZ (wd_35 hw)) (by decide) (backOf (W := 0) (rm_m5_8 l Z aZ hw [] b160 T268.heap n0 (Nat.le_trans Z0 le271) g268_0) hZ (wd_37 hw) (wd_2 hw) (by decide) (by decide)) q272a q272c (by rw [hml]; rfl) [] (lenOf pd_8 rfl) rfl (Nat.le_of_eq rfl) (hb hby at_114) (fun _ _ => ⟨rfl, rfl, (by decide : 4 + 0 ≤ _), (by decide : 14 + 0 ≤ _)⟩) (pc' := 117) rfl ?_
       rintro _ _ ⟨T272, L272, k272, n272⟩ X272 ⟨Lc272, hQ272, l272, y272, z272⟩
       dsimp only [Pt.U, Pt.locs, Pt.cells, Pt.slots] at X272 l272 y272 z272 hQ272 ⊢
       subst l272 y272 z272
       obtain ⟨rfl, N272q, e272⟩ := hQ272
       have N273 := Fr.app N269 N272q
       show Runs _ _ _ _ (T272.setTop (mkF m 117 #[.val (.int p0), .val (.int p1), .val (.int p2), .val .null, .val (.ref r_153), .val (.int (if (p0 &&& (4 : Int32)) = (0 : Int32) then (0 : Int32) else (1 : Int32))), .val (.ref b160), .val (.ref b160), .val .null, .unset] [.null]))
       refine w_aload X272 hx (hb hby at_117) rfl rfl (pc' := 119) rfl ?_
       refine w_static X272 hx (y := yn_6) hown (mvT hZ (wd_38 hw)) (mvT hZ (wd_39 hw)) (mvT hZ (wd_40 hw)) (mvT hZ (wd_41 hw)) (by decide) (backOf (W := 0) (rm_m6_9 l Z aZ hw []  T268.heap n0 (Nat.le_trans Z0 le271) ) hZ (wd_41 hw) (wd_40 hw) (by decide) (by decide)) (by rw [hml]; rfl) [.null, .null] (lenOf pd_9 rfl) rfl (Nat.le_of_eq rfl) (hb hby at_119) (fun _ _ => ⟨rfl, e272, (by decide : 4 + 0 ≤ _), (by decide : 14 + 0 ≤ _)⟩) (pc' := 122) rfl ?_
       rintro _ _ ⟨T274, L274, k274, n274⟩ X274 ⟨Lc274, hQ274, l274, y274, z274⟩
       dsimp only [Pt.U, Pt.locs, Pt.cells, Pt.slots] at X274 l274 y274 z274 hQ274 ⊢
       subst l274 y274 z274
       obtain ⟨rfl, N274q, e274⟩ := hQ274
       have N275 := Fr.app N273 N274q
       show Runs _ _ _ _ (T274.setTop (mkF m 122 #[.val (.int p0), .val (.int p1), .val (.int p2), .val .null, .val (.ref r_153), .val (.int (if (p0 &&& (4 : Int32)) = (0 : Int32) then (0 : Int32) else (1 : Int32))), .val (.ref b160), .val (.ref b160), .val .null, .unset] [(.int (1 : Int32))]))
       refine w_ifN X274 hx (hb hby at_122) (feq (by decide : ¬ ((1 : Int32) = (0 : Int32)))).1 (pc' := 125) rfl ?_
       refine w_aload X274 hx (hb hby at_125) rfl rfl (pc' := 127) rfl ?_
       obtain ⟨cq276, kq276, q276a, q276b, q276c⟩ := isOf hZ e274 g268_1
       refine w_virtual X274 hx (y := yn_5) (z := yn_5) hown (mvT hZ (wd_33 hw)) (mvT hZ (wd_34 hw)) (notFace_of_selects (args := #[]) (mvT hZ (wd_36 hw))) (mvT hZ (wd_36 hw)) (mvT hZ (wd_35 hw)) (by decide) (backOf (W := 0) (rm_m5_8 l Z aZ hw [] b160 T268.heap n0 (Nat.le_trans Z0 le271) g268_0) hZ (wd_37 hw) (wd_2 hw) (by decide) (by decide)) q276a q276c (by rw [hml]; rfl) [] (lenOf pd_8 rfl) rfl (Nat.le_of_eq rfl) (hb hby at_127) (fun _ _ => ⟨rfl, e274, (by decide : 4 + 0 ≤ _), (by decide : 14 + 0 ≤ _)⟩) (pc' := 130) rfl ?_
       rintro _ _ ⟨T276, L276, k276, n276⟩ X276 ⟨Lc276, hQ276, l276, y276, z276⟩
       dsimp only [Pt.U, Pt.locs, Pt.cells, Pt.slots] at X276 l276 y276 z276 hQ276 ⊢
       subst l276 y276 z276
       obtain ⟨rfl, N276q, e276⟩ := hQ276
       have N277 := Fr.app N275 N276q
       show Runs _ _ _ _ (T276.setTop (mkF m 130 #[.val (.int p0), .val (.int p1), .val (.int p2), .val .null, .val (.ref r_153), .val (.int (if (p0 &&& (4 : Int32)) = (0 : Int32) then (0 : Int32) else (1 : Int32))), .val (.ref b160), .val (.ref b160), .val .null, .unset] [.null]))
       refine w_aload X276 hx (hb hby at_130) rfl rfl (pc' := 132) rfl ?_
       refine w_static X276 hx (y := yn_6) hown (mvT hZ (wd_38 hw)) (mvT hZ (wd_39 hw)) (mvT hZ (wd_40 hw)) (mvT hZ (wd_41 hw)) (by decide) (backOf (W := 0) (rm_m6_9 l Z aZ hw []  T268.heap n0 (Nat.le_trans Z0 le271) ) hZ (wd_41 hw) (wd_40 hw) (by decide) (by decide)) (by rw [hml]; rfl) [.null, .null] (lenOf pd_9 rfl) rfl (Nat.le_of_eq rfl) (hb hby at_132) (fun _ _ => ⟨rfl, e276, (by decide : 4 + 0 ≤ _), (by decide : 14 + 0 ≤ _)⟩) (pc' := 135) rfl ?_
       rintro _ _ ⟨T278, L278, k278, n278⟩ X278 ⟨Lc278, hQ278, l278, y278, z278⟩
       dsimp only [Pt.U, Pt.locs, Pt.cells, Pt.slots] at X278 l278 y278 z278 hQ278 ⊢
       subst l278 y278 z278
       obtain ⟨rfl, N278q, e278⟩ := hQ278
       have N279 := Fr.app N277 N278q
       show Runs _ _ _ _ (T278.setTop (mkF m 135 #[.val (.int p0), .val (.int p1), .val (.int p2), .val .null, .val (.ref r_153), .val (.int (if (p0 &&& (4 : Int32)) = (0 : Int32) then (0 : Int32) else (1 : Int32))), .val (.ref b160), .val (.ref b160), .val .null, .unset] [(.int (1 : Int32))]))
       refine w_ifN X278 hx (hb hby at_135) (feq (by decide : ¬ ((1 : Int32) = (0 : Int32)))).1 (pc' := 138) rfl ?_
       refine w_iconst X278 hx (hb hby at_138) (v := (1 : Int32)) rfl (pc' := 139) rfl ?_
       refine w_goto X278 hx (hb hby at_139) (pc' := 143) (by decide) (by decide) ?_
       refine w_istore X278 hx (hb hby at_143) (L' := #[.val (.int p0), .val (.int p1), .val (.int p2), .val .null, .val (.ref r_153), .val (.int (if (p0 &&& (4 : Int32)) = (0 : Int32) then (0 : Int32) else (1 : Int32))), .val (.ref b160), .val (.ref b160), .val .null, .val (.int (1 : Int32))]) rfl (pc' := 145) rfl ?_
       refine w_aload X278 hx (hb hby at_145) rfl rfl (pc' := 147) rfl ?_
       refine w_aload X278 hx (hb hby at_147) rfl rfl (pc' := 149) rfl ?_
       obtain ⟨cq280, kq280, q280a, q280b, q280c⟩ := isOf hZ e278 g268_1
       refine w_virtual X278 hx (y := yn_4) (z := yn_4) hown (mvT hZ (wd_28 hw)) (mvT hZ (wd_29 hw)) (notFace_of_selects (args := #[]) (mvT hZ (wd_31 hw))) (mvT hZ (wd_31 hw)) (mvT hZ (wd_30 hw)) (by decide) (backOf (W := 0) (rm_m4_10 l Z aZ hw [] b160 G_ZERO T268.heap n0 (Nat.le_trans Z0 le271) g268_0 g268_1 ge161 g268_2 g268_3 g268_4 g268_5 g268_6) hZ (wd_32 hw) (wd_2 hw) (by decide) (by decide)) q280a q280c (by rw [hml]; rfl) [(.ref b160)] (lenOf pd_7 rfl) rfl (Nat.le_of_eq rfl) (hb hby at_149) (fun _ _ => ⟨rfl, e278, (by decide : 4 + 0 ≤ _), (by decide : 14 + 0 ≤ _)⟩) (pc' := 152) rfl ?_
       rintro _ _ ⟨T280, L280, k280, n280⟩ X280 ⟨Lc280, hQ280, l280, y280, z280⟩
       dsimp only [Pt.U, Pt.locs, Pt.cells, Pt.slots] at X280 l280 y280 z280 hQ280 ⊢
       subst l280 y280 z280
       obtain ⟨rfl, N280q, K280, g280_0, g280_1, g280_2, g280_3, g280_4, g280_5, g280_6⟩ := hQ280
       have N281 := Fr.app N279 N280q
       have K282 : Keep h0 T280.heap [] := K270.trans K280 (allS (Or.inr sz162) (all0 (P := fun x => x ∈ [] ∨ h0.size ≤ x)))
       show Runs _ _ _ _ (T280.setTop (mkF m 152 #[.val (.int p0), .val (.int p1), .val (.int p2), .val .null, .val (.ref r_153), .val (.int (if (p0 &&& (4 : Int32)) = (0 : Int32) then (0 : Int32) else (1 : Int32))), .val (.ref b160), .val (.ref b160), .val .null, .val (.int (1 : Int32))] []))
       refine w_iload X280 hx (hb hby at_152) rfl (pc' := 154) rfl ?_
       refine w_ifN X280 hx (hb hby at_154) (feq (by decide : ¬ ((1 : Int32) = (0 : Int32)))).1 (pc' := 157) rfl ?_
       refine w_aload X280 hx (hb hby at_157) rfl rfl (pc' := 159) rfl ?_
       have le283 : h0.size ≤ T280.heap.size := (Nat.le_trans le271 K280.1)
       obtain ⟨cq284, kq284, q284a, q284b, q284c⟩ := isOf hZ rfl g280_1
       refine w_virtual X280 hx (y := yn_5) (z := yn_5) hown (mvT hZ (wd_33 hw)) (mvT hZ (wd_34 hw)) (notFace_of_selects (args := #[]) (mvT hZ (wd_36 hw))) (mvT hZ (wd_36 hw)) (mvT hZ (wd_35 hw)) (by decide) (backOf (W := 0) (rm_m5_8 l Z aZ hw [] b160 T280.heap n0 (Nat.le_trans Z0 le283) g280_0) hZ (wd_37 hw) (wd_2 hw) (by decide) (by decide)) q284a q284c (by rw [hml]; rfl) [] (lenOf pd_8 rfl) rfl (Nat.le_of_eq rfl) (hb hby at_159) (fun _ _ => ⟨rfl, rfl, (by decide : 4 + 0 ≤ _), (by decide : 14 + 0 ≤ _)⟩) (pc' := 162) rfl ?_
       rintro _ _ ⟨T284, L284, k284, n284⟩ X284 ⟨Lc284, hQ284, l284, y284, z284⟩
       dsimp only [Pt.U, Pt.locs, Pt.cells, Pt.slots] at X284 l284 y284 z284 hQ284 ⊢
       subst l284 y284 z284
       obtain ⟨rfl, N284q, e284⟩ := hQ284
       have N285 := Fr.app N281 N284q
       show Runs _ _ _ _ (T284.setTop (mkF m 162 #[.val (.int p0), .val (.int p1), .val (.int p2), .val .null, .val (.ref r_153), .val (.int (if (p0 &&& (4 : Int32)) = (0 : Int32) then (0 : Int32) else (1 : Int32))), .val (.ref b160), .val (.ref b160), .val .null, .val (.int (1 : Int32))] [.null]))
       refine w_aload X284 hx (hb hby at_162) rfl rfl (pc' := 164) rfl ?_
       refine w_static X284 hx (y := yn_6) hown (mvT hZ (wd_38 hw)) (mvT hZ (wd_39 hw)) (mvT hZ (wd_40 hw)) (mvT hZ (wd_41 hw)) (by decide) (backOf (W := 0) (rm_m6_9 l Z aZ hw []  T280.heap n0 (Nat.le_trans Z0 le283) ) hZ (wd_41 hw) (wd_40 hw) (by decide) (by decide)) (by rw [hml]; rfl) [.null, .null] (lenOf pd_9 rfl) rfl (Nat.le_of_eq rfl) (hb hby at_164) (fun _ _ => ⟨rfl, e284, (by decide : 4 + 0 ≤ _), (by decide : 14 + 0 ≤ _)⟩) (pc' := 167) rfl ?_
       rintro _ _ ⟨T286, L286, k286, n286⟩ X286 ⟨Lc286, hQ286, l286, y286, z286⟩
       dsimp only [Pt.U, Pt.locs, Pt.cells, Pt.slots] at X286 l286 y286 z286 hQ286 ⊢
       subst l286 y286 z286
       obtain ⟨rfl, N286q, e286⟩ := hQ286
       have N287 := Fr.app N285 N286q
       show Runs _ _ _ _ (T286.setTop (mkF m 167 #[.val (.int p0), .val (.int p1), .val (.int p2), .val .null, .val (.ref r_153), .val (.int (if (p0 &&& (4 : Int32)) = (0 : Int32) then (0 : Int32) else (1 : Int32))), .val (.ref b160), .val (.ref b160), .val .null, .val (.int (1 : Int32))] [(.int (1 : Int32))]))
       refine w_ifN X286 hx (hb hby at_167) (feq (by decide : ¬ ((1 : Int32) = (0 : Int32)))).1 (pc' := 170) rfl ?_
       refine w_aload X286 hx (hb hby at_170) rfl rfl (pc' := 172) rfl ?_
       obtain ⟨cq288, kq288, q288a, q288b, q288c⟩ := isOf hZ e286 g280_1
       refine w_virtual X286 hx (y := yn_5) (z := yn_5) hown (mvT hZ (wd_33 hw)) (mvT hZ (wd_34 hw)) (notFace_of_selects (args := #[]) (mvT hZ (wd_36 hw))) (mvT hZ (wd_36 hw)) (mvT hZ (wd_35 hw)) (by decide) (backOf (W := 0) (rm_m5_8 l Z aZ hw [] b160 T280.heap n0 (Nat.le_trans Z0 le283) g280_0) hZ (wd_37 hw) (wd_2 hw) (by decide) (by decide)) q288a q288c (by rw [hml]; rfl) [] (lenOf pd_8 rfl) rfl (Nat.le_of_eq rfl) (hb hby at_172) (fun _ _ => ⟨rfl, e286, (by decide : 4 + 0 ≤ _), (by decide : 14 + 0 ≤ _)⟩) (pc' := 175) rfl ?_
       rintro _ _ ⟨T288, L288, k288, n288⟩ X288 ⟨Lc288, hQ288, l288, y288, z288⟩
       dsimp only [Pt.U, Pt.locs, Pt.cells, Pt.slots] at X288 l288 y288 z288 hQ288 ⊢
       subst l288 y288 z288
       obtain ⟨rfl, N288q, e288⟩ := hQ288
       have N289 := Fr.app N287 N288q
       show Runs _ _ _ _ (T288.setTop (mkF m 175 #[.val (.int p0), .val (.int p1), .val (.int p2), .val .null, .val (.ref r_153), .val (.int (if (p0 &&& (4 : Int32)) = (0 : Int32) then (0 : Int32) else (1 : Int32))), .val (.ref b160), .val (.ref b160), .val .null, .val (.int (1 : Int32))] [.null]))
       refine w_aload X288 hx (hb hby at_175) rfl rfl (pc' := 177) rfl ?_
       refine w_static X288 hx (y := yn_6) hown (mvT hZ (wd_38 hw)) (mvT hZ (wd_39 hw)) (mvT hZ (wd_40 hw)) (mvT hZ (wd_41 hw)) (by decide) (backOf (W := 0) (rm_m6_9 l Z aZ hw []  T280.heap n0 (Nat.le_trans Z0 le283) ) hZ (wd_41 hw) (wd_40 hw) (by decide) (by decide)) (by rw [hml]; rfl) [.null, .null] (lenOf pd_9 rfl) rfl (Nat.le_of_eq rfl) (hb hby at_177) (fun _ _ => ⟨rfl, e288, (by decide : 4 + 0 ≤ _), (by decide : 14 + 0 ≤ _)⟩) (pc' := 180) rfl ?_
       rintro _ _ ⟨T290, L290, k290, n290⟩ X290 ⟨Lc290, hQ290, l290, y290, z290⟩
       dsimp only [Pt.U, Pt.locs, Pt.cells, Pt.slots] at X290 l290 y290 z290 hQ290 ⊢
       subst l290 y290 z290
       obtain ⟨rfl, N290q, e290⟩ := hQ290
       have N291 := Fr.app N289 N290q
       show Runs _ _ _ _ (T290.setTop (mkF m 180 #[.val (.int p0), .val (.int p1), .val (.int p2), .val .null, .val (.ref r_153), .val (.int (if (p0 &&& (4 : Int32)) = (0 : Int32) then (0 : Int32) else (1 : Int32))), .val (.ref b160), .val (.ref b160), .val .null, .val (.int (1 : Int32))] [(.int (1 : Int32))]))
       refine w_ifN X290 hx (hb hby at_180) (feq (by decide : ¬ ((1 : Int32) = (0 : Int32)))).1 (pc' := 183) rfl ?_
       refine w_iconst X290 hx (hb hby at_183) (v := (1 : Int32)) rfl (pc' := 184) rfl ?_
       refine w_goto X290 hx (hb hby at_184) (pc' := 188) (by decide) (by decide) ?_
       exact w_done X290 hlk (v := some (.int (1 : Int32))) e290 (fun h => by rw [hret] at h; cases h) (fun fs hr => retN X290 hx (t := .boolean) hret (by simp) (hb hby at_188) hr) (by decide) (by decide) (⟨rfl, N291⟩)
 · refine w_ifN X0 hx (hb hby at_3) (feq hc20).1 (pc' := 6) rfl ?_
   refine w_iloadN X0 hx (hb hby at_6) rfl (pc' := 7) rfl ?_
   refine w_static X0 hx (y := yn_7) hown (mvT hZ (wd_42 hw)) (mvT hZ (wd_43 hw)) (mvT hZ (wd_40 hw)) (mvT hZ (wd_44 hw)) (by decide) (backOf (W := 0) (rm_drawn l Z aZ hw [] p1 G_COMPACT_STRINGS h0 n0 Z0 S_COMPACT_STRINGS O0 hP_3) hZ (wd_44 hw) (wd_40 hw) (by decide) (by decide)) (by rw [hml]; rfl) [(.int p1)] (lenOf pd_10 rfl) rfl (Nat.le_of_eq rfl) (hb hby at_7) (fun _ _ => ⟨rfl, e0, (by decide : 0 + 3 ≤ _), (by decide : 0 + 8 ≤ _)⟩) (pc' := 10) rfl ?_
   rintro _ _ ⟨T292, L292, k292, n292⟩ X292 ⟨Lc292, hQ292, l292, y292, z292⟩
   dsimp only [Pt.U, Pt.locs, Pt.cells, Pt.slots] at X292 l292 y292 z292 hQ292 ⊢
   subst l292 y292 z292
   obtain ⟨r_292, rfl, N292q, K292, g292_0, g292_1⟩ := hQ292
   have N293 := Fr.app N0 N292q
   have K294 : Keep h0 T292.heap [] := (Keep.refl h0 []).trans K292 (all0 (P := fun x => x ∈ [] ∨ h0.size ≤ x))
   have ge295 : n0 ≤ r_292 := Nat.le_trans Z0 g292_0
   have sz296 : h0.size ≤ r_292 := Nat.le_trans (Nat.le_refl _) g292_0
   show Runs _ _ _ _ (T292.setTop (mkF m 10 #[.val (.int p0), .val (.int p1), .val (.int p2), .unset, .unset, .unset, .unset, .unset, .unset, .unset] [(.ref r_292)]))
   refine w_goto X292 hx (hb hby at_10) (pc' := 14) (by decide) (by decide) ?_
   refine w_astoreN X292 hx (hb hby at_14) rfl (L' := #[.val (.int p0), .val (.int p1), .val (.int p2), .val (.ref r_292), .unset, .unset, .unset, .unset, .unset, .unset]) rfl (pc' := 15) rfl ?_
   refine w_iloadN X292 hx (hb hby at_15) rfl (pc' := 16) rfl ?_
   refine w_iconst X292 hx (hb hby at_16) (v := (2 : Int32)) rfl (pc' := 17) rfl ?_
   refine w_iand X292 hx (hb hby at_17) (pc' := 18) rfl ?_
   by_cases hc297 : (p0 &&& (2 : Int32)) = (0 : Int32)
   · refine w_ifY X292 hx (hb hby at_18) (teq hc297).1 (pc' := 28) (by decide) (by decide) ?_
     refine w_null X292 hx (hb hby at_28) (pc' := 29) rfl ?_
     refine w_astore X292 hx (hb hby at_29) rfl (L' := #[.val (.int p0), .val (.int p1), .val (.int p2), .val (.ref r_292), .val .null, .unset, .unset, .unset, .unset, .unset]) rfl (pc' := 31) rfl ?_
     refine w_iloadN X292 hx (hb hby at_31) rfl (pc' := 32) rfl ?_
     refine w_iconst X292 hx (hb hby at_32) (v := (4 : Int32)) rfl (pc' := 33) rfl ?_
     refine w_iand X292 hx (hb hby at_33) (pc' := 34) rfl ?_
     suffices key299 : Runs p e below (EndN s (Q_law Z p0 p1 p2 G_ZERO G_COMPACT_STRINGS h0 n0) room_1.cells room_1.slots) (T292.setTop (mkF m 42 #[.val (.int p0), .val (.int p1), .val (.int p2), .val (.ref r_292), .val .null, .unset, .unset, .unset, .unset, .unset] [(.int (if (p0 &&& (4 : Int32)) = (0 : Int32) then (0 : Int32) else (1 : Int32)))])) by
      by_cases hc298 : (p0 &&& (4 : Int32)) = (0 : Int32)
      · rw [if_pos hc298] at key299
        refine w_ifY X292 hx (hb hby at_34) (teq hc298).1 (pc' := 41) (by decide) (by decide) ?_
        refine w_iconst X292 hx (hb hby at_41) (v := (0 : Int32)) rfl (pc' := 42) rfl ?_
        exact key299
      · rw [if_neg hc298] at key299
        refine w_ifN X292 hx (hb hby at_34) (feq hc298).1 (pc' := 37) rfl ?_
        refine w_iconst X292 hx (hb hby at_37) (v := (1 : Int32)) rfl (pc' := 38) rfl ?_
        refine w_goto X292 hx (hb hby at_38) (pc' := 42) (by decide) (by decide) ?_
        exact key299
     refine w_istore X292 hx (hb hby at_42) (L' := #[.val (.int p0), .val (.int p1), .val (.int p2), .val (.ref r_292), .val .null, .val (.int (if (p0 &&& (4 : Int32)) = (0 : Int32) then (0 : Int32) else (1 : Int32))), .unset, .unset, .unset, .unset]) rfl (pc' := 44) rfl ?_
     refine w_new X292 hx hZ hown (wd_0 hw) (wd_1 hw) (wd_2 hw) rfl (hb hby at_44) (by decide) (by decide) (pc' := 47) rfl ?_
     intro T300 h300 b300 X300 e300 E300 g300 A300 D300
     have ge301 : n0 ≤ b300 := Nat.le_trans (Nat.le_trans Z0 K292.1) (Nat.le_of_eq g300.symm)
     have sz302 : h0.size ≤ b300 := Nat.le_trans K292.1 (Nat.le_of_eq g300.symm)
     have K303 : Keep h0 h300 [] := K294.ext E300
     have f304 : Fld Z h300 b300 kc0 "open" "Ljava/math/BigDecimal;" .null := D300 (Or.inl (wd_12 hw)) (ty := (.object kc1)) (by decide)
     have f305 : Fld Z h300 b300 kc0 "downside" "Ljava/math/BigDecimal;" .null := D300 (Or.inl (wd_14 hw)) (ty := (.object kc1)) (by decide)
     have f306 : Fld Z h300 b300 kc0 "upside" "Ljava/math/BigDecimal;" .null := D300 (Or.inl (wd_16 hw)) (ty := (.object kc1)) (by decide)
     have f307 : Fld Z h300 b300 kc0 "exposure" "Ljava/math/BigDecimal;" .null := D300 (Or.inl (wd_18 hw)) (ty := (.object kc1)) (by decide)
     have f308 : Fld Z h300 b300 kc0 "pool" "Lcom/example/ringfence/ringfence/gate/Pool;" .null := D300 (Or.inr (wd_20 hw)) (ty := (.object kc3)) (by decide)
     have f309 : Fld Z h300 b300 kc0 "unrated" "Ljava/lang/String;" .null := D300 (Or.inl (wd_27 hw)) (ty := (.object kc2)) (by decide)
     refine w_dup X300 hx (hb hby at_47) rfl (pc' := 48) rfl ?_
     refine w_null X300 hx (hb hby at_48) (pc' := 49) rfl ?_
     have f310 : Old Z n0 h300 := ((O0.keep K292 all0).ext E300)
     have le311 : h0.size ≤ h300.size := (Nat.le_trans K292.1 E300.1)
     refine w_special X300 hx (y := yn_1) rfl hown (mvT hZ (wd_3 hw)) (mvT hZ (wd_4 hw)) (mvT hZ (wd_5 hw)) (by decide) (backOf (W := 1) (rm_m1_5 l Z aZ hw [] b300 G_ZERO h300 n0 (Nat.le_trans Z0 le311) S_ZERO f310 A300 f304 ge301 f305 f306 f307 f308 f309) hZ (wd_5 hw) (wd_2 hw) (by decide) (by decide)) (by rw [hml]; rfl) [.null] (lenOf pd_5 rfl) rfl (Nat.le_of_eq rfl) (hb hby at_49) (fun _ _ => ⟨rfl, e300, (by decide : 4 + 0 ≤ _), (by decide : 14 + 0 ≤ _)⟩) (pc' := 52) rfl ?_
     rintro _ _ ⟨T312, L312, k312, n312⟩ X312 ⟨Lc312, hQ312, l312, y312, z312⟩
     dsimp only [Pt.U, Pt.locs, Pt.cells, Pt.slots] at X312 l312 y312 z312 hQ312 ⊢
     subst l312 y312 z312
     obtain ⟨rfl, N312q, K312, g312_0, g312_1, g312_2, g312_3, g312_4, g312_5, g312_6⟩ := hQ312
     have N313 := Fr.app N293 N312q
     have K314 : Keep h0 T312.heap [] := K303.trans K312 (allS (Or.inr sz302) (all0 (P := fun x => x ∈ [] ∨ h0.size ≤ x)))
     show Runs _ _ _ _ (T312.setTop (mkF m 52 #[.val (.int p0), .val (.int p1), .val (.int p2), .val (.ref r_292), .val .null, .val (.int (if (p0 &&& (4 : Int32)) = (0 : Int32) then (0 : Int32) else (1 : Int32))), .unset, .unset, .unset, .unset] [(.ref b300)]))
     refine w_astore X312 hx (hb hby at_52) rfl (L' := #[.val (.int p0), .val (.int p1), .val (.int p2), .val (.ref r_292), .val .null, .val (.int (if (p0 &&& (4 : Int32)) = (0 : Int32) then (0 : Int32) else (1 : Int32))), .val (.ref b300), .unset, .unset, .unset]) rfl (pc' := 54) rfl ?_
     refine w_iload X312 hx (hb hby at_54) rfl (pc' := 56) rfl ?_
     by_cases hc315 : (p0 &&& (4 : Int32)) = (0 : Int32)
     · have v316 : (if (p0 &&& (4 : Int32)) = (0 : Int32) then (0 : Int32) else (1 : Int32)) = (0 : Int32) := if_pos hc315
       refine w_ifY X312 hx (hb hby at_56) (teq (v316.trans (by decide))).1 (pc' := 64) (by decide) (by decide) ?_
       refine w_new X312 hx hZ hown (wd_0 hw) (wd_1 hw) (wd_2 hw) rfl (hb hby at_64) (by decide) (by decide) (pc' := 67) rfl ?_
       intro T317 h317 b317 X317 e317 E317 g317 A317 D317
       have le319 : h0.size ≤ T312.heap.size := (Nat.le_trans le311 K312.1)
       have ge318 : n0 ≤ b317 := Nat.le_trans (Nat.le_trans Z0 le319) (Nat.le_of_eq g317.symm)
       have sz320 : h0.size ≤ b317 := Nat.le_trans le319 (Nat.le_of_eq g317.symm)
       have K321 : Keep h0 h317 [] := K314.ext E317
       have f322 : Fld Z h317 b317 kc0 "open" "Ljava/math/BigDecimal;" .null := D317 (Or.inl (wd_12 hw)) (ty := (.object kc1)) (by decide)
       have f323 : Fld Z h317 b317 kc0 "downside" "Ljava/math/BigDecimal;" .null := D317 (Or.inl (wd_14 hw)) (ty := (.object kc1)) (by decide)
       have f324 : Fld Z h317 b317 kc0 "upside" "Ljava/math/BigDecimal;" .null := D317 (Or.inl (wd_16 hw)) (ty := (.object kc1)) (by decide)
       have f325 : Fld Z h317 b317 kc0 "exposure" "Ljava/math/BigDecimal;" .null := D317 (Or.inl (wd_18 hw)) (ty := (.object kc1)) (by decide)
       have f326 : Fld Z h317 b317 kc0 "pool" "Lcom/example/ringfence/ringfence/gate/Pool;" .null := D317 (Or.inr (wd_20 hw)) (ty := (.object kc3)) (by decide)
       have f327 : Fld Z h317 b317 kc0 "unrated" "Ljava/lang/String;" .null := D317 (Or.inl (wd_27 hw)) (ty := (.object kc2)) (by decide)
       refine w_dup X317 hx (hb hby at_67) rfl (pc' := 68) rfl ?_
       refine w_null X317 hx (hb hby at_68) (pc' := 69) rfl ?_
       have f328 : Old Z n0 h317 := ((f310.keep K312 (allS ge301 all0)).ext E317)
       have le329 : h0.size ≤ h317.size := (Nat.le_trans le319 E317.1)
       refine w_special X317 hx (y := yn_1) rfl hown (mvT hZ (wd_3 hw)) (mvT hZ (wd_4 hw)) (mvT hZ (wd_5 hw)) (by decide) (backOf (W := 1) (rm_m1_5 l Z aZ hw [] b317 G_ZERO h317 n0 (Nat.le_trans Z0 le329) S_ZERO f328 A317 f322 ge318 f323 f324 f325 f326 f327) hZ (wd_5 hw) (wd_2 hw) (by decide) (by decide)) (by rw [hml]; rfl) [.null] (lenOf pd_5 rfl) rfl (Nat.le_of_eq rfl) (hb hby at_69) (fun _ _ => ⟨rfl, e317, (by decide : 5 + 0 ≤ _), (by decide : 20 + 0 ≤ _)⟩) (pc' := 72) rfl ?_
       rintro _ _ ⟨T330, L330, k330, n330⟩ X330 ⟨Lc330, hQ330, l330, y330, z330⟩
       dsimp only [Pt.U, Pt.locs, Pt.cells, Pt.slots] at X330 l330 y330 z330 hQ330 ⊢
       subst l330 y330 z330
       obtain ⟨rfl, N330q, K330, g330_0, g330_1, g330_2, g330_3, g330_4, g330_5, g330_6⟩ := hQ330
       have N331 := Fr.app N313 N330q
       have K332 : Keep h0 T330.heap [] := K321.trans K330 (allS (Or.inr sz320) (all0 (P := fun x => x ∈ [] ∨ h0.size ≤ x)))
       show Runs _ _ _ _ (T330.setTop (mkF m 72 #[.val (.int p0), .val (.int p1), .val (.int p2), .val (.ref r_292), .val .null, .val (.int (if (p0 &&& (4 : Int32)) = (0 : Int32) then (0 : Int32) else (1 : Int32))), .val (.ref b300), .unset, .unset, .unset] [(.ref b317)]))
       refine w_astore X330 hx (hb hby at_72) rfl (L' := #[.val (.int p0), .val (.int p1), .val (.int p2), .val (.ref r_292), .val .null, .val (.int (if (p0 &&& (4 : Int32)) = (0 : Int32) then (0 : Int32) else (1 : Int32))), .val (.ref b300), .val (.ref b317), .unset, .unset]) rfl (pc' := 74) rfl ?_
       refine w_aload X330 hx (hb hby at_74) rfl rfl (pc' := 76) rfl ?_
       refine w_aloadN X330 hx (hb hby at_76) rfl rfl (pc' := 77) rfl ?_
       have f333 : Exa Z T330.heap b300 kc0 := ((g312_0.ext E317).keep K330)
       have ne334 : b300 ≠ b317 := (Nat.ne_of_lt (Nat.lt_of_lt_of_le A300.lt (Nat.le_trans K312.1 (Nat.le_of_eq g317.symm))))
       have f335 : Fld Z T330.heap b300 kc0 "unrated" "Ljava/lang/String;" .null := ((g312_6.ext E317).keep K330 (ninS ne334 nin0))
       have f336 : Fld Z T330.heap b300 kc0 "open" "Ljava/math/BigDecimal;" (.ref G_ZERO) := ((g312_1.ext E317).keep K330 (ninS ne334 nin0))
       have f337 : Fld Z T330.heap b300 kc0 "downside" "Ljava/math/BigDecimal;" (.ref G_ZERO) := ((g312_2.ext E317).keep K330 (ninS ne334 nin0))
       have f338 : Fld Z T330.heap b300 kc0 "upside" "Ljava/math/BigDecimal;" (.ref G_ZERO) := ((g312_3.ext E317).keep K330 (ninS ne334 nin0))
       have f339 : Fld Z T330.heap b300 kc0 "exposure" "Ljava/math/BigDecimal;" (.ref G_ZERO) := ((g312_4.ext E317).keep K330 (ninS ne334 nin0))
       have f340 : Fld Z T330.heap b300 kc0 "pool" "Lcom/example/ringfence/ringfence/gate/Pool;" .null := ((g312_5.ext E317).keep K330 (ninS ne334 nin0))
       have le341 : h0.size ≤ T330.heap.size := (Nat.le_trans le329 K330.1)
       obtain ⟨cq342, kq342, q342a, q342b, q342c⟩ := isOf hZ rfl f333
       refine w_virtual X330 hx (y := yn_3) (z := yn_3) hown (mvT hZ (wd_21 hw)) (mvT hZ (wd_22 hw)) (notFace_of_selects (args := #[]) (mvT hZ (wd_24 hw))) (mvT hZ (wd_24 hw)) (mvT hZ (wd_23 hw)) (by decide) (backOf (W := 0) (rm_m3_11 l Z aZ hw [] b300 r_292 G_ZERO T330.heap n0 (Nat.le_trans Z0 le341) f333 f335 ge301 f336 f337 f338 f339 f340) hZ (wd_25 hw) (wd_2 hw) (by decide) (by decide)) q342a q342c (by rw [hml]; rfl) [(.ref r_292)] (lenOf pd_6 rfl) rfl (Nat.le_of_eq rfl) (hb hby at_77) (fun _ _ => ⟨rfl, rfl, (by decide : 5 + 0 ≤ _), (by decide : 20 + 0 ≤ _)⟩) (pc' := 80) rfl ?_
       rintro _ _ ⟨T342, L342, k342, n342⟩ X342 ⟨Lc342, hQ342, l342, y342, z342⟩
       dsimp only [Pt.U, Pt.locs, Pt.cells, Pt.slots] at X342 l342 y342 z342 hQ342 ⊢
       subst l342 y342 z342
       obtain ⟨rfl, N342q, K342, g342_0, g342_1, g342_2, g342_3, g342_4, g342_5, g342_6⟩ := hQ342
       have N343 := Fr.app N331 N342q
       have K344 : Keep h0 T342.heap [] := K332.trans K342 (allS (Or.inr sz302) (all0 (P := fun x => x ∈ [] ∨ h0.size ≤ x)))
       show Runs _ _ _ _ (T342.setTop (mkF m 80 #[.val (.int p0), .val (.int p1), .val (.int p2), .val (.ref r_292), .val .null, .val (.int (if (p0 &&& (4 : Int32)) = (0 : Int32) then (0 : Int32) else (1 : Int32))), .val (.ref b300), .val (.ref b317), .unset, .unset] []))
       refine w_iload X342 hx (hb hby at_80) rfl (pc' := 82) rfl ?_
       have v345 : (if (p0 &&& (4 : Int32)) = (0 : Int32) then (0 : Int32) else (1 : Int32)) = (0 : Int32) := if_pos hc315
       refine w_ifN X342 hx (hb hby at_82) (teq (v345.trans (by decide))).2 (pc' := 85) rfl ?_
       refine w_aload X342 hx (hb hby at_85) rfl rfl (pc' := 87) rfl ?_
       refine w_aload X342 hx (hb hby at_87) rfl rfl (pc' := 89) rfl ?_
       have f346 : Exa Z T342.heap b317 kc0 := (g330_0.keep K342)
       have f347 : Fld Z T342.heap b317 kc0 "unrated" "Ljava/lang/String;" .null := (g330_6.keep K342 (ninS (Ne.symm ne334) nin0))
       have f348 : Fld Z T342.heap b317 kc0 "open" "Ljava/math/BigDecimal;" (.ref G_ZERO) := (g330_1.keep K342 (ninS (Ne.symm ne334) nin0))
       have f349 : Fld Z T342.heap b317 kc0 "downside" "Ljava/math/BigDecimal;" (.ref G_ZERO) := (g330_2.keep K342 (ninS (Ne.symm ne334) nin0))
       have f350 : Fld Z T342.heap b317 kc0 "upside" "Ljava/math/BigDecimal;" (.ref G_ZERO) := (g330_3.keep K342 (ninS (Ne.symm ne334) nin0))
       have f351 : Fld Z T342.heap b317 kc0 "exposure" "Ljava/math/BigDecimal;" (.ref G_ZERO) := (g330_4.keep K342 (ninS (Ne.symm ne334) nin0))
       have f352 : Fld Z T342.heap b317 kc0 "pool" "Lcom/example/ringfence/ringfence/gate/Pool;" .null := (g330_5.keep K342 (ninS (Ne.symm ne334) nin0))
       have le353 : h0.size ≤ T342.heap.size := (Nat.le_trans le341 K342.1)
       obtain ⟨cq354, kq354, q354a, q354b, q354c⟩ := isOf hZ rfl f346
       refine w_virtual X342 hx (y := yn_3) (z := yn_3) hown (mvT hZ (wd_21 hw)) (mvT hZ (wd_22 hw)) (notFace_of_selects (args := #[]) (mvT hZ (wd_24 hw))) (mvT hZ (wd_24 hw)) (mvT hZ (wd_23 hw)) (by decide) (backOf (W := 0) (rm_m3_6 l Z aZ hw [] b317 G_ZERO T342.heap n0 (Nat.le_trans Z0 le353) f346 f347 ge318 f348 f349 f350 f351 f352) hZ (wd_25 hw) (wd_2 hw) (by decide) (by decide)) q354a q354c (by rw [hml]; rfl) [.null] (lenOf pd_6 rfl) rfl (Nat.le_of_eq rfl) (hb hby at_89) (fun _ _ => ⟨rfl, rfl, (by decide : 5 + 0 ≤ _), (by decide : 20 + 0 ≤ _)⟩) (pc' := 92) rfl ?_
       rintro _ _ ⟨T354, L354, k354, n354⟩ X354 ⟨Lc354, hQ354, l354, y354, z354⟩
       dsimp only [Pt.U, Pt.locs, Pt.cells, Pt.slots] at X354 l354 y354 z354 hQ354 ⊢
       subst l354 y354 z354
       obtain ⟨rfl, N354q, K354, g354_0, g354_1, g354_2, g354_3, g354_4, g354_5, g354_6⟩ := hQ354
       have N355 := Fr.app N343 N354q
       have K356 : Keep h0 T354.heap [] := K344.trans K354 (allS (Or.inr sz320) (all0 (P := fun x => x ∈ [] ∨ h0.size ≤ x)))
       show Runs _ _ _ _ (T354.setTop (mkF m 92 #[.val (.int p0), .val (.int p1), .val (.int p2), .val (.ref r_292), .val .null, .val (.int (if (p0 &&& (4 : Int32)) = (0 : Int32) then (0 : Int32) else (1 : Int32))), .val (.ref b300), .val (.ref b317), .unset, .unset] []))
       refine w_iload X354 hx (hb hby at_92) rfl (pc' := 94) rfl ?_
       have v357 : (if (p0 &&& (4 : Int32)) = (0 : Int32) then (0 : Int32) else (1 : Int32)) = (0 : Int32) := if_pos hc315
       refine w_ifY X354 hx (hb hby at_94) (teq (v357.trans (by decide))).1 (pc' := 101) (by decide) (by decide) ?_
       refine w_aload X354 hx (hb hby at_101) rfl rfl (pc' := 103) rfl ?_
       refine w_astore X354 hx (hb hby at_103) rfl (L' := #[.val (.int p0), .val (.int p1), .val (.int p2), .val (.ref r_292), .val .null, .val (.int (if (p0 &&& (4 : Int32)) = (0 : Int32) then (0 : Int32) else (1 : Int32))), .val (.ref b300), .val (.ref b317), .val .null, .unset]) rfl (pc' := 105) rfl ?_
       refine w_aload X354 hx (hb hby at_105) rfl rfl (pc' := 107) rfl ?_
       refine w_aload X354 hx (hb hby at_107) rfl rfl (pc' := 109) rfl ?_
       have f359 : Exa Z T354.heap b300 kc0 := (g342_0.keep K354)
       have f360 : Fld Z T354.heap b300 kc0 "unrated" "Ljava/lang/String;" (.ref r_292) := (g342_1.keep K354 (ninS ne334 nin0))
       have f361 : Fld Z T354.heap b300 kc0 "open" "Ljava/math/BigDecimal;" (.ref G_ZERO) := (g342_2.keep K354 (ninS ne334 nin0))
       have f362 : Fld Z T354.heap b300 kc0 "downside" "Ljava/math/BigDecimal;" (.ref G_ZERO) := (g342_3.keep K354 (ninS ne334 nin0))
       have f363 : Fld Z T354.heap b300 kc0 "upside" "Ljava/math/BigDecimal;" (.ref G_ZERO) := (g342_4.keep K354 (ninS ne334 nin0))
       have f364 : Fld Z T354.heap b300 kc0 "exposure" "Ljava/math/BigDecimal;" (.ref G_ZERO) := (g342_5.keep K354 (ninS ne334 nin0))
       have f365 : Fld Z T354.heap b300 kc0 "pool" "Lcom/example/ringfence/ringfence/gate/Pool;" .null := (g342_6.keep K354 (ninS ne334 nin0))
       have le366 : h0.size ≤ T354.heap.size := (Nat.le_trans le353 K354.1)
       obtain ⟨cq367, kq367, q367a, q367b, q367c⟩ := isOf hZ rfl f359
       refine w_virtual X354 hx (y := yn_4) (z := yn_4) hown (mvT hZ (wd_28 hw)) (mvT hZ (wd_29 hw)) (notFace_of_selects (args := #[]) (mvT hZ (wd_31 hw))) (mvT hZ (wd_31 hw)) (mvT hZ (wd_30 hw)) (by decide) (backOf (W := 0) (rm_m4_17 l Z aZ hw [] b300 b317 r_292 G_ZERO T354.heap n0 (Nat.le_trans Z0 le366) g354_1 f359 f360 ge301 g354_2 (Ne.symm ne334) f361 g354_3 f362 g354_4 f363 g354_5 f364 f365) hZ (wd_32 hw) (wd_2 hw) (by decide) (by decide)) q367a q367c (by rw [hml]; rfl) [(.ref b317)] (lenOf pd_7 rfl) rfl (Nat.le_of_eq rfl) (hb hby at_109) (fun _ _ => ⟨rfl, rfl, (by decide : 5 + 0 ≤ _), (by decide : 20 + 0 ≤ _)⟩) (pc' := 112) rfl ?_
       rintro _ _ ⟨T367, L367, k367, n367⟩ X367 ⟨Lc367, hQ367, l367, y367, z367⟩
       dsimp only [Pt.U, Pt.locs, Pt.cells, Pt.slots] at X367 l367 y367 z367 hQ367 ⊢
       subst l367 y367 z367
       obtain ⟨rfl, N367q, K367, g367_0, g367_1, g367_2, g367_3, g367_4, g367_5, g367_6⟩ := hQ367
       have N368 := Fr.app N355 N367q
       have K369 : Keep h0 T367.heap [] := K356.trans K367 (allS (Or.inr sz302) (all0 (P := fun x => x ∈ [] ∨ h0.size ≤ x)))
       show Runs _ _ _ _ (T367.setTop (mkF m 112 #[.val (.int p0), .val (.int p1), .val (.int p2), .val (.ref r_292), .val .null, .val (.int (if (p0 &&& (4 : Int32)) = (0 : Int32) then (0 : Int32) else (1 : Int32))), .val (.ref b300), .val (.ref b317), .val .null, .unset] []))
       refine w_aload X367 hx (hb hby at_112) rfl rfl (pc' := 114) rfl ?_
       have le370 : h0.size ≤ T367.heap.size := (Nat.le_trans le366 K367.1)
       obtain ⟨cq371, kq371, q371a, q371b, q371c⟩ := isOf hZ rfl g367_0
       refine w_virtual X367 hx (y := yn_5) (z := yn_5) hown (mvT hZ (wd_33 hw)) (mvT hZ (wd_34 hw)) (notFace_of_selects (args := #[]) (mvT hZ (wd_36 hw))) (mvT hZ (wd_36 hw)) (mvT hZ (wd_35 hw)) (by decide) (backOf (W := 0) (rm_m5_8 l Z aZ hw [] b300 T367.heap n0 (Nat.le_trans Z0 le370) g367_1) hZ (wd_37 hw) (wd_2 hw) (by decide) (by decide)) q371a q371c (by rw [hml]; rfl) [] (lenOf pd_8 rfl) rfl (Nat.le_of_eq rfl) (hb hby at_114) (fun _ _ => ⟨rfl, rfl, (by decide : 5 + 0 ≤ _), (by decide : 20 + 0 ≤ _)⟩) (pc' := 117) rfl ?_
       rintro _ _ ⟨T371, L371, k371, n371⟩ X371 ⟨Lc371, hQ371, l371, y371, z371⟩
       dsimp only [Pt.U, Pt.locs, Pt.cells, Pt.slots] at X371 l371 y371 z371 hQ371 ⊢
       subst l371 y371 z371
       obtain ⟨rfl, N371q, e371⟩ := hQ371
       have N372 := Fr.app N368 N371q
       show Runs _ _ _ _ (T371.setTop (mkF m 117 #[.val (.int p0), .val (.int p1), .val (.int p2), .val (.ref r_292), .val .null, .val (.int (if (p0 &&& (4 : Int32)) = (0 : Int32) then (0 : Int32) else (1 : Int32))), .val (.ref b300), .val (.ref b317), .val .null, .unset] [.null]))
       refine w_aload X371 hx (hb hby at_117) rfl rfl (pc' := 119) rfl ?_
       refine w_static X371 hx (y := yn_6) hown (mvT hZ (wd_38 hw)) (mvT hZ (wd_39 hw)) (mvT hZ (wd_40 hw)) (mvT hZ (wd_41 hw)) (by decide) (backOf (W := 0) (rm_m6_9 l Z aZ hw []  T367.heap n0 (Nat.le_trans Z0 le370) ) hZ (wd_41 hw) (wd_40 hw) (by decide) (by decide)) (by rw [hml]; rfl) [.null, .null] (lenOf pd_9 rfl) rfl (Nat.le_of_eq rfl) (hb hby at_119) (fun _ _ => ⟨rfl, e371, (by decide : 5 + 0 ≤ _), (by decide : 20 + 0 ≤ _)⟩) (pc' := 122) rfl ?_
       rintro _ _ ⟨T373, L373, k373, n373⟩ X373 ⟨Lc373, hQ373, l373, y373, z373⟩
       dsimp only [Pt.U, Pt.locs, Pt.cells, Pt.slots] at X373 l373 y373 z373 hQ373 ⊢
       subst l373 y373 z373
       obtain ⟨rfl, N373q, e373⟩ := hQ373
       have N374 := Fr.app N372 N373q
       show Runs _ _ _ _ (T373.setTop (mkF m 122 #[.val (.int p0), .val (.int p1), .val (.int p2), .val (.ref r_292), .val .null, .val (.int (if (p0 &&& (4 : Int32)) = (0 : Int32) then (0 : Int32) else (1 : Int32))), .val (.ref b300), .val (.ref b317), .val .null, .unset] [(.int (1 : Int32))]))
       refine w_ifN X373 hx (hb hby at_122) (feq (by decide : ¬ ((1 : Int32) = (0 : Int32)))).1 (pc' := 125) rfl ?_
       refine w_aload X373 hx (hb hby at_125) rfl rfl (pc' := 127) rfl ?_
       have f375 : Fld Z T367.heap b317 kc0 "unrated" "Ljava/lang/String;" .null := (g354_1.keep K367 (ninS (Ne.symm ne334) nin0))
       have f377 : Exa Z T367.heap b317 kc0 := (g354_0.keep K367)
       obtain ⟨cq376, kq376, q376a, q376b, q376c⟩ := isOf hZ e373 f377
       refine w_virtual X373 hx (y := yn_5) (z := yn_5) hown (mvT hZ (wd_33 hw)) (mvT hZ (wd_34 hw)) (notFace_of_selects (args := #[]) (mvT hZ (wd_36 hw))) (mvT hZ (wd_36 hw)) (mvT hZ (wd_35 hw)) (by decide) (backOf (W := 0) (rm_m5_8 l Z aZ hw [] b317 T367.heap n0 (Nat.le_trans Z0 le370) f375) hZ (wd_37 hw) (wd_2 hw) (by decide) (by decide)) q376a q376c (by rw [hml]; rfl) [] (lenOf pd_8 rfl) rfl (Nat.le_of_eq rfl) (hb hby at_127) (fun _ _ => ⟨rfl, e373, (by decide : 5 + 0 ≤ _), (by decide : 20 + 0 ≤ _)⟩) (pc' := 130) rfl ?_
       rintro _ _ ⟨T376, L376, k376, n376⟩ X376 ⟨Lc376, hQ376, l376, y376, z376⟩
       dsimp only [Pt.U, Pt.locs, Pt.cells, Pt.slots] at X376 l376 y376 z376 hQ376 ⊢
       subst l376 y376 z376
       obtain ⟨rfl, N376q, e376⟩ := hQ376
       have N378 := Fr.app N374 N376q
       show Runs _ _ _ _ (T376.setTop (mkF m 130 #[.val (.int p0), .val (.int p1), .val (.int p2), .val (.ref r_292), .val .null, .val (.int (if (p0 &&& (4 : Int32)) = (0 : Int32) then (0 : Int32) else (1 : Int32))), .val (.ref b300), .val (.ref b317), .val .null, .unset] [.null]))
       refine w_aload X376 hx (hb hby at_130) rfl rfl (pc' := 132) rfl ?_
       refine w_static X376 hx (y := yn_6) hown (mvT hZ (wd_38 hw)) (mvT hZ (wd_39 hw)) (mvT hZ (wd_40 hw)) (mvT hZ (wd_41 hw)) (by decide) (backOf (W := 0) (rm_m6_9 l Z aZ hw []  T367.heap n0 (Nat.le_trans Z0 le370) ) hZ (wd_41 hw) (wd_40 hw) (by decide) (by decide)) (by rw [hml]; rfl) [.null, .null] (lenOf pd_9 rfl) rfl (Nat.le_of_eq rfl) (hb hby at_132) (fun _ _ => ⟨rfl, e376, (by decide : 5 + 0 ≤ _), (by decide : 20 + 0 ≤ _)⟩) (pc' := 135) rfl ?_
       rintro _ _ ⟨T379, L379, k379, n379⟩ X379 ⟨Lc379, hQ379, l379, y379, z379⟩
       dsimp only [Pt.U, Pt.locs, Pt.cells, Pt.slots] at X379 l379 y379 z379 hQ379 ⊢
       subst l379 y379 z379
       obtain ⟨rfl, N379q, e379⟩ := hQ379
       have N380 := Fr.app N378 N379q
       show Runs _ _ _ _ (T379.setTop (mkF m 135 #[.val (.int p0), .val (.int p1), .val (.int p2), .val (.ref r_292), .val .null, .val (.int (if (p0 &&& (4 : Int32)) = (0 : Int32) then (0 : Int32) else (1 : Int32))), .val (.ref b300), .val (.ref b317), .val .null, .unset] [(.int (1 : Int32))]))
       refine w_ifN X379 hx (hb hby at_135) (feq (by decide : ¬ ((1 : Int32) = (0 : Int32)))).1 (pc' := 138) rfl ?_
       refine w_iconst X379 hx (hb hby at_138) (v := (1 : Int32)) rfl (pc' := 139) rfl ?_
       refine w_goto X379 hx (hb hby at_139) (pc' := 143) (by decide) (by decide) ?_
       refine w_istore X379 hx (hb hby at_143) (L' := #[.val (.int p0), .val (.int p1), .val (.int p2), .val (.ref r_292), .val .null, .val (.int (if (p0 &&& (4 : Int32)) = (0 : Int32) then (0 : Int32) else (1 : Int32))), .val (.ref b300), .val (.ref b317), .val .null, .val (.int (1 : Int32))]) rfl (pc' := 145) rfl ?_
       refine w_aload X379 hx (hb hby at_145) rfl rfl (pc' := 147) rfl ?_
       refine w_aload X379 hx (hb hby at_147) rfl rfl (pc' := 149) rfl ?_
       have f381 : Fld Z T367.heap b317 kc0 "open" "Ljava/math/BigDecimal;" (.ref G_ZERO) := (g354_2.keep K367 (ninS (Ne.symm ne334) nin0))
       have f382 : Fld Z T367.heap b317 kc0 "downside" "Ljava/math/BigDecimal;" (.ref G_ZERO) := (g354_3.keep K367 (ninS (Ne.symm ne334) nin0))
       have f383 : Fld Z T367.heap b317 kc0 "upside" "Ljava/math/BigDecimal;" (.ref G_ZERO) := (g354_4.keep K367 (ninS (Ne.symm ne334) nin0))
       have f384 : Fld Z T367.heap b317 kc0 "exposure" "Ljava/math/BigDecimal;" (.ref G_ZERO) := (g354_5.keep K367 (ninS (Ne.symm ne334) nin0))
       obtain ⟨cq385, kq385, q385a, q385b, q385c⟩ := isOf hZ e379 g367_0
       refine w_virtual X379 hx (y := yn_4) (z := yn_4) hown (mvT hZ (wd_28 hw)) (mvT hZ (wd_29 hw)) (notFace_of_selects (args := #[]) (mvT hZ (wd_31 hw))) (mvT hZ (wd_31 hw)) (mvT hZ (wd_30 hw)) (by decide) (backOf (W := 0) (rm_m4_7 l Z aZ hw [] b300 b317 G_ZERO T367.heap n0 (Nat.le_trans Z0 le370) f375 g367_0 g367_1 ge301 f381 (Ne.symm ne334) g367_2 f382 g367_3 f383 g367_4 f384 g367_5 g367_6) hZ (wd_32 hw) (wd_2 hw) (by decide) (by decide)) q385a q385c (by rw [hml]; rfl) [(.ref b317)] (lenOf pd_7 rfl) rfl (Nat.le_of_eq rfl) (hb hby at_149) (fun _ _ => ⟨rfl, e379, (by decide : 5 + 0 ≤ _), (by decide : 20 + 0 ≤ _)⟩) (pc' := 152) rfl ?_
       rintro _ _ ⟨T385, L385, k385, n385⟩ X385 ⟨Lc385, hQ385, l385, y385, z385⟩
       dsimp only [Pt.U, Pt.locs, Pt.cells, Pt.slots] at X385 l385 y385 z385 hQ385 ⊢
       subst l385 y385 z385
       obtain ⟨rfl, N385q, K385, g385_0, g385_1, g385_2, g385_3, g385_4, g385_5, g385_6⟩ := hQ385
       have N386 := Fr.app N380 N385q
       have K387 : Keep h0 T385.heap [] := K369.trans K385 (allS (Or.inr sz302) (all0 (P := fun x => x ∈ [] ∨ h0.size ≤ x)))
       show Runs _ _ _ _ (T385.setTop (mkF m 152 #[.val (.int p0), .val (.int p1), .val (.int p2), .val (.ref r_292), .val .null, .val (.int (if (p0 &&& (4 : Int32)) = (0 : Int32) then (0 : Int32) else (1 : Int32))), .val (.ref b300), .val (.ref b317), .val .null, .val (.int (1 : Int32))] []))
       refine w_iload X385 hx (hb hby at_152) rfl (pc' := 154) rfl ?_
       refine w_ifN X385 hx (hb hby at_154) (feq (by decide : ¬ ((1 : Int32) = (0 : Int32)))).1 (pc' := 157) rfl ?_
       refine w_aload X385 hx (hb hby at_157) rfl rfl (pc' := 159) rfl ?_
       have le388 : h0.size ≤ T385.heap.size := (Nat.le_trans le370 K385.1)
       obtain ⟨cq389, kq389, q389a, q389b, q389c⟩ := isOf hZ rfl g385_0
       refine w_virtual X385 hx (y := yn_5) (z := yn_5) hown (mvT hZ (wd_33 hw)) (mvT hZ (wd_34 hw)) (notFace_of_selects (args := #[]) (mvT hZ (wd_36 hw))) (mvT hZ (wd_36 hw)) (mvT hZ (wd_35 hw)) (by decide) (backOf (W := 0) (rm_m5_8 l Z aZ hw [] b300 T385.heap n0 (Nat.le_trans Z0 le388) g385_1) hZ (wd_37 hw) (wd_2 hw) (by decide) (by decide)) q389a q389c (by rw [hml]; rfl) [] (lenOf pd_8 rfl) rfl (Nat.le_of_eq rfl) (hb hby at_159) (fun _ _ => ⟨rfl, rfl, (by decide : 5 + 0 ≤ _), (by decide : 20 + 0 ≤ _)⟩) (pc' := 162) rfl ?_
       rintro _ _ ⟨T389, L389, k389, n389⟩ X389 ⟨Lc389, hQ389, l389, y389, z389⟩
       dsimp only [Pt.U, Pt.locs, Pt.cells, Pt.slots] at X389 l389 y389 z389 hQ389 ⊢
       subst l389 y389 z389
       obtain ⟨rfl, N389q, e389⟩ := hQ389
       have N390 := Fr.app N386 N389q
       show Runs _ _ _ _ (T389.setTop (mkF m 162 #[.val (.int p0), .val (.int p1), .val (.int p2), .val (.ref r_292), .val .null, .val (.int (if (p0 &&& (4 : Int32)) = (0 : Int32) then (0 : Int32) else (1 : Int32))), .val (.ref b300), .val (.ref b317), .val .null, .val (.int (1 : Int32))] [.null]))
       refine w_aload X389 hx (hb hby at_162) rfl rfl (pc' := 164) rfl ?_
       refine w_static X389 hx (y := yn_6) hown (mvT hZ (wd_38 hw)) (mvT hZ (wd_39 hw)) (mvT hZ (wd_40 hw)) (mvT hZ (wd_41 hw)) (by decide) (backOf (W := 0) (rm_m6_9 l Z aZ hw []  T385.heap n0 (Nat.le_trans Z0 le388) ) hZ (wd_41 hw) (wd_40 hw) (by decide) (by decide)) (by rw [hml]; rfl) [.null, .null] (lenOf pd_9 rfl) rfl (Nat.le_of_eq rfl) (hb hby at_164) (fun _ _ => ⟨rfl, e389, (by decide : 5 + 0 ≤ _), (by decide : 20 + 0 ≤ _)⟩) (pc' := 167) rfl ?_
       rintro _ _ ⟨T391, L391, k391, n391⟩ X391 ⟨Lc391, hQ391, l391, y391, z391⟩
       dsimp only [Pt.U, Pt.locs, Pt.cells, Pt.slots] at X391 l391 y391 z391 hQ391 ⊢
       subst l391 y391 z391
       obtain ⟨rfl, N391q, e391⟩ := hQ391
       have N392 := Fr.app N390 N391q
       show Runs _ _ _ _ (T391.setTop (mkF m 167 #[.val (.int p0), .val (.int p1), .val (.int p2), .val (.ref r_292), .val .null, .val (.int (if (p0 &&& (4 : Int32)) = (0 : Int32) then (0 : Int32) else (1 : Int32))), .val (.ref b300), .val (.ref b317), .val .null, .val (.int (1 : Int32))] [(.int (1 : Int32))]))
       refine w_ifN X391 hx (hb hby at_167) (feq (by decide : ¬ ((1 : Int32) = (0 : Int32)))).1 (pc' := 170) rfl ?_
       refine w_aload X391 hx (hb hby at_170) rfl rfl (pc' := 172) rfl ?_
       have f393 : Fld Z T385.heap b317 kc0 "unrated" "Ljava/lang/String;" .null := (f375.keep K385 (ninS (Ne.symm ne334) nin0))
       have f395 : Exa Z T385.heap b317 kc0 := (f377.keep K385)
       obtain ⟨cq394, kq394, q394a, q394b, q394c⟩ := isOf hZ e391 f395
       refine w_virtual X391 hx (y := yn_5) (z := yn_5) hown (mvT hZ (wd_33 hw)) (mvT hZ (wd_34 hw)) (notFace_of_selects (args := #[]) (mvT hZ (wd_36 hw))) (mvT hZ (wd_36 hw)) (mvT hZ (wd_35 hw)) (by decide) (backOf (W := 0) (rm_m5_8 l Z aZ hw [] b317 T385.heap n0 (Nat.le_trans Z0 le388) f393) hZ (wd_37 hw) (wd_2 hw) (by decide) (by decide)) q394a q394c (by rw [hml]; rfl) [] (lenOf pd_8 rfl) rfl (Nat.le_of_eq rfl) (hb hby at_172) (fun _ _ => ⟨rfl, e391, (by decide : 5 + 0 ≤ _), (by decide : 20 + 0 ≤ _)⟩) (pc' := 175) rfl ?_
       rintro _ _ ⟨T394, L394, k394, n394⟩ X394 ⟨Lc394, hQ394, l394, y394, z394⟩
       dsimp only [Pt.U, Pt.locs, Pt.cells, Pt.slots] at X394 l394 y394 z394 hQ394 ⊢
       subst l394 y394 z394
       obtain ⟨rfl, N394q, e394⟩ := hQ394
       have N396 := Fr.app N392 N394q
       show Runs _ _ _ _ (T394.setTop (mkF m 175 #[.val (.int p0), .val (.int p1), .val (.int p2), .val (.ref r_292), .val .null, .val (.int (if (p0 &&& (4 : Int32)) = (0 : Int32) then (0 : Int32) else (1 : Int32))), .val (.ref b300), .val (.ref b317), .val .null, .val (.int (1 : Int32))] [.null]))
       refine w_aload X394 hx (hb hby at_175) rfl rfl (pc' := 177) rfl ?_
       refine w_static X394 hx (y := yn_6) hown (mvT hZ (wd_38 hw)) (mvT hZ (wd_39 hw)) (mvT hZ (wd_40 hw)) (mvT hZ (wd_41 hw)) (by decide) (backOf (W := 0) (rm_m6_9 l Z aZ hw []  T385.heap n0 (Nat.le_trans Z0 le388) ) hZ (wd_41 hw) (wd_40 hw) (by decide) (by decide)) (by rw [hml]; rfl) [.null, .null] (lenOf pd_9 rfl) rfl (Nat.le_of_eq rfl) (hb hby at_177) (fun _ _ => ⟨rfl, e394, (by decide : 5 + 0 ≤ _), (by decide : 20 + 0 ≤ _)⟩) (pc' := 180) rfl ?_
       rintro _ _ ⟨T397, L397, k397, n397⟩ X397 ⟨Lc397, hQ397, l397, y397, z397⟩
       dsimp only [Pt.U, Pt.locs, Pt.cells, Pt.slots] at X397 l397 y397 z397 hQ397 ⊢
       subst l397 y397 z397
       obtain ⟨rfl, N397q, e397⟩ := hQ397
       have N398 := Fr.app N396 N397q
       show Runs _ _ _ _ (T397.setTop (mkF m 180 #[.val (.int p0), .val (.int p1), .val (.int p2), .val (.ref r_292), .val .null, .val (.int (if (p0 &&& (4 : Int32)) = (0 : Int32) then (0 : Int32) else (1 : Int32))), .val (.ref b300), .val (.ref b317), .val .null, .val (.int (1 : Int32))] [(.int (1 : Int32))]))
       refine w_ifN X397 hx (hb hby at_180) (feq (by decide : ¬ ((1 : Int32) = (0 : Int32)))).1 (pc' := 183) rfl ?_
       refine w_iconst X397 hx (hb hby at_183) (v := (1 : Int32)) rfl (pc' := 184) rfl ?_
       refine w_goto X397 hx (hb hby at_184) (pc' := 188) (by decide) (by decide) ?_
       exact w_done X397 hlk (v := some (.int (1 : Int32))) e397 (fun h => by rw [hret] at h; cases h) (fun fs hr => retN X397 hx (t := .boolean) hret (by simp) (hb hby at_188) hr) (by decide) (by decide) (⟨rfl, N398⟩)
     · have v399 : (if (p0 &&& (4 : Int32)) = (0 : Int32) then (0 : Int32) else (1 : Int32)) = (1 : Int32) := if_neg hc315
       refine w_ifN X312 hx (hb hby at_56) (feq (fun q => absurd (v399.symm.trans q) (by decide))).1 (pc' := 59) rfl ?_
       refine w_aload X312 hx (hb hby at_59) rfl rfl (pc' := 61) rfl ?_
       refine w_goto X312 hx (hb hby at_61) (pc' := 72) (by decide) (by decide) ?_
       refine w_astore X312 hx (hb hby at_72) rfl (L' := #[.val (.int p0), .val (.int p1), .val (.int p2), .val (.ref r_292), .val .null, .val (.int (if (p0 &&& (4 : Int32)) = (0 : Int32) then (0 : Int32) else (1 : Int32))), .val (.ref b300), .val (.ref b300), .unset, .unset]) rfl (pc' := 74) rfl ?_
       refine w_aload X312 hx (hb hby at_74) rfl rfl (pc' := 76) rfl ?_
       refine w_aloadN X312 hx (hb hby at_76) rfl rfl (pc' := 77) rfl ?_
       have le400 : h0.size ≤ T312.heap.size := (Nat.le_trans le311 K312.1)
       obtain ⟨cq401, kq401, q401a, q401b, q401c⟩ := isOf hZ rfl g312_0
       refine w_virtual X312 hx (y := yn_3) (z := yn_3) hown (mvT hZ (wd_21 hw)) (mvT hZ (wd_22 hw)) (notFace_of_selects (args := #[]) (mvT hZ (wd_24 hw))) (mvT hZ (wd_24 hw)) (mvT hZ (wd_23 hw)) (by decide) (backOf (W := 0) (rm_m3_11 l Z aZ hw [] b300 r_292 G_ZERO T312.heap n0 (Nat.le_trans Z0 le400) g312_0 g312_6 ge301 g312_1 g312_2 g312_3 g312_4 g312_5) hZ (wd_25 hw) (wd_2 hw) (by decide) (by decide)) q401a q401c (by rw [hml]; rfl) [(.ref r_292)] (lenOf pd_6 rfl) rfl (Nat.le_of_eq rfl) (hb hby at_77) (fun _ _ => ⟨rfl, rfl, (by decide : 4 + 0 ≤ _), (by decide : 14 + 0 ≤ _)⟩) (pc' := 80) rfl ?_
       rintro _ _ ⟨T401, L401, k401, n401⟩ X401 ⟨Lc401, hQ401, l401, y401, z401⟩
       dsimp only [Pt.U, Pt.locs, Pt.cells, Pt.slots] at X401 l401 y401 z401 hQ401 ⊢
       subst l401 y401 z401
       obtain ⟨rfl, N401q, K401, g401_0, g401_1, g401_2, g401_3, g401_4, g401_5, g401_6⟩ := hQ401
       have N402 := Fr.app N313 N401q
       have K403 : Keep h0 T401.heap [] := K314.trans K401 (allS (Or.inr sz302) (all0 (P := fun x => x ∈ [] ∨ h0.size ≤ x)))
       show Runs _ _ _ _ (T401.setTop (mkF m 80 #[.val (.int p0), .val (.int p1), .val (.int p2), .val (.ref r_292), .val .null, .val (.int (if (p0 &&& (4 : Int32)) = (0 : Int32) then (0 : Int32) else (1 : Int32))), .val (.ref b300), .val (.ref b300), .unset, .unset] []))
       refine w_iload X401 hx (hb hby at_80) rfl (pc' := 82) rfl ?_
       have v404 : (if (p0 &&& (4 : Int32)) = (0 : Int32) then (0 : Int32) else (1 : Int32)) = (1 : Int32) := if_neg hc315
       refine w_ifY X401 hx (hb hby at_82) (feq (fun q => absurd (v404.symm.trans q) (by decide))).2 (pc' := 92) (by decide) (by decide) ?_
       refine w_iload X401 hx (hb hby at_92) rfl (pc' := 94) rfl ?_
       have v405 : (if (p0 &&& (4 : Int32)) = (0 : Int32) then (0 : Int32) else (1 : Int32)) = (1 : Int32) := if_neg hc315
       refine w_ifN X401 hx (hb hby at_94) (feq (fun q => absurd (v405.symm.trans q) (by decide))).1 (pc' := 97) rfl ?_
       refine w_aloadN X401 hx (hb hby at_97) rfl rfl (pc' := 98) rfl ?_
       refine w_goto X401 hx (hb hby at_98) (pc' := 103) (by decide) (by decide) ?_
       refine w_astore X401 hx (hb hby at_103) rfl (L' := #[.val (.int p0), .val (.int p1), .val (.int p2), .val (.ref r_292), .val .null, .val (.int (if (p0 &&& (4 : Int32)) = (0 : Int32) then (0 : Int32) else (1 : Int32))), .val (.ref b300), .val (.ref b300), .val (.ref r_292), .unset]) rfl (pc' := 105) rfl ?_
       refine w_aload X401 hx (hb hby at_105) rfl rfl (pc' := 107) rfl ?_
       refine w_aload X401 hx (hb hby at_107) rfl rfl (pc' := 109) rfl ?_
       have le406 : h0.size ≤ T401.heap.size := (Nat.le_trans le400 K401.1)
       obtain ⟨cq407, kq407, q407a, q407b, q407c⟩ := isOf hZ rfl g401_0
       refine w_virtual X401 hx (y := yn_4) (z := yn_4) hown (mvT hZ (wd_28 hw)) (mvT hZ (wd_29 hw)) (notFace_of_selects (args := #[]) (mvT hZ (wd_31 hw))) (mvT hZ (wd_31 hw)) (mvT hZ (wd_30 hw)) (by decide) (backOf (W := 0) (rm_m4_18 l Z aZ hw [] b300 r_292 G_ZERO T401.heap n0 (Nat.le_trans Z0 le406) g401_1 g401_0 ge301 g401_2 g401_3 g401_4 g401_5 g401_6) hZ (wd_32 hw) (wd_2 hw) (by decide) (by decide)) q407a q407c (by rw [hml]; rfl) [(.ref b300)] (lenOf pd_7 rfl) rfl (Nat.le_of_eq rfl) (hb hby at_109) (fun _ _ => ⟨rfl, rfl, (by decide : 4 + 0 ≤ _), (by decide : 14 + 0 ≤ _)⟩) (pc' := 112) rfl ?_
       rintro _ _ ⟨T407, L407, k407, n407⟩ X407 ⟨Lc407, hQ407, l407, y407, z407⟩
       dsimp only [Pt.U, Pt.locs, Pt.cells, Pt.slots] at X407 l407 y407 z407 hQ407 ⊢
       subst l407 y407 z407
       obtain ⟨rfl, N407q, K407, g407_0, g407_1, g407_2, g407_3, g407_4, g407_5, g407_6⟩ := hQ407
       have N408 := Fr.app N402 N407q
       have K409 : Keep h0 T407.heap [] := K403.trans K407 (allS (Or.inr sz302) (all0 (P := fun x => x ∈ [] ∨ h0.size ≤ x)))
       show Runs _ _ _ _ (T407.setTop (mkF m 112 #[.val (.int p0), .val (.int p1), .val (.int p2), .val (.ref r_292), .val .null, .val (.int (if (p0 &&& (4 : Int32)) = (0 : Int32) then (0 : Int32) else (1 : Int32))), .val (.ref b300), .val (.ref b300), .val (.ref r_292), .unset] []))
       refine w_aload X407 hx (hb hby at_112) rfl rfl (pc' := 114) rfl ?_
       have le410 : h0.size ≤ T407.heap.size := (Nat.le_trans le406 K407.1)
       obtain ⟨cq411, kq411, q411a, q411b, q411c⟩ := isOf hZ rfl g407_1
       refine w_virtual X407 hx (y := yn_5) (z := yn_5) hown (mvT hZ (wd_33 hw)) (mvT hZ (wd_34 hw)) (notFace_of_selects (args := #[]) (mvT hZ (wd_36 hw))) (mvT hZ (wd_36 hw)) (mvT hZ (wd_35 hw)) (by decide) (backOf (W := 0) (rm_m5_13 l Z aZ hw [] b300 r_292 T407.heap n0 (Nat.le_trans Z0 le410) g407_0) hZ (wd_37 hw) (wd_2 hw) (by decide) (by decide)) q411a q411c (by rw [hml]; rfl) [] (lenOf pd_8 rfl) rfl (Nat.le_of_eq rfl) (hb hby at_114) (fun _ _ => ⟨rfl, rfl, (by decide : 4 + 0 ≤ _), (by decide : 14 + 0 ≤ _)⟩) (pc' := 117) rfl ?_
       rintro _ _ ⟨T411, L411, k411, n411⟩ X411 ⟨Lc411, hQ411, l411, y411, z411⟩
       dsimp only [Pt.U, Pt.locs, Pt.cells, Pt.slots] at X411 l411 y411 z411 hQ411 ⊢
       subst l411 y411 z411
       obtain ⟨rfl, N411q, e411⟩ := hQ411
       have N412 := Fr.app N408 N411q
       show Runs _ _ _ _ (T411.setTop (mkF m 117 #[.val (.int p0), .val (.int p1), .val (.int p2), .val (.ref r_292), .val .null, .val (.int (if (p0 &&& (4 : Int32)) = (0 : Int32) then (0 : Int32) else (1 : Int32))), .val (.ref b300), .val (.ref b300), .val (.ref r_292), .unset] [(.ref r_292)]))
       refine w_aload X411 hx (hb hby at_117) rfl rfl (pc' := 119) rfl ?_
       have f413 : Exa Z T407.heap r_292 kc2 := ((((g292_1.ext E300).keep K312).keep K401).keep K407)
       refine w_static X411 hx (y := yn_6) hown (mvT hZ (wd_38 hw)) (mvT hZ (wd_39 hw)) (mvT hZ (wd_40 hw)) (mvT hZ (wd_41 hw)) (by decide) (backOf (W := 0) (rm_m6_14 l Z aZ hw [] r_292 T407.heap n0 (Nat.le_trans Z0 le410) f413) hZ (wd_41 hw) (wd_40 hw) (by decide) (by decide)) (by rw [hml]; rfl) [(.ref r_292), (.ref r_292)] (lenOf pd_9 rfl) rfl (Nat.le_of_eq rfl) (hb hby at_119) (fun _ _ => ⟨rfl, e411, (by decide : 4 + 0 ≤ _), (by decide : 14 + 0 ≤ _)⟩) (pc' := 122) rfl ?_
       rintro _ _ ⟨T414, L414, k414, n414⟩ X414 ⟨Lc414, hQ414, l414, y414, z414⟩
       dsimp only [Pt.U, Pt.locs, Pt.cells, Pt.slots] at X414 l414 y414 z414 hQ414 ⊢
       subst l414 y414 z414
       obtain ⟨rfl, N414q, e414⟩ := hQ414
       have N415 := Fr.app N412 N414q
       show Runs _ _ _ _ (T414.setTop (mkF m 122 #[.val (.int p0), .val (.int p1), .val (.int p2), .val (.ref r_292), .val .null, .val (.int (if (p0 &&& (4 : Int32)) = (0 : Int32) then (0 : Int32) else (1 : Int32))), .val (.ref b300), .val (.ref b300), .val (.ref r_292), .unset] [(.int (1 : Int32))]))
       refine w_ifN X414 hx (hb hby at_122) (feq (by decide : ¬ ((1 : Int32) = (0 : Int32)))).1 (pc' := 125) rfl ?_
       refine w_aload X414 hx (hb hby at_125) rfl rfl (pc' := 127) rfl ?_
       obtain ⟨cq416, kq416, q416a, q416b, q416c⟩ := isOf hZ e414 g407_1
       refine w_virtual X414 hx (y := yn_5) (z := yn_5) hown (mvT hZ (wd_33 hw)) (mvT hZ (wd_34 hw)) (notFace_of_selects (args := #[]) (mvT hZ (wd_36 hw))) (mvT hZ (wd_36 hw)) (mvT hZ (wd_35 hw)) (by decide) (backOf (W := 0) (rm_m5_13 l Z aZ hw [] b300 r_292 T407.heap n0 (Nat.le_trans Z0 le410) g407_0) hZ (wd_37 hw) (wd_2 hw) (by decide) (by decide)) q416a q416c (by rw [hml]; rfl) [] (lenOf pd_8 rfl) rfl (Nat.le_of_eq rfl) (hb hby at_127) (fun _ _ => ⟨rfl, e414, (by decide : 4 + 0 ≤ _), (by decide : 14 + 0 ≤ _)⟩) (pc' := 130) rfl ?_
       rintro _ _ ⟨T416, L416, k416, n416⟩ X416 ⟨Lc416, hQ416, l416, y416, z416⟩
       dsimp only [Pt.U, Pt.locs, Pt.cells, Pt.slots] at X416 l416 y416 z416 hQ416 ⊢
       subst l416 y416 z416
       obtain ⟨rfl, N416q, e416⟩ := hQ416
       have N417 := Fr.app N415 N416q
       show Runs _ _ _ _ (T416.setTop (mkF m 130 #[.val (.int p0), .val (.int p1), .val (.int p2), .val (.ref r_292), .val .null, .val (.int (if (p0 &&& (4 : Int32)) = (0 : Int32) then (0 : Int32) else (1 : Int32))), .val (.ref b300), .val (.ref b300), .val (.ref r_292), .unset] [(.ref r_292)]))
       refine w_aload X416 hx (hb hby at_130) rfl rfl (pc' := 132) rfl ?_
       refine w_static X416 hx (y := yn_6) hown (mvT hZ (wd_38 hw)) (mvT hZ (wd_39 hw)) (mvT hZ (wd_40 hw)) (mvT hZ (wd_41 hw)) (by decide) (backOf (W := 0) (rm_m6_14 l Z aZ hw [] r_292 T407.heap n0 (Nat.le_trans Z0 le410) f413) hZ (wd_41 hw) (wd_40 hw) (by decide) (by decide)) (by rw [hml]; rfl) [(.ref r_292), (.ref r_292)] (lenOf pd_9 rfl) rfl (Nat.le_of_eq rfl) (hb hby at_132) (fun _ _ => ⟨rfl, e416, (by decide : 4 + 0 ≤ _), (by decide : 14 + 0 ≤ _)⟩) (pc' := 135) rfl ?_
       rintro _ _ ⟨T418, L418, k418, n418⟩ X418 ⟨Lc418, hQ418, l418, y418, z418⟩
       dsimp only [Pt.U, Pt.locs, Pt.cells, Pt.slots] at X418 l418 y418 z418 hQ418 ⊢
       subst l418 y418 z418
       obtain ⟨rfl, N418q, e418⟩ := hQ418
       have N419 := Fr.app N417 N418q
       show Runs _ _ _ _ (T418.setTop (mkF m 135 #[.val (.int p0), .val (.int p1), .val (.int p2), .val (.ref r_292), .val .null, .val (.int (if (p0 &&& (4 : Int32)) = (0 : Int32) then (0 : Int32) else (1 : Int32))), .val (.ref b300), .val (.ref b300), .val (.ref r_292), .unset] [(.int (1 : Int32))]))
       refine w_ifN X418 hx (hb hby at_135) (feq (by decide : ¬ ((1 : Int32) = (0 : Int32)))).1 (pc' := 138) rfl ?_
       refine w_iconst X418 hx (hb hby at_138) (v := (1 : Int32)) rfl (pc' := 139) rfl ?_
       refine w_goto X418 hx (hb hby at_139) (pc' := 143) (by decide) (by decide) ?_
       refine w_istore X418 hx (hb hby at_143) (L' := #[.val (.int p0), .val (.int p1), .val (.int p2), .val (.ref r_292), .val .null, .val (.int (if (p0 &&& (4 : Int32)) = (0 : Int32) then (0 : Int32) else (1 : Int32))), .val (.ref b300), .val (.ref b300), .val (.ref r_292), .val (.int (1 : Int32))]) rfl (pc' := 145) rfl ?_
       refine w_aload X418 hx (hb hby at_145) rfl rfl (pc' := 147) rfl ?_
       refine w_aload X418 hx (hb hby at_147) rfl rfl (pc' := 149) rfl ?_
       obtain ⟨cq420, kq420, q420a, q420b, q420c⟩ := isOf hZ e418 g407_1
       refine w_virtual X418 hx (y := yn_4) (z := yn_4) hown (mvT hZ (wd_28 hw)) (mvT hZ (wd_29 hw)) (notFace_of_selects (args := #[]) (mvT hZ (wd_31 hw))) (mvT hZ (wd_31 hw)) (mvT hZ (wd_30 hw)) (by decide) (backOf (W := 0) (rm_m4_18 l Z aZ hw [] b300 r_292 G_ZERO T407.heap n0 (Nat.le_trans Z0 le410) g407_0 g407_1 ge301 g407_2 g407_3 g407_4 g407_5 g407_6) hZ (wd_32 hw) (wd_2 hw) (by decide) (by decide)) q420a q420c (by rw [hml]; rfl) [(.ref b300)] (lenOf pd_7 rfl) rfl (Nat.le_of_eq rfl) (hb hby at_149) (fun _ _ => ⟨rfl, e418, (by decide : 4 + 0 ≤ _), (by decide : 14 + 0 ≤ _)⟩) (pc' := 152) rfl ?_
       rintro _ _ ⟨T420, L420, k420, n420⟩ X420 ⟨Lc420, hQ420, l420, y420, z420⟩
       dsimp only [Pt.U, Pt.locs, Pt.cells, Pt.slots] at X420 l420 y420 z420 hQ420 ⊢
       subst l420 y420 z420
       obtain ⟨rfl, N420q, K420, g420_0, g420_1, g420_2, g420_3, g420_4, g420_5, g420_6⟩ := hQ420
       have N421 := Fr.app N419 N420q
       have K422 : Keep h0 T420.heap [] := K409.trans K420 (allS (Or.inr sz302) (all0 (P := fun x => x ∈ [] ∨ h0.size ≤ x)))
       show Runs _ _ _ _ (T420.setTop (mkF m 152 #[.val (.int p0), .val (.int p1), .val (.int p2), .val (.ref r_292), .val .null, .val (.int (if (p0 &&& (4 : Int32)) = (0 : Int32) then (0 : Int32) else (1 : Int32))), .val (.ref b300), .val (.ref b300), .val (.ref r_292), .val (.int (1 : Int32))] []))
       refine w_iload X420 hx (hb hby at_152) rfl (pc' := 154) rfl ?_
       refine w_ifN X420 hx (hb hby at_154) (feq (by decide : ¬ ((1 : Int32) = (0 : Int32)))).1 (pc' := 157) rfl ?_
       refine w_aload X420 hx (hb hby at_157) rfl rfl (pc' := 159) rfl ?_
       have le423 : h0.size ≤ T420.heap.size := (Nat.le_trans le410 K420.1)
       obtain ⟨cq424, kq424, q424a, q424b, q424c⟩ := isOf hZ rfl g420_1
       refine w_virtual X420 hx (y := yn_5) (z := yn_5) hown (mvT hZ (wd_33 hw)) (mvT hZ (wd_34 hw)) (notFace_of_selects (args := #[]) (mvT hZ (wd_36 hw))) (mvT hZ (wd_36 hw)) (mvT hZ (wd_35 hw)) (by decide) (backOf (W := 0) (rm_m5_13 l Z aZ hw [] b300 r_292 T420.heap n0 (Nat.le_trans Z0 le423) g420_0) hZ (wd_37 hw) (wd_2 hw) (by decide) (by decide)) q424a q424c (by rw [hml]; rfl) [] (lenOf pd_8 rfl) rfl (Nat.le_of_eq rfl) (hb hby at_159) (fun _ _ => ⟨rfl, rfl, (by decide : 4 + 0 ≤ _), (by decide : 14 + 0 ≤ _)⟩) (pc' := 162) rfl ?_
       rintro _ _ ⟨T424, L424, k424, n424⟩ X424 ⟨Lc424, hQ424, l424, y424, z424⟩
       dsimp only [Pt.U, Pt.locs, Pt.cells, Pt.slots] at X424 l424 y424 z424 hQ424 ⊢
       subst l424 y424 z424
       obtain ⟨rfl, N424q, e424⟩ := hQ424
       have N425 := Fr.app N421 N424q
       show Runs _ _ _ _ (T424.setTop (mkF m 162 #[.val (.int p0), .val (.int p1), .val (.int p2), .val (.ref r_292), .val .null, .val (.int (if (p0 &&& (4 : Int32)) = (0 : Int32) then (0 : Int32) else (1 : Int32))), .val (.ref b300), .val (.ref b300), .val (.ref r_292), .val (.int (1 : Int32))] [(.ref r_292)]))
       refine w_aload X424 hx (hb hby at_162) rfl rfl (pc' := 164) rfl ?_
       have f426 : Exa Z T420.heap r_292 kc2 := (f413.keep K420)
       refine w_static X424 hx (y := yn_6) hown (mvT hZ (wd_38 hw)) (mvT hZ (wd_39 hw)) (mvT hZ (wd_40 hw)) (mvT hZ (wd_41 hw)) (by decide) (backOf (W := 0) (rm_m6_14 l Z aZ hw [] r_292 T420.heap n0 (Nat.le_trans Z0 le423) f426) hZ (wd_41 hw) (wd_40 hw) (by decide) (by decide)) (by rw [hml]; rfl) [(.ref r_292), (.ref r_292)] (lenOf pd_9 rfl) rfl (Nat.le_of_eq rfl) (hb hby at_164) (fun _ _ => ⟨rfl, e424, (by decide : 4 + 0 ≤ _), (by decide : 14 + 0 ≤ _)⟩) (pc' := 167) rfl ?_
       rintro _ _ ⟨T427, L427, k427, n427⟩ X427 ⟨Lc427, hQ427, l427, y427, z427⟩
       dsimp only [Pt.U, Pt.locs, Pt.cells, Pt.slots] at X427 l427 y427 z427 hQ427 ⊢
       subst l427 y427 z427
       obtain ⟨rfl, N427q, e427⟩ := hQ427
       have N428 := Fr.app N425 N427q
       show Runs _ _ _ _ (T427.setTop (mkF m 167 #[.val (.int p0), .val (.int p1), .val (.int p2), .val (.ref r_292), .val .null, .val (.int (if (p0 &&& (4 : Int32)) = (0 : Int32) then (0 : Int32) else (1 : Int32))), .val (.ref b300), .val (.ref b300), .val (.ref r_292), .val (.int (1 : Int32))] [(.int (1 : Int32))]))
       refine w_ifN X427 hx (hb hby at_167) (feq (by decide : ¬ ((1 : Int32) = (0 : Int32)))).1 (pc' := 170) rfl ?_
       refine w_aload X427 hx (hb hby at_170) rfl rfl (pc' := 172) rfl ?_
       obtain ⟨cq429, kq429, q429a, q429b, q429c⟩ := isOf hZ e427 g420_1
       refine w_virtual X427 hx (y := yn_5) (z := yn_5) hown (mvT hZ (wd_33 hw)) (mvT hZ (wd_34 hw)) (notFace_of_selects (args := #[]) (mvT hZ (wd_36 hw))) (mvT hZ (wd_36 hw)) (mvT hZ (wd_35 hw)) (by decide) (backOf (W := 0) (rm_m5_13 l Z aZ hw [] b300 r_292 T420.heap n0 (Nat.le_trans Z0 le423) g420_0) hZ (wd_37 hw) (wd_2 hw) (by decide) (by decide)) q429a q429c (by rw [hml]; rfl) [] (lenOf pd_8 rfl) rfl (Nat.le_of_eq rfl) (hb hby at_172) (fun _ _ => ⟨rfl, e427, (by decide : 4 + 0 ≤ _), (by decide : 14 + 0 ≤ _)⟩) (pc' := 175) rfl ?_
       rintro _ _ ⟨T429, L429, k429, n429⟩ X429 ⟨Lc429, hQ429, l429, y429, z429⟩
       dsimp only [Pt.U, Pt.locs, Pt.cells, Pt.slots] at X429 l429 y429 z429 hQ429 ⊢
       subst l429 y429 z429
       obtain ⟨rfl, N429q, e429⟩ := hQ429
       have N430 := Fr.app N428 N429q
       show Runs _ _ _ _ (T429.setTop (mkF m 175 #[.val (.int p0), .val (.int p1), .val (.int p2), .val (.ref r_292), .val .null, .val (.int (if (p0 &&& (4 : Int32)) = (0 : Int32) then (0 : Int32) else (1 : Int32))), .val (.ref b300), .val (.ref b300), .val (.ref r_292), .val (.int (1 : Int32))] [(.ref r_292)]))
       refine w_aload X429 hx (hb hby at_175) rfl rfl (pc' := 177) rfl ?_
       refine w_static X429 hx (y := yn_6) hown (mvT hZ (wd_38 hw)) (mvT hZ (wd_39 hw)) (mvT hZ (wd_40 hw)) (mvT hZ (wd_41 hw)) (by decide) (backOf (W := 0) (rm_m6_14 l Z aZ hw [] r_292 T420.heap n0 (Nat.le_trans Z0 le423) f426) hZ (wd_41 hw) (wd_40 hw) (by decide) (by decide)) (by rw [hml]; rfl) [(.ref r_292), (.ref r_292)] (lenOf pd_9 rfl) rfl (Nat.le_of_eq rfl) (hb hby at_177) (fun _ _ => ⟨rfl, e429, (by decide : 4 + 0 ≤ _), (by decide : 14 + 0 ≤ _)⟩) (pc' := 180) rfl ?_
       rintro _ _ ⟨T431, L431, k431, n431⟩ X431 ⟨Lc431, hQ431, l431, y431, z431⟩
       dsimp only [Pt.U, Pt.locs, Pt.cells, Pt.slots] at X431 l431 y431 z431 hQ431 ⊢
       subst l431 y431 z431
       obtain ⟨rfl, N431q, e431⟩ := hQ431
       have N432 := Fr.app N430 N431q
       show Runs _ _ _ _ (T431.setTop (mkF m 180 #[.val (.int p0), .val (.int p1), .val (.int p2), .val (.ref r_292), .val .null, .val (.int (if (p0 &&& (4 : Int32)) = (0 : Int32) then (0 : Int32) else (1 : Int32))), .val (.ref b300), .val (.ref b300), .val (.ref r_292), .val (.int (1 : Int32))] [(.int (1 : Int32))]))
       refine w_ifN X431 hx (hb hby at_180) (feq (by decide : ¬ ((1 : Int32) = (0 : Int32)))).1 (pc' := 183) rfl ?_
       refine w_iconst X431 hx (hb hby at_183) (v := (1 : Int32)) rfl (pc' := 184) rfl ?_
       refine w_goto X431 hx (hb hby at_184) (pc' := 188) (by decide) (by decide) ?_
       exact w_done X431 hlk (v := some (.int (1 : Int32))) e431 (fun h => by rw [hret] at h; cases h) (fun fs hr => retN X431 hx (t := .boolean) hret (by simp) (hb hby at_188) hr) (by decide) (by decide) (⟨rfl, N432⟩)
   · refine w_ifN X292 hx (hb hby at_18) (feq hc297).1 (pc' := 21) rfl ?_
     refine w_iloadN X292 hx (hb hby at_21) rfl (pc' := 22) rfl ?_
     have f433 : Old Z n0 T292.heap := (O0.keep K292 all0)
     refine w_static X292 hx (y := yn_7) hown (mvT hZ (wd_42 hw)) (mvT hZ (wd_43 hw)) (mvT hZ (wd_40 hw)) (mvT hZ (wd_44 hw)) (by decide) (backOf (W := 0) (rm_drawn l Z aZ hw [] p2 G_COMPACT_STRINGS T292.heap n0 (Nat.le_trans Z0 K292.1) S_COMPACT_STRINGS f433 hP_3) hZ (wd_44 hw) (wd_40 hw) (by decide) (by decide)) (by rw [hml]; rfl) [(.int p2)] (lenOf pd_10 rfl) rfl (Nat.le_of_eq rfl) (hb hby at_22) (fun _ _ => ⟨rfl, rfl, (by decide : 3 + 3 ≤ _), (by decide : 8 + 8 ≤ _)⟩) (pc' := 25) rfl ?_
     rintro _ _ ⟨T434, L434, k434, n434⟩ X434 ⟨Lc434, hQ434, l434, y434, z434⟩
     dsimp only [Pt.U, Pt.locs, Pt.cells, Pt.slots] at X434 l434 y434 z434 hQ434 ⊢
     subst l434 y434 z434
     obtain ⟨r_434, rfl, N434q, K434, g434_0, g434_1⟩ := hQ434
     have N435 := Fr.app N293 N434q
     have K436 : Keep h0 T434.heap [] := K294.trans K434 (all0 (P := fun x => x ∈ [] ∨ h0.size ≤ x))
     have ge437 : n0 ≤ r_434 := Nat.le_trans (Nat.le_trans Z0 K292.1) g434_0
     have sz438 : h0.size ≤ r_434 := Nat.le_trans K292.1 g434_0
     show Runs _ _ _ _ (T434.setTop (mkF m 25 #[.val (.int p0), .val (.int p1), .val (.int p2), .val (.ref r_292), .unset, .unset, .unset, .unset, .unset, .unset] [(.ref r_434)]))
     refine w_goto X434 hx (hb hby at_25) (pc' := 29) (by decide) (by decide) ?_
     refine w_astore X434 hx (hb hby at_29) rfl (L' := #[.val (.int p0), .val (.int p1), .val (.int p2), .val (.ref r_292), .val (.ref r_434), .unset, .unset, .unset, .unset, .unset]) rfl (pc' := 31) rfl ?_
     refine w_iloadN X434 hx (hb hby at_31) rfl (pc' := 32) rfl ?_
     refine w_iconst X434 hx (hb hby at_32) (v := (4 : Int32)) rfl (pc' := 33) rfl ?_
     refine w_iand X434 hx (hb hby at_33) (pc' := 34) rfl ?_
     suffices key440 : Runs p e below (EndN s (Q_law Z p0 p1 p2 G_ZERO G_COMPACT_STRINGS h0 n0) room_1.cells room_1.slots) (T434.setTop (mkF m 42 #[.val (.int p0), .val (.int p1), .val (.int p2), .val (.ref r_292), .val (.ref r_434), .unset, .unset, .unset, .unset, .unset] [(.int (if (p0 &&& (4 : Int32)) = (0 : Int32) then (0 : Int32) else (1 : Int32)))])) by
      by_cases hc439 : (p0 &&& (4 : Int32)) = (0 : Int32)
      · rw [if_pos hc439] at key440
        refine w_ifY X434 hx (hb hby at_34) (teq hc439).1 (pc' := 41) (by decide) (by decide) ?_
        refine w_iconst X434 hx (hb hby at_41) (v := (0 : Int32)) rfl (pc' := 42) rfl ?_
        exact key440
      · rw [if_neg hc439] at key440
        refine w_ifN X434 hx (hb hby at_34) (feq hc439).1 (pc' := 37) rfl ?_
        refine w_iconst X434 hx (hb hby at_37) (v := (1 : Int32)) rfl (pc' := 38) rfl ?_
        refine w_goto X434 hx (hb hby at_38) (pc' := 42) (by decide) (by decide) ?_
        exact key440
     refine w_istore X434 hx (hb hby at_42) (L' := #[.val (.int p0), .val (.int p1), .val (.int p2), .val (.ref r_292), .val (.ref r_434), .val (.int (if (p0 &&& (4 : Int32)) = (0 : Int32) then (0 : Int32) else (1 : Int32))), .unset, .unset, .unset, .unset]) rfl (pc' := 44) rfl ?_
     refine w_new X434 hx hZ hown (wd_0 hw) (wd_1 hw) (wd_2 hw) rfl (hb hby at_44) (by decide) (by decide) (pc' := 47) rfl ?_
     intro T441 h441 b441 X441 e441 E441 g441 A441 D441
     have le443 : h0.size ≤ T434.heap.size := (Nat.le_trans K292.1 K434.1)
     have ge442 : n0 ≤ b441 := Nat.le_trans (Nat.le_trans Z0 le443) (Nat.le_of_eq g441.symm)
     have sz444 : h0.size ≤ b441 := Nat.le_trans le443 (Nat.le_of_eq g441.symm)
     have K445 : Keep h0 h441 [] := K436.ext E441
     have f446 : Fld Z h441 b441 kc0 "open" "Ljava/math/BigDecimal;" .null := D441 (Or.inl (wd_12 hw)) (ty := (.object kc1)) (by decide)
     have f447 : Fld Z h441 b441 kc0 "downside" "Ljava/math/BigDecimal;" .null := D441 (Or.inl (wd_14 hw)) (ty := (.object kc1)) (by decide)
     have f448 : Fld Z h441 b441 kc0 "upside" "Ljava/math/BigDecimal;" .null := D441 (Or.inl (wd_16 hw)) (ty := (.object kc1)) (by decide)
     have f449 : Fld Z h441 b441 kc0 "exposure" "Ljava/math/BigDecimal;" .null := D441 (Or.inl (wd_18 hw)) (ty := (.object kc1)) (by decide)
     have f450 : Fld Z h441 b441 kc0 "pool" "Lcom/example/ringfence/ringfence/gate/Pool;" .null := D441 (Or.inr (wd_20 hw)) (ty := (.object kc3)) (by decide)
     have f451 : Fld Z h441 b441 kc0 "unrated" "Ljava/lang/String;" .null := D441 (Or.inl (wd_27 hw)) (ty := (.object kc2)) (by decide)
     refine w_dup X441 hx (hb hby at_47) rfl (pc' := 48) rfl ?_
     refine w_null X441 hx (hb hby at_48) (pc' := 49) rfl ?_
     have f452 : Old Z n0 h441 := ((f433.keep K434 all0).ext E441)
     have le453 : h0.size ≤ h441.size := (Nat.le_trans le443 E441.1)
     refine w_special X441 hx (y := yn_1) rfl hown (mvT hZ (wd_3 hw)) (mvT hZ (wd_4 hw)) (mvT hZ (wd_5 hw)) (by decide) (backOf (W := 1) (rm_m1_5 l Z aZ hw [] b441 G_ZERO h441 n0 (Nat.le_trans Z0 le453) S_ZERO f452 A441 f446 ge442 f447 f448 f449 f450 f451) hZ (wd_5 hw) (wd_2 hw) (by decide) (by decide)) (by rw [hml]; rfl) [.null] (lenOf pd_5 rfl) rfl (Nat.le_of_eq rfl) (hb hby at_49) (fun _ _ => ⟨rfl, e441, (by decide : 7 + 0 ≤ _), (by decide : 22 + 0 ≤ _)⟩) (pc' := 52) rfl ?_
     rintro _ _ ⟨T454, L454, k454, n454⟩ X454 ⟨Lc454, hQ454, l454, y454, z454⟩
     dsimp only [Pt.U, Pt.locs, Pt.cells, Pt.slots] at X454 l454 y454 z454 hQ454 ⊢
     subst l454 y454 z454
     obtain ⟨rfl, N454q, K454, g454_0, g454_1, g454_2, g454_3, g454_4, g454_5, g454_6⟩ := hQ454
     have N455 := Fr.app N435 N454q
     have K456 : Keep h0 T454.heap [] := K445.trans K454 (allS (Or.inr sz444) (all0 (P := fun x => x ∈ [] ∨ h0.size ≤ x)))
     show Runs _ _ _ _ (T454.setTop (mkF m 52 #[.val (.int p0), .val (.int p1), .val (.int p2), .val (.ref r_292), .val (.ref r_434), .val (.int (if (p0 &&& (4 : Int32)) = (0 : Int32) then (0 : Int32) else (1 : Int32))), .unset, .unset, .unset, .unset] [(.ref b441)]))
     refine w_astore X454 hx (hb hby at_52) rfl (L' := #[.val (.int p0), .val (.int p1), .val (.int p2), .val (.ref r_292), .val (.ref r_434), .val (.int (if (p0 &&& (4 : Int32)) = (0 : Int32) then (0 : Int32) else (1 : Int32))), .val (.ref b441), .unset, .unset, .unset]) rfl (pc' := 54) rfl ?_
     refine w_iload X454 hx (hb hby at_54) rfl (pc' := 56) rfl ?_
     by_cases hc457 : (p0 &&& (4 : Int32)) = (0 : Int32)
     · have v458 : (if (p0 &&& (4 : Int32)) = (0 : Int32) then (0 : Int32) else (1 : Int32)) = (0 : Int32) := if_pos hc457
       refine w_ifY X454 hx (hb hby at_56) (teq (v458.trans (by decide))).1 (pc' := 64) (by decide) (by decide) ?_
       refine w_new X454 hx hZ hown (wd_0 hw) (wd_1 hw) (wd_2 hw) rfl (hb hby at_64) (by decide) (by decide) (pc' := 67) rfl ?_
       intro T459 h459 b459 X459 e459 E459 g459 A459 D459
       have le461 : h0.size ≤ T454.heap.size := (Nat.le_trans le453 K454.1)
       have ge460 : n0 ≤ b459 := Nat.le_trans (Nat.le_trans Z0 le461) (Nat.le_of_eq g459.symm)
       have sz462 : h0.size ≤ b459 := Nat.le_trans le461 (Nat.le_of_eq g459.symm)
       have K463 : Keep h0 h459 [] := K456.ext E459
       have f464 : Fld Z h459 b459 kc0 "open" "Ljava/math/BigDecimal;" .null := D459 (Or.inl (wd_12 hw)) (ty := (.object kc1)) (by decide)
       have f465 : Fld Z h459 b459 kc0 "downside" "Ljava/math/BigDecimal;" .null := D459 (Or.inl (wd_14 hw)) (ty := (.object kc1)) (by decide)
       have f466 : Fld Z h459 b459 kc0 "upside" "Ljava/math/BigDecimal;" .null := D459 (Or.inl (wd_16 hw)) (ty := (.object kc1)) (by decide)
       have f467 : Fld Z h459 b459 kc0 "exposure" "Ljava/math/BigDecimal;" .null := D459 (Or.inl (wd_18 hw)) (ty := (.object kc1)) (by decide)
       have f468 : Fld Z h459 b459 kc0 "pool" "Lcom/example/ringfence/ringfence/gate/Pool;" .null := D459 (Or.inr (wd_20 hw)) (ty := (.object kc3)) (by decide)
       have f469 : Fld Z h459 b459 kc0 "unrated" "Ljava/lang/String;" .null := D459 (Or.inl (wd_27 hw)) (ty := (.object kc2)) (by decide)
       refine w_dup X459 hx (hb hby at_67) rfl (pc' := 68) rfl ?_
       refine w_null X459 hx (hb hby at_68) (pc' := 69) rfl ?_
       have f470 : Old Z n0 h459 := ((f452.keep K454 (allS ge442 all0)).ext E459)
       have le471 : h0.size ≤ h459.size := (Nat.le_trans le461 E459.1)
       refine w_special X459 hx (y := yn_1) rfl hown (mvT hZ (wd_3 hw)) (mvT hZ (wd_4 hw)) (mvT hZ (wd_5 hw)) (by decide) (backOf (W := 1) (rm_m1_5 l Z aZ hw [] b459 G_ZERO h459 n0 (Nat.le_trans Z0 le471) S_ZERO f470 A459 f464 ge460 f465 f466 f467 f468 f469) hZ (wd_5 hw) (wd_2 hw) (by decide) (by decide)) (by rw [hml]; rfl) [.null] (lenOf pd_5 rfl) rfl (Nat.le_of_eq rfl) (hb hby at_69) (fun _ _ => ⟨rfl, e459, (by decide : 8 + 0 ≤ _), (by decide : 28 + 0 ≤ _)⟩) (pc' := 72) rfl ?_
       rintro _ _ ⟨T472, L472, k472, n472⟩ X472 ⟨Lc472, hQ472, l472, y472, z472⟩
       dsimp only [Pt.U, Pt.locs, Pt.cells, Pt.slots] at X472 l472 y472 z472 hQ472 ⊢
       subst l472 y472 z472
       obtain ⟨rfl, N472q, K472, g472_0, g472_1, g472_2, g472_3, g472_4, g472_5, g472_6⟩ := hQ472
       have N473 := Fr.app N455 N472q
       have K474 : Keep h0 T472.heap [] := K463.trans K472 (allS (Or.inr sz462) (all0 (P := fun x => x ∈ [] ∨ h0.size ≤ x)))
       show Runs _ _ _ _ (T472.setTop (mkF m 72 #[.val (.int p0), .val (.int p1), .val (.int p2), .val (.ref r_292), .val (.ref r_434), .val (.int (if (p0 &&& (4 : Int32)) = (0 : Int32) then (0 : Int32) else (1 : Int32))), .val (.ref b441), .unset, .unset, .unset] [(.ref b459)]))
       refine w_astore X472 hx (hb hby at_72) rfl (L' := #[.val (.int p0), .val (.int p1), .val (.int p2), .val (.ref r_292), .val (.ref r_434), .val (.int (if (p0 &&& (4 : Int32)) = (0 : Int32) then (0 : Int32) else (1 : Int32))), .val (.ref b441), .val (.ref b459), .unset, .unset]) rfl (pc' := 74) rfl ?_
       refine w_aload X472 hx (hb hby at_74) rfl rfl (pc' := 76) rfl ?_
       refine w_aloadN X472 hx (hb hby at_76) rfl rfl (pc' := 77) rfl ?_
       have f475 : Exa Z T472.heap b441 kc0 := ((g454_0.ext E459).keep K472)
       have ne476 : b441 ≠ b459 := (Nat.ne_of_lt (Nat.lt_of_lt_of_le A441.lt (Nat.le_trans K454.1 (Nat.le_of_eq g459.symm))))
       have f477 : Fld Z T472.heap b441 kc0 "unrated" "Ljava/lang/String;" .null := ((g454_6.ext E459).keep K472 (ninS ne476 nin0))
       have f478 : Fld Z T472.heap b441 kc0 "open" "Ljava/math/BigDecimal;" (.ref G_ZERO) := ((g454_1.ext E459).keep K472 (ninS ne476 nin0))
       have f479 : Fld Z T472.heap b441 kc0 "downside" "Ljava/math/BigDecimal;" (.ref G_ZERO) := ((g454_2.ext E459).keep K472 (ninS ne476 nin0))
       have f480 : Fld Z T472.heap b441 kc0 "upside" "Ljava/math/BigDecimal;" (.ref G_ZERO) := ((g454_3.ext E459).keep K472 (ninS ne476 nin0))
       have f481 : Fld Z T472.heap b441 kc0 "exposure" "Ljava/math/BigDecimal;" (.ref G_ZERO) := ((g454_4.ext E459).keep K472 (ninS ne476 nin0))
       have f482 : Fld Z T472.heap b441 kc0 "pool" "Lcom/example/ringfence/ringfence/gate/Pool;" .null := ((g454_5.ext E459).keep K472 (ninS ne476 nin0))
       have le483 : h0.size ≤ T472.heap.size := (Nat.le_trans le471 K472.1)
       obtain ⟨cq484, kq484, q484a, q484b, q484c⟩ := isOf hZ rfl f475
       refine w_virtual X472 hx (y := yn_3) (z := yn_3) hown (mvT hZ (wd_21 hw)) (mvT hZ (wd_22 hw)) (notFace_of_selects (args := #[]) (mvT hZ (wd_24 hw))) (mvT hZ (wd_24 hw)) (mvT hZ (wd_23 hw)) (by decide) (backOf (W := 0) (rm_m3_11 l Z aZ hw [] b441 r_292 G_ZERO T472.heap n0 (Nat.le_trans Z0 le483) f475 f477 ge442 f478 f479 f480 f481 f482) hZ (wd_25 hw) (wd_2 hw) (by decide) (by decide)) q484a q484c (by rw [hml]; rfl) [(.ref r_292)] (lenOf pd_6 rfl) rfl (Nat.le_of_eq rfl) (hb hby at_77) (fun _ _ => ⟨rfl, rfl, (by decide : 8 + 0 ≤ _), (by decide : 28 + 0 ≤ _)⟩) (pc' := 80) rfl ?_
       rintro _ _ ⟨T484, L484, k484, n484⟩ X484 ⟨Lc484, hQ484, l484, y484, z484⟩
       dsimp only [Pt.U, Pt.locs, Pt.cells, Pt.slots] at X484 l484 y484 z484 hQ484 ⊢
       subst l484 y484 z484
       obtain ⟨rfl, N484q, K484, g484_0, g484_1, g484_2, g484_3, g484_4, g484_5, g484_6⟩ := hQ484
       have N485 := Fr.app N473 N484q
       have K486 : Keep h0 T484.heap [] := K474.trans K484 (allS (Or.inr sz444) (all0 (P := fun x => x ∈ [] ∨ h0.size ≤ x)))
       show Runs _ _ _ _ (T484.setTop (mkF m 80 #[.val (.int p0), .val (.int p1), .val (.int p2), .val (.ref r_292), .val (.ref r_434), .val (.int (if (p0 &&& (4 : Int32)) = (0 : Int32) then (0 : Int32) else (1 : Int32))), .val (.ref b441), .val (.ref b459), .unset, .unset] []))
       refine w_iload X484 hx (hb hby at_80) rfl (pc' := 82) rfl ?_
       have v487 : (if (p0 &&& (4 : Int32)) = (0 : Int32) then (0 : Int32) else (1 : Int32)) = (0 : Int32) := if_pos hc457
       refine w_ifN X484 hx (hb hby at_82) (teq (v487.trans (by decide))).2 (pc' := 85) rfl ?_
       refine w_aload X484 hx (hb hby at_85) rfl rfl (pc' := 87) rfl ?_
       refine w_aload X484 hx (hb hby at_87) rfl rfl (pc' := 89) rfl ?_
       have f488 : Exa Z T484.heap b459 kc0 := (g472_0.keep K484)
       have f489 : Fld Z T484.heap b459 kc0 "unrated" "Ljava/lang/String;" .null := (g472_6.keep K484 (ninS (Ne.symm ne476) nin0))
       have f490 : Fld Z T484.heap b459 kc0 "open" "Ljava/math/BigDecimal;" (.ref G_ZERO) := (g472_1.keep K484 (ninS (Ne.symm ne476) nin0))
       have f491 : Fld Z T484.heap b459 kc0 "downside" "Ljava/math/BigDecimal;" (.ref G_ZERO) := (g472_2.keep K484 (ninS (Ne.symm ne476) nin0))
       have f492 : Fld Z T484.heap b459 kc0 "upside" "Ljava/math/BigDecimal;" (.ref G_ZERO) := (g472_3.keep K484 (ninS (Ne.symm ne476) nin0))
       have f493 : Fld Z T484.heap b459 kc0 "exposure" "Ljava/math/BigDecimal;" (.ref G_ZERO) := (g472_4.keep K484 (ninS (Ne.symm ne476) nin0))
       have f494 : Fld Z T484.heap b459 kc0 "pool" "Lcom/example/ringfence/ringfence/gate/Pool;" .null := (g472_5.keep K484 (ninS (Ne.symm ne476) nin0))
       have le495 : h0.size ≤ T484.heap.size := (Nat.le_trans le483 K484.1)
       obtain ⟨cq496, kq496, q496a, q496b, q496c⟩ := isOf hZ rfl f488
       refine w_virtual X484 hx (y := yn_3) (z := yn_3) hown (mvT hZ (wd_21 hw)) (mvT hZ (wd_22 hw)) (notFace_of_selects (args := #[]) (mvT hZ (wd_24 hw))) (mvT hZ (wd_24 hw)) (mvT hZ (wd_23 hw)) (by decide) (backOf (W := 0) (rm_m3_11 l Z aZ hw [] b459 r_434 G_ZERO T484.heap n0 (Nat.le_trans Z0 le495) f488 f489 ge460 f490 f491 f492 f493 f494) hZ (wd_25 hw) (wd_2 hw) (by decide) (by decide)) q496a q496c (by rw [hml]; rfl) [(.ref r_434)] (lenOf pd_6 rfl) rfl (Nat.le_of_eq rfl) (hb hby at_89) (fun _ _ => ⟨rfl, rfl, (by decide : 8 + 0 ≤ _), (by decide : 28 + 0 ≤ _)⟩) (pc' := 92) rfl ?_
       rintro _ _ ⟨T496, L496, k496, n496⟩ X496 ⟨Lc496, hQ496, l496, y496, z496⟩
       dsimp only [Pt.U, Pt.locs, Pt.cells, Pt.slots] at X496 l496 y496 z496 hQ496 ⊢
       subst l496 y496 z496
       obtain ⟨rfl, N496q, K496, g496_0, g496_1, g496_2, g496_3, g496_4, g496_5, g496_6⟩ := hQ496
       have N497 := Fr.app N485 N496q
       have K498 : Keep h0 T496.heap [] := K486.trans K496 (allS (Or.inr sz462) (all0 (P := fun x => x ∈ [] ∨ h0.size ≤ x)))
       show Runs _ _ _ _ (T496.setTop (mkF m 92 #[.val (.int p0), .val (.int p1), .val (.int p2), .val (.ref r_292), .val (.ref r_434), .val (.int (if (p0 &&& (4 : Int32)) = (0 : Int32) then (0 : Int32) else (1 : Int32))), .val (.ref b441), .val (.ref b459), .unset, .unset] []))
       refine w_iload X496 hx (hb hby at_92) rfl (pc' := 94) rfl ?_
       have v499 : (if (p0 &&& (4 : Int32)) = (0 : Int32) then (0 : Int32) else (1 : Int32)) = (0 : Int32) := if_pos hc457
       refine w_ifY X496 hx (hb hby at_94) (teq (v499.trans (by decide))).1 (pc' := 101) (by decide) (by decide) ?_
       refine w_aload X496 hx (hb hby at_101) rfl rfl (pc' := 103) rfl ?_
       refine w_astore X496 hx (hb hby at_103) rfl (L' := #[.val (.int p0), .val (.int p1), .val (.int p2), .val (.ref r_292), .val (.ref r_434), .val (.int (if (p0 &&& (4 : Int32)) = (0 : Int32) then (0 : Int32) else (1 : Int32))), .val (.ref b441), .val (.ref b459), .val (.ref r_434), .unset]) rfl (pc' := 105) rfl ?_
       refine w_aload X496 hx (hb hby at_105) rfl rfl (pc' := 107) rfl ?_
       refine w_aload X496 hx (hb hby at_107) rfl rfl (pc' := 109) rfl ?_
       have f502 : Exa Z T496.heap b441 kc0 := (g484_0.keep K496)
       have f503 : Fld Z T496.heap b441 kc0 "unrated" "Ljava/lang/String;" (.ref r_292) := (g484_1.keep K496 (ninS ne476 nin0))
       have f504 : Fld Z T496.heap b441 kc0 "open" "Ljava/math/BigDecimal;" (.ref G_ZERO) := (g484_2.keep K496 (ninS ne476 nin0))
       have f505 : Fld Z T496.heap b441 kc0 "downside" "Ljava/math/BigDecimal;" (.ref G_ZERO) := (g484_3.keep K496 (ninS ne476 nin0))
       have f506 : Fld Z T496.heap b441 kc0 "upside" "Ljava/math/BigDecimal;" (.ref G_ZERO) := (g484_4.keep K496 (ninS ne476 nin0))
       have f507 : Fld Z T496.heap b441 kc0 "exposure" "Ljava/math/BigDecimal;" (.ref G_ZERO) := (g484_5.keep K496 (ninS ne476 nin0))
       have f508 : Fld Z T496.heap b441 kc0 "pool" "Lcom/example/ringfence/ringfence/gate/Pool;" .null := (g484_6.keep K496 (ninS ne476 nin0))
       have le509 : h0.size ≤ T496.heap.size := (Nat.le_trans le495 K496.1)
       obtain ⟨cq510, kq510, q510a, q510b, q510c⟩ := isOf hZ rfl f502
       refine w_virtual X496 hx (y := yn_4) (z := yn_4) hown (mvT hZ (wd_28 hw)) (mvT hZ (wd_29 hw)) (notFace_of_selects (args := #[]) (mvT hZ (wd_31 hw))) (mvT hZ (wd_31 hw)) (mvT hZ (wd_30 hw)) (by decide) (backOf (W := 0) (rm_m4_19 l Z aZ hw [] b441 b459 r_434 r_292 G_ZERO T496.heap n0 (Nat.le_trans Z0 le509) g496_1 f502 f503 ge442 g496_2 (Ne.symm ne476) f504 g496_3 f505 g496_4 f506 g496_5 f507 f508) hZ (wd_32 hw) (wd_2 hw) (by decide) (by decide)) q510a q510c (by rw [hml]; rfl) [(.ref b459)] (lenOf pd_7 rfl) rfl (Nat.le_of_eq rfl) (hb hby at_109) (fun _ _ => ⟨rfl, rfl, (by decide : 8 + 0 ≤ _), (by decide : 28 + 0 ≤ _)⟩) (pc' := 112) rfl ?_
       rintro _ _ ⟨T510, L510, k510, n510⟩ X510 ⟨Lc510, hQ510, l510, y510, z510⟩
       dsimp only [Pt.U, Pt.locs, Pt.cells, Pt.slots] at X510 l510 y510 z510 hQ510 ⊢
       subst l510 y510 z510
       obtain ⟨rfl, N510q, K510, g510_0, g510_1, g510_2, g510_3, g510_4, g510_5, g510_6⟩ := hQ510
       have N511 := Fr.app N497 N510q
       have K512 : Keep h0 T510.heap [] := K498.trans K510 (allS (Or.inr sz444) (all0 (P := fun x => x ∈ [] ∨ h0.size ≤ x)))
       show Runs _ _ _ _ (T510.setTop (mkF m 112 #[.val (.int p0), .val (.int p1), .val (.int p2), .val (.ref r_292), .val (.ref r_434), .val (.int (if (p0 &&& (4 : Int32)) = (0 : Int32) then (0 : Int32) else (1 : Int32))), .val (.ref b441), .val (.ref b459), .val (.ref r_434), .unset] []))
       refine w_aload X510 hx (hb hby at_112) rfl rfl (pc' := 114) rfl ?_
       have le513 : h0.size ≤ T510.heap.size := (Nat.le_trans le509 K510.1)
       obtain ⟨cq514, kq514, q514a, q514b, q514c⟩ := isOf hZ rfl g510_0
       refine w_virtual X510 hx (y := yn_5) (z := yn_5) hown (mvT hZ (wd_33 hw)) (mvT hZ (wd_34 hw)) (notFace_of_selects (args := #[]) (mvT hZ (wd_36 hw))) (mvT hZ (wd_36 hw)) (mvT hZ (wd_35 hw)) (by decide) (backOf (W := 0) (rm_m5_13 l Z aZ hw [] b441 r_434 T510.heap n0 (Nat.le_trans Z0 le513) g510_1) hZ (wd_37 hw) (wd_2 hw) (by decide) (by decide)) q514a q514c (by rw [hml]; rfl) [] (lenOf pd_8 rfl) rfl (Nat.le_of_eq rfl) (hb hby at_114) (fun _ _ => ⟨rfl, rfl, (by decide : 8 + 0 ≤ _), (by decide : 28 + 0 ≤ _)⟩) (pc' := 117) rfl ?_
       rintro _ _ ⟨T514, L514, k514, n514⟩ X514 ⟨Lc514, hQ514, l514, y514, z514⟩
       dsimp only [Pt.U, Pt.locs, Pt.cells, Pt.slots] at X514 l514 y514 z514 hQ514 ⊢
       subst l514 y514 z514
       obtain ⟨rfl, N514q, e514⟩ := hQ514
       have N515 := Fr.app N511 N514q
       show Runs _ _ _ _ (T514.setTop (mkF m 117 #[.val (.int p0), .val (.int p1), .val (.int p2), .val (.ref r_292), .val (.ref r_434), .val (.int (if (p0 &&& (4 : Int32)) = (0 : Int32) then (0 : Int32) else (1 : Int32))), .val (.ref b441), .val (.ref b459), .val (.ref r_434), .unset] [(.ref r_434)]))
       refine w_aload X514 hx (hb hby at_117) rfl rfl (pc' := 119) rfl ?_
       have f516 : Exa Z T510.heap r_434 kc2 := (((((((g434_1.ext E441).keep K454).ext E459).keep K472).keep K484).keep K496).keep K510)
       refine w_static X514 hx (y := yn_6) hown (mvT hZ (wd_38 hw)) (mvT hZ (wd_39 hw)) (mvT hZ (wd_40 hw)) (mvT hZ (wd_41 hw)) (by decide) (backOf (W := 0) (rm_m6_14 l Z aZ hw [] r_434 T510.heap n0 (Nat.le_trans Z0 le513) f516) hZ (wd_41 hw) (wd_40 hw) (by decide) (by decide)) (by rw [hml]; rfl) [(.ref r_434), (.ref r_434)] (lenOf pd_9 rfl) rfl (Nat.le_of_eq rfl) (hb hby at_119) (fun _ _ => ⟨rfl, e514, (by decide : 8 + 0 ≤ _), (by decide : 28 + 0 ≤ _)⟩) (pc' := 122) rfl ?_
       rintro _ _ ⟨T517, L517, k517, n517⟩ X517 ⟨Lc517, hQ517, l517, y517, z517⟩
       dsimp only [Pt.U, Pt.locs, Pt.cells, Pt.slots] at X517 l517 y517 z517 hQ517 ⊢
       subst l517 y517 z517
       obtain ⟨rfl, N517q, e517⟩ := hQ517
       have N518 := Fr.app N515 N517q
       show Runs _ _ _ _ (T517.setTop (mkF m 122 #[.val (.int p0), .val (.int p1), .val (.int p2), .val (.ref r_292), .val (.ref r_434), .val (.int (if (p0 &&& (4 : Int32)) = (0 : Int32) then (0 : Int32) else (1 : Int32))), .val (.ref b441), .val (.ref b459), .val (.ref r_434), .unset] [(.int (1 : Int32))]))
       refine w_ifN X517 hx (hb hby at_122) (feq (by decide : ¬ ((1 : Int32) = (0 : Int32)))).1 (pc' := 125) rfl ?_
       refine w_aload X517 hx (hb hby at_125) rfl rfl (pc' := 127) rfl ?_
       have f519 : Fld Z T510.heap b459 kc0 "unrated" "Ljava/lang/String;" (.ref r_434) := (g496_1.keep K510 (ninS (Ne.symm ne476) nin0))
       have f521 : Exa Z T510.heap b459 kc0 := (g496_0.keep K510)
       obtain ⟨cq520, kq520, q520a, q520b, q520c⟩ := isOf hZ e517 f521
       refine w_virtual X517 hx (y := yn_5) (z := yn_5) hown (mvT hZ (wd_33 hw)) (mvT hZ (wd_34 hw)) (notFace_of_selects (args := #[]) (mvT hZ (wd_36 hw))) (mvT hZ (wd_36 hw)) (mvT hZ (wd_35 hw)) (by decide) (backOf (W := 0) (rm_m5_13 l Z aZ hw [] b459 r_434 T510.heap n0 (Nat.le_trans Z0 le513) f519) hZ (wd_37 hw) (wd_2 hw) (by decide) (by decide)) q520a q520c (by rw [hml]; rfl) [] (lenOf pd_8 rfl) rfl (Nat.le_of_eq rfl) (hb hby at_127) (fun _ _ => ⟨rfl, e517, (by decide : 8 + 0 ≤ _), (by decide : 28 + 0 ≤ _)⟩) (pc' := 130) rfl ?_
       rintro _ _ ⟨T520, L520, k520, n520⟩ X520 ⟨Lc520, hQ520, l520, y520, z520⟩
       dsimp only [Pt.U, Pt.locs, Pt.cells, Pt.slots] at X520 l520 y520 z520 hQ520 ⊢
       subst l520 y520 z520
       obtain ⟨rfl, N520q, e520⟩ := hQ520
       have N522 := Fr.app N518 N520q
       show Runs _ _ _ _ (T520.setTop (mkF m 130 #[.val (.int p0), .val (.int p1), .val (.int p2), .val (.ref r_292), .val (.ref r_434), .val (.int (if (p0 &&& (4 : Int32)) = (0 : Int32) then (0 : Int32) else (1 : Int32))), .val (.ref b441), .val (.ref b459), .val (.ref r_434), .unset] [(.ref r_434)]))
       refine w_aload X520 hx (hb hby at_130) rfl rfl (pc' := 132) rfl ?_
       refine w_static X520 hx (y := yn_6) hown (mvT hZ (wd_38 hw)) (mvT hZ (wd_39 hw)) (mvT hZ (wd_40 hw)) (mvT hZ (wd_41 hw)) (by decide) (backOf (W := 0) (rm_m6_14 l Z aZ hw [] r_434 T510.heap n0 (Nat.le_trans Z0 le513) f516) hZ (wd_41 hw) (wd_40 hw) (by decide) (by decide)) (by rw [hml]; rfl) [(.ref r_434), (.ref r_434)] (lenOf pd_9 rfl) rfl (Nat.le_of_eq rfl) (hb hby at_132) (fun _ _ => ⟨rfl, e520, (by decide : 8 + 0 ≤ _), (by decide : 28 + 0 ≤ _)⟩) (pc' := 135) rfl ?_
       rintro _ _ ⟨T523, L523, k523, n523⟩ X523 ⟨Lc523, hQ523, l523, y523, z523⟩
       dsimp only [Pt.U, Pt.locs, Pt.cells, Pt.slots] at X523 l523 y523 z523 hQ523 ⊢
       subst l523 y523 z523
       obtain ⟨rfl, N523q, e523⟩ := hQ523
       have N524 := Fr.app N522 N523q
       show Runs _ _ _ _ (T523.setTop (mkF m 135 #[.val (.int p0), .val (.int p1), .val (.int p2), .val (.ref r_292), .val (.ref r_434), .val (.int (if (p0 &&& (4 : Int32)) = (0 : Int32) then (0 : Int32) else (1 : Int32))), .val (.ref b441), .val (.ref b459), .val (.ref r_434), .unset] [(.int (1 : Int32))]))
       refine w_ifN X523 hx (hb hby at_135) (feq (by decide : ¬ ((1 : Int32) = (0 : Int32)))).1 (pc' := 138) rfl ?_
       refine w_iconst X523 hx (hb hby at_138) (v := (1 : Int32)) rfl (pc' := 139) rfl ?_
       refine w_goto X523 hx (hb hby at_139) (pc' := 143) (by decide) (by decide) ?_
       refine w_istore X523 hx (hb hby at_143) (L' := #[.val (.int p0), .val (.int p1), .val (.int p2), .val (.ref r_292), .val (.ref r_434), .val (.int (if (p0 &&& (4 : Int32)) = (0 : Int32) then (0 : Int32) else (1 : Int32))), .val (.ref b441), .val (.ref b459), .val (.ref r_434), .val (.int (1 : Int32))]) rfl (pc' := 145) rfl ?_
       refine w_aload X523 hx (hb hby at_145) rfl rfl (pc' := 147) rfl ?_
       refine w_aload X523 hx (hb hby at_147) rfl rfl (pc' := 149) rfl ?_
       have f525 : Fld Z T510.heap b459 kc0 "open" "Ljava/math/BigDecimal;" (.ref G_ZERO) := (g496_2.keep K510 (ninS (Ne.symm ne476) nin0))
       have f526 : Fld Z T510.heap b459 kc0 "downside" "Ljava/math/BigDecimal;" (.ref G_ZERO) := (g496_3.keep K510 (ninS (Ne.symm ne476) nin0))
       have f527 : Fld Z T510.heap b459 kc0 "upside" "Ljava/math/BigDecimal;" (.ref G_ZERO) := (g496_4.keep K510 (ninS (Ne.symm ne476) nin0))
       have f528 : Fld Z T510.heap b459 kc0 "exposure" "Ljava/math/BigDecimal;" (.ref G_ZERO) := (g496_5.keep K510 (ninS (Ne.symm ne476) nin0))
       obtain ⟨cq529, kq529, q529a, q529b, q529c⟩ := isOf hZ e523 g510_0
       refine w_virtual X523 hx (y := yn_4) (z := yn_4) hown (mvT hZ (wd_28 hw)) (mvT hZ (wd_29 hw)) (notFace_of_selects (args := #[]) (mvT hZ (wd_31 hw))) (mvT hZ (wd_31 hw)) (mvT hZ (wd_30 hw)) (by decide) (backOf (W := 0) (rm_m4_16 l Z aZ hw [] b441 b459 r_434 G_ZERO T510.heap n0 (Nat.le_trans Z0 le513) f519 g510_0 g510_1 ge442 f525 (Ne.symm ne476) g510_2 f526 g510_3 f527 g510_4 f528 g510_5 g510_6) hZ (wd_32 hw) (wd_2 hw) (by decide) (by decide)) q529a q529c (by rw [hml]; rfl) [(.ref b459)] (lenOf pd_7 rfl) rfl (Nat.le_of_eq rfl) (hb hby at_149) (fun _ _ => ⟨rfl, e523, (by decide : 8 + 0 ≤ _), (by decide : 28 + 0 ≤ _)⟩) (pc' := 152) rfl ?_
       rintro _ _ ⟨T529, L529, k529, n529⟩ X529 ⟨Lc529, hQ529, l529, y529, z529⟩
       dsimp only [Pt.U, Pt.locs, Pt.cells, Pt.slots] at X529 l529 y529 z529 hQ529 ⊢
       subst l529 y529 z529
       obtain ⟨rfl, N529q, K529, g529_0, g529_1, g529_2, g529_3, g529_4, g529_5, g529_6⟩ := hQ529
       have N530 := Fr.app N524 N529q
       have K531 : Keep h0 T529.heap [] := K512.trans K529 (allS (Or.inr sz444) (all0 (P := fun x => x ∈ [] ∨ h0.size ≤ x)))
       show Runs _ _ _ _ (T529.setTop (mkF m 152 #[.val (.int p0), .val (.int p1), .val (.int p2), .val (.ref r_292), .val (.ref r_434), .val (.int (if (p0 &&& (4 : Int32)) = (0 : Int32) then (0 : Int32) else (1 : Int32))), .val (.ref b441), .val (.ref b459), .val (.ref r_434), .val (.int (1 : Int32))] []))
       refine w_iload X529 hx (hb hby at_152) rfl (pc' := 154) rfl ?_
       refine w_ifN X529 hx (hb hby at_154) (feq (by decide : ¬ ((1 : Int32) = (0 : Int32)))).1 (pc' := 157) rfl ?_
       refine w_aload X529 hx (hb hby at_157) rfl rfl (pc' := 159) rfl ?_
       have le532 : h0.size ≤ T529.heap.size := (Nat.le_trans le513 K529.1)
       obtain ⟨cq533, kq533, q533a, q533b, q533c⟩ := isOf hZ rfl g529_0
       refine w_virtual X529 hx (y := yn_5) (z := yn_5) hown (mvT hZ (wd_33 hw)) (mvT hZ (wd_34 hw)) (notFace_of_selects (args := #[]) (mvT hZ (wd_36 hw))) (mvT hZ (wd_36 hw)) (mvT hZ (wd_35 hw)) (by decide) (backOf (W := 0) (rm_m5_13 l Z aZ hw [] b441 r_434 T529.heap n0 (Nat.le_trans Z0 le532) g529_1) hZ (wd_37 hw) (wd_2 hw) (by decide) (by decide)) q533a q533c (by rw [hml]; rfl) [] (lenOf pd_8 rfl) rfl (Nat.le_of_eq rfl) (hb hby at_159) (fun _ _ => ⟨rfl, rfl, (by decide : 8 + 0 ≤ _), (by decide : 28 + 0 ≤ _)⟩) (pc' := 162) rfl ?_
       rintro _ _ ⟨T533, L533, k533, n533⟩ X533 ⟨Lc533, hQ533, l533, y533, z533⟩
       dsimp only [Pt.U, Pt.locs, Pt.cells, Pt.slots] at X533 l533 y533 z533 hQ533 ⊢
       subst l533 y533 z533
       obtain ⟨rfl, N533q, e533⟩ := hQ533
       have N534 := Fr.app N530 N533q
       show Runs _ _ _ _ (T533.setTop (mkF m 162 #[.val (.int p0), .val (.int p1), .val (.int p2), .val (.ref r_292), .val (.ref r_434), .val (.int (if (p0 &&& (4 : Int32)) = (0 : Int32) then (0 : Int32) else (1 : Int32))), .val (.ref b441), .val (.ref b459), .val (.ref r_434), .val (.int (1 : Int32))] [(.ref r_434)]))
       refine w_aload X533 hx (hb hby at_162) rfl rfl (pc' := 164) rfl ?_
       have f535 : Exa Z T529.heap r_434 kc2 := (f516.keep K529)
       refine w_static X533 hx (y := yn_6) hown (mvT hZ (wd_38 hw)) (mvT hZ (wd_39 hw)) (mvT hZ (wd_40 hw)) (mvT hZ (wd_41 hw)) (by decide) (backOf (W := 0) (rm_m6_14 l Z aZ hw [] r_434 T529.heap n0 (Nat.le_trans Z0 le532) f535) hZ (wd_41 hw) (wd_40 hw) (by decide) (by decide)) (by rw [hml]; rfl) [(.ref r_434), (.ref r_434)] (lenOf pd_9 rfl) rfl (Nat.le_of_eq rfl) (hb hby at_164) (fun _ _ => ⟨rfl, e533, (by decide : 8 + 0 ≤ _), (by decide : 28 + 0 ≤ _)⟩) (pc' := 167) rfl ?_
       rintro _ _ ⟨T536, L536, k536, n536⟩ X536 ⟨Lc536, hQ536, l536, y536, z536⟩
       dsimp only [Pt.U, Pt.locs, Pt.cells, Pt.slots] at X536 l536 y536 z536 hQ536 ⊢
       subst l536 y536 z536
       obtain ⟨rfl, N536q, e536⟩ := hQ536
       have N537 := Fr.app N534 N536q
       show Runs _ _ _ _ (T536.setTop (mkF m 167 #[.val (.int p0), .val (.int p1), .val (.int p2), .val (.ref r_292), .val (.ref r_434), .val (.int (if (p0 &&& (4 : Int32)) = (0 : Int32) then (0 : Int32) else (1 : Int32))), .val (.ref b441), .val (.ref b459), .val (.ref r_434), .val (.int (1 : Int32))] [(.int (1 : Int32))]))
       refine w_ifN X536 hx (hb hby at_167) (feq (by decide : ¬ ((1 : Int32) = (0 : Int32)))).1 (pc' := 170) rfl ?_
       refine w_aload X536 hx (hb hby at_170) rfl rfl (pc' := 172) rfl ?_
       have f538 : Fld Z T529.heap b459 kc0 "unrated" "Ljava/lang/String;" (.ref r_434) := (f519.keep K529 (ninS (Ne.symm ne476) nin0))
       have f540 : Exa Z T529.heap b459 kc0 := (f521.keep K529)
       obtain ⟨cq539, kq539, q539a, q539b, q539c⟩ := isOf hZ e536 f540
       refine w_virtual X536 hx (y := yn_5) (z := yn_5) hown (mvT hZ (wd_33 hw)) (mvT hZ (wd_34 hw)) (notFace_of_selects (args := #[]) (mvT hZ (wd_36 hw))) (mvT hZ (wd_36 hw)) (mvT hZ (wd_35 hw)) (by decide) (backOf (W := 0) (rm_m5_13 l Z aZ hw [] b459 r_434 T529.heap n0 (Nat.le_trans Z0 le532) f538) hZ (wd_37 hw) (wd_2 hw) (by decide) (by decide)) q539a q539c (by rw [hml]; rfl) [] (lenOf pd_8 rfl) rfl (Nat.le_of_eq rfl) (hb hby at_172) (fun _ _ => ⟨rfl, e536, (by decide : 8 + 0 ≤ _), (by decide : 28 + 0 ≤ _)⟩) (pc' := 175) rfl ?_
       rintro _ _ ⟨T539, L539, k539, n539⟩ X539 ⟨Lc539, hQ539, l539, y539, z539⟩
       dsimp only [Pt.U, Pt.locs, Pt.cells, Pt.slots] at X539 l539 y539 z539 hQ539 ⊢
       subst l539 y539 z539
       obtain ⟨rfl, N539q, e539⟩ := hQ539
       have N541 := Fr.app N537 N539q
       show Runs _ _ _ _ (T539.setTop (mkF m 175 #[.val (.int p0), .val (.int p1), .val (.int p2), .val (.ref r_292), .val (.ref r_434), .val (.int (if (p0 &&& (4 : Int32)) = (0 : Int32) then (0 : Int32) else (1 : Int32))), .val (.ref b441), .val (.ref b459), .val (.ref r_434), .val (.int (1 : Int32))] [(.ref r_434)]))
       refine w_aload X539 hx (hb hby at_175) rfl rfl (pc' := 177) rfl ?_
       refine w_static X539 hx (y := yn_6) hown (mvT hZ (wd_38 hw)) (mvT hZ (wd_39 hw)) (mvT hZ (wd_40 hw)) (mvT hZ (wd_41 hw)) (by decide) (backOf (W := 0) (rm_m6_14 l Z aZ hw [] r_434 T529.heap n0 (Nat.le_trans Z0 le532) f535) hZ (wd_41 hw) (wd_40 hw) (by decide) (by decide)) (by rw [hml]; rfl) [(.ref r_434), (.ref r_434)] (lenOf pd_9 rfl) rfl (Nat.le_of_eq rfl) (hb hby at_177) (fun _ _ => ⟨rfl, e539, (by decide : 8 + 0 ≤ _), (by decide : 28 + 0 ≤ _)⟩) (pc' := 180) rfl ?_
       rintro _ _ ⟨T542, L542, k542, n542⟩ X542 ⟨Lc542, hQ542, l542, y542, z542⟩
       dsimp only [Pt.U, Pt.locs, Pt.cells, Pt.slots] at X542 l542 y542 z542 hQ542 ⊢
       subst l542 y542 z542
       obtain ⟨rfl, N542q, e542⟩ := hQ542
       have N543 := Fr.app N541 N542q
       show Runs _ _ _ _ (T542.setTop (mkF m 180 #[.val (.int p0), .val (.int p1), .val (.int p2), .val (.ref r_292), .val (.ref r_434), .val (.int (if (p0 &&& (4 : Int32)) = (0 : Int32) then (0 : Int32) else (1 : Int32))), .val (.ref b441), .val (.ref b459), .val (.ref r_434), .val (.int (1 : Int32))] [(.int (1 : Int32))]))
       refine w_ifN X542 hx (hb hby at_180) (feq (by decide : ¬ ((1 : Int32) = (0 : Int32)))).1 (pc' := 183) rfl ?_
       refine w_iconst X542 hx (hb hby at_183) (v := (1 : Int32)) rfl (pc' := 184) rfl ?_
       refine w_goto X542 hx (hb hby at_184) (pc' := 188) (by decide) (by decide) ?_
       exact w_done X542 hlk (v := some (.int (1 : Int32))) e542 (fun h => by rw [hret] at h; cases h) (fun fs hr => retN X542 hx (t := .boolean) hret (by simp) (hb hby at_188) hr) (by decide) (by decide) (⟨rfl, N543⟩)
     · have v544 : (if (p0 &&& (4 : Int32)) = (0 : Int32) then (0 : Int32) else (1 : Int32)) = (1 : Int32) := if_neg hc457
       refine w_ifN X454 hx (hb hby at_56) (feq (fun q => absurd (v544.symm.trans q) (by decide))).1 (pc' := 59) rfl ?_
       refine w_aload X454 hx (hb hby at_59) rfl rfl (pc' := 61) rfl ?_
       refine w_goto X454 hx (hb hby at_61) (pc' := 72) (by decide) (by decide) ?_
       refine w_astore X454 hx (hb hby at_72) rfl (L' := #[.val (.int p0), .val (.int p1), .val (.int p2), .val (.ref r_292), .val (.ref r_434), .val (.int (if (p0 &&& (4 : Int32)) = (0 : Int32) then (0 : Int32) else (1 : Int32))), .val (.ref b441), .val (.ref b441), .unset, .unset]) rfl (pc' := 74) rfl ?_
       refine w_aload X454 hx (hb hby at_74) rfl rfl (pc' := 76) rfl ?_
       refine w_aloadN X454 hx (hb hby at_76) rfl rfl (pc' := 77) rfl ?_
       have le545 : h0.size ≤ T454.heap.size := (Nat.le_trans le453 K454.1)
       obtain ⟨cq546, kq546, q546a, q546b, q546c⟩ := isOf hZ rfl g454_0
       refine w_virtual X454 hx (y := yn_3) (z := yn_3) hown (mvT hZ (wd_21 hw)) (mvT hZ (wd_22 hw)) (notFace_of_selects (args := #[]) (mvT hZ (wd_24 hw))) (mvT hZ (wd_24 hw)) (mvT hZ (wd_23 hw)) (by decide) (backOf (W := 0) (rm_m3_11 l Z aZ hw [] b441 r_292 G_ZERO T454.heap n0 (Nat.le_trans Z0 le545) g454_0 g454_6 ge442 g454_1 g454_2 g454_3 g454_4 g454_5) hZ (wd_25 hw) (wd_2 hw) (by decide) (by decide)) q546a q546c (by rw [hml]; rfl) [(.ref r_292)] (lenOf pd_6 rfl) rfl (Nat.le_of_eq rfl) (hb hby at_77) (fun _ _ => ⟨rfl, rfl, (by decide : 7 + 0 ≤ _), (by decide : 22 + 0 ≤ _)⟩) (pc' := 80) rfl ?_
       rintro _ _ ⟨T546, L546, k546, n546⟩ X546 ⟨Lc546, hQ546, l546, y546, z546⟩
       dsimp only [Pt.U, Pt.locs, Pt.cells, Pt.slots] at X546 l546 y546 z546 hQ546 ⊢
       subst l546 y546 z546
       obtain ⟨rfl, N546q, K546, g546_0, g546_1, g546_2, g546_3, g546_4, g546_5, g546_6⟩ := hQ546
       have N547 := Fr.app N455 N546q
       have K548 : Keep h0 T546.heap [] := K456.trans K546 (allS (Or.inr sz444) (all0 (P := fun x => x ∈ [] ∨ h0.size ≤ x)))
       show Runs _ _ _ _ (T546.setTop (mkF m 80 #[.val (.int p0), .val (.int p1), .val (.int p2), .val (.ref r_292), .val (.ref r_434), .val (.int (if (p0 &&& (4 : Int32)) = (0 : Int32) then (0 : Int32) else (1 : Int32))), .val (.ref b441), .val (.ref b441), .unset, .unset] []))
       refine w_iload X546 hx (hb hby at_80) rfl (pc' := 82) rfl ?_
       have v549 : (if (p0 &&& (4 : Int32)) = (0 : Int32) then (0 : Int32) else (1 : Int32)) = (1 : Int32) := if_neg hc457
       refine w_ifY X546 hx (hb hby at_82) (feq (fun q => absurd (v549.symm.trans q) (by decide))).2 (pc' := 92) (by decide) (by decide) ?_
       refine w_iload X546 hx (hb hby at_92) rfl (pc' := 94) rfl ?_
       have v550 : (if (p0 &&& (4 : Int32)) = (0 : Int32) then (0 : Int32) else (1 : Int32)) = (1 : Int32) := if_neg hc457
       refine w_ifN X546 hx (hb hby at_94) (feq (fun q => absurd (v550.symm.trans q) (by decide))).1 (pc' := 97) rfl ?_
       refine w_aloadN X546 hx (hb hby at_97) rfl rfl (pc' := 98) rfl ?_
       refine w_goto X546 hx (hb hby at_98) (pc' := 103) (by decide) (by decide) ?_
       refine w_astore X546 hx (hb hby at_103) rfl (L' := #[.val (.int p0), .val (.int p1), .val (.int p2), .val (.ref r_292), .val (.ref r_434), .val (.int (if (p0 &&& (4 : Int32)) = (0 : Int32) then (0 : Int32) else (1 : Int32))), .val (.ref b441), .val (.ref b441), .val (.ref r_292), .unset]) rfl (pc' := 105) rfl ?_
       refine w_aload X546 hx (hb hby at_105) rfl rfl (pc' := 107) rfl ?_
       refine w_aload X546 hx (hb hby at_107) rfl rfl (pc' := 109) rfl ?_
       have le551 : h0.size ≤ T546.heap.size := (Nat.le_trans le545 K546.1)
       obtain ⟨cq552, kq552, q552a, q552b, q552c⟩ := isOf hZ rfl g546_0
       refine w_virtual X546 hx (y := yn_4) (z := yn_4) hown (mvT hZ (wd_28 hw)) (mvT hZ (wd_29 hw)) (notFace_of_selects (args := #[]) (mvT hZ (wd_31 hw))) (mvT hZ (wd_31 hw)) (mvT hZ (wd_30 hw)) (by decide) (backOf (W := 0) (rm_m4_18 l Z aZ hw [] b441 r_292 G_ZERO T546.heap n0 (Nat.le_trans Z0 le551) g546_1 g546_0 ge442 g546_2 g546_3 g546_4 g546_5 g546_6) hZ (wd_32 hw) (wd_2 hw) (by decide) (by decide)) q552a q552c (by rw [hml]; rfl) [(.ref b441)] (lenOf pd_7 rfl) rfl (Nat.le_of_eq rfl) (hb hby at_109) (fun _ _ => ⟨rfl, rfl, (by decide : 7 + 0 ≤ _), (by decide : 22 + 0 ≤ _)⟩) (pc' := 112) rfl ?_
       rintro _ _ ⟨T552, L552, k552, n552⟩ X552 ⟨Lc552, hQ552, l552, y552, z552⟩
       dsimp only [Pt.U, Pt.locs, Pt.cells, Pt.slots] at X552 l552 y552 z552 hQ552 ⊢
       subst l552 y552 z552
       obtain ⟨rfl, N552q, K552, g552_0, g552_1, g552_2, g552_3, g552_4, g552_5, g552_6⟩ := hQ552
       have N553 := Fr.app N547 N552q
       have K554 : Keep h0 T552.heap [] := K548.trans K552 (allS (Or.inr sz444) (all0 (P := fun x => x ∈ [] ∨ h0.size ≤ x)))
       show Runs _ _ _ _ (T552.setTop (mkF m 112 #[.val (.int p0), .val (.int p1), .val (.int p2), .val (.ref r_292), .val (.ref r_434), .val (.int (if (p0 &&& (4 : Int32)) = (0 : Int32) then (0 : Int32) else (1 : Int32))), .val (.ref b441), .val (.ref b441), .val (.ref r_292), .unset] []))
       refine w_aload X552 hx (hb hby at_112) rfl rfl (pc' := 114) rfl ?_
       have le555 : h0.size ≤ T552.heap.size := (Nat.le_trans le551 K552.1)
       obtain ⟨cq556, kq556, q556a, q556b, q556c⟩ := isOf hZ rfl g552_1
       refine w_virtual X552 hx (y := yn_5) (z := yn_5) hown (mvT hZ (wd_33 hw)) (mvT hZ (wd_34 hw)) (notFace_of_selects (args := #[]) (mvT hZ (wd_36 hw))) (mvT hZ (wd_36 hw)) (mvT hZ (wd_35 hw)) (by decide) (backOf (W := 0) (rm_m5_13 l Z aZ hw [] b441 r_292 T552.heap n0 (Nat.le_trans Z0 le555) g552_0) hZ (wd_37 hw) (wd_2 hw) (by decide) (by decide)) q556a q556c (by rw [hml]; rfl) [] (lenOf pd_8 rfl) rfl (Nat.le_of_eq rfl) (hb hby at_114) (fun _ _ => ⟨rfl, rfl, (by decide : 7 + 0 ≤ _), (by decide : 22 + 0 ≤ _)⟩) (pc' := 117) rfl ?_
       rintro _ _ ⟨T556, L556, k556, n556⟩ X556 ⟨Lc556, hQ556, l556, y556, z556⟩
       dsimp only [Pt.U, Pt.locs, Pt.cells, Pt.slots] at X556 l556 y556 z556 hQ556 ⊢
       subst l556 y556 z556
       obtain ⟨rfl, N556q, e556⟩ := hQ556
       have N557 := Fr.app N553 N556q
       show Runs _ _ _ _ (T556.setTop (mkF m 117 #[.val (.int p0), .val (.int p1), .val (.int p2), .val (.ref r_292), .val (.ref r_434), .val (.int (if (p0 &&& (4 : Int32)) = (0 : Int32) then (0 : Int32) else (1 : Int32))), .val (.ref b441), .val (.ref b441), .val (.ref r_292), .unset] [(.ref r_292)]))
       refine w_aload X556 hx (hb hby at_117) rfl rfl (pc' := 119) rfl ?_
       have f558 : Exa Z T552.heap r_292 kc2 := (((((g292_1.keep K434).ext E441).keep K454).keep K546).keep K552)
       refine w_static X556 hx (y := yn_6) hown (mvT hZ (wd_38 hw)) (mvT hZ (wd_39 hw)) (mvT hZ (wd_40 hw)) (mvT hZ (wd_41 hw)) (by decide) (backOf (W := 0) (rm_m6_14 l Z aZ hw [] r_292 T552.heap n0 (Nat.le_trans Z0 le555) f558) hZ (wd_41 hw) (wd_40 hw) (by decide) (by decide)) (by rw [hml]; rfl) [(.ref r_292), (.ref r_292)] (lenOf pd_9 rfl) rfl (Nat.le_of_eq rfl) (hb hby at_119) (fun _ _ => ⟨rfl, e556, (by decide : 7 + 0 ≤ _), (by decide : 22 + 0 ≤ _)⟩) (pc' := 122) rfl ?_
       rintro _ _ ⟨T559, L559, k559, n559⟩ X559 ⟨Lc559, hQ559, l559, y559, z559⟩
       dsimp only [Pt.U, Pt.locs, Pt.cells, Pt.slots] at X559 l559 y559 z559 hQ559 ⊢
       subst l559 y559 z559
       obtain ⟨rfl, N559q, e559⟩ := hQ559
       have N560 := Fr.app N557 N559q
       show Runs _ _ _ _ (T559.setTop (mkF m 122 #[.val (.int p0), .val (.int p1), .val (.int p2), .val (.ref r_292), .val (.ref r_434), .val (.int (if (p0 &&& (4 : Int32)) = (0 : Int32) then (0 : Int32) else (1 : Int32))), .val (.ref b441), .val (.ref b441), .val (.ref r_292), .unset] [(.int (1 : Int32))]))
       refine w_ifN X559 hx (hb hby at_122) (feq (by decide : ¬ ((1 : Int32) = (0 : Int32)))).1 (pc' := 125) rfl ?_
       refine w_aload X559 hx (hb hby at_125) rfl rfl (pc' := 127) rfl ?_
       obtain ⟨cq561, kq561, q561a, q561b, q561c⟩ := isOf hZ e559 g552_1
       refine w_virtual X559 hx (y := yn_5) (z := yn_5) hown (mvT hZ (wd_33 hw)) (mvT hZ (wd_34 hw)) (notFace_of_selects (args := #[]) (mvT hZ (wd_36 hw))) (mvT hZ (wd_36 hw)) (mvT hZ (wd_35 hw)) (by decide) (backOf (W := 0) (rm_m5_13 l Z aZ hw [] b441 r_292 T552.heap n0 (Nat.le_trans Z0 le555) g552_0) hZ (wd_37 hw) (wd_2 hw) (by decide) (by decide)) q561a q561c (by rw [hml]; rfl) [] (lenOf pd_8 rfl) rfl (Nat.le_of_eq rfl) (hb hby at_127) (fun _ _ => ⟨rfl, e559, (by decide : 7 + 0 ≤ _), (by decide : 22 + 0 ≤ _)⟩) (pc' := 130) rfl ?_
       rintro _ _ ⟨T561, L561, k561, n561⟩ X561 ⟨Lc561, hQ561, l561, y561, z561⟩
       dsimp only [Pt.U, Pt.locs, Pt.cells, Pt.slots] at X561 l561 y561 z561 hQ561 ⊢
       subst l561 y561 z561
       obtain ⟨rfl, N561q, e561⟩ := hQ561
       have N562 := Fr.app N560 N561q
       show Runs _ _ _ _ (T561.setTop (mkF m 130 #[.val (.int p0), .val (.int p1), .val (.int p2), .val (.ref r_292), .val (.ref r_434), .val (.int (if (p0 &&& (4 : Int32)) = (0 : Int32) then (0 : Int32) else (1 : Int32))), .val (.ref b441), .val (.ref b441), .val (.ref r_292), .unset] [(.ref r_292)]))
       refine w_aload X561 hx (hb hby at_130) rfl rfl (pc' := 132) rfl ?_
       refine w_static X561 hx (y := yn_6) hown (mvT hZ (wd_38 hw)) (mvT hZ (wd_39 hw)) (mvT hZ (wd_40 hw)) (mvT hZ (wd_41 hw)) (by decide) (backOf (W := 0) (rm_m6_14 l Z aZ hw [] r_292 T552.heap n0 (Nat.le_trans Z0 le555) f558) hZ (wd_41 hw) (wd_40 hw) (by decide) (by decide)) (by rw [hml]; rfl) [(.ref r_292), (.ref r_292)] (lenOf pd_9 rfl) rfl (Nat.le_of_eq rfl) (hb hby at_132) (fun _ _ => ⟨rfl, e561, (by decide : 7 + 0 ≤ _), (by decide : 22 + 0 ≤ _)⟩) (pc' := 135) rfl ?_
       rintro _ _ ⟨T563, L563, k563, n563⟩ X563 ⟨Lc563, hQ563, l563, y563, z563⟩
       dsimp only [Pt.U, Pt.locs, Pt.cells, Pt.slots] at X563 l563 y563 z563 hQ563 ⊢
       subst l563 y563 z563
       obtain ⟨rfl, N563q, e563⟩ := hQ563
       have N564 := Fr.app N562 N563q
       show Runs _ _ _ _ (T563.setTop (mkF m 135 #[.val (.int p0), .val (.int p1), .val (.int p2), .val (.ref r_292), .val (.ref r_434), .val (.int (if (p0 &&& (4 : Int32)) = (0 : Int32) then (0 : Int32) else (1 : Int32))), .val (.ref b441), .val (.ref b441), .val (.ref r_292), .unset] [(.int (1 : Int32))]))
       refine w_ifN X563 hx (hb hby at_135) (feq (by decide : ¬ ((1 : Int32) = (0 : Int32)))).1 (pc' := 138) rfl ?_
       refine w_iconst X563 hx (hb hby at_138) (v := (1 : Int32)) rfl (pc' := 139) rfl ?_
       refine w_goto X563 hx (hb hby at_139) (pc' := 143) (by decide) (by decide) ?_
       refine w_istore X563 hx (hb hby at_143) (L' := #[.val (.int p0), .val (.int p1), .val (.int p2), .val (.ref r_292), .val (.ref r_434), .val (.int (if (p0 &&& (4 : Int32)) = (0 : Int32) then (0 : Int32) else (1 : Int32))), .val (.ref b441), .val (.ref b441), .val (.ref r_292), .val (.int (1 : Int32))]) rfl (pc' := 145) rfl ?_
       refine w_aload X563 hx (hb hby at_145) rfl rfl (pc' := 147) rfl ?_
       refine w_aload X563 hx (hb hby at_147) rfl rfl (pc' := 149) rfl ?_
       obtain ⟨cq565, kq565, q565a, q565b, q565c⟩ := isOf hZ e563 g552_1
       refine w_virtual X563 hx (y := yn_4) (z := yn_4) hown (mvT hZ (wd_28 hw)) (mvT hZ (wd_29 hw)) (notFace_of_selects (args := #[]) (mvT hZ (wd_31 hw))) (mvT hZ (wd_31 hw)) (mvT hZ (wd_30 hw)) (by decide) (backOf (W := 0) (rm_m4_18 l Z aZ hw [] b441 r_292 G_ZERO T552.heap n0 (Nat.le_trans Z0 le555) g552_0 g552_1 ge442 g552_2 g552_3 g552_4 g552_5 g552_6) hZ (wd_32 hw) (wd_2 hw) (by decide) (by decide)) q565a q565c (by rw [hml]; rfl) [(.ref b441)] (lenOf pd_7 rfl) rfl (Nat.le_of_eq rfl) (hb hby at_149) (fun _ _ => ⟨rfl, e563, (by decide : 7 + 0 ≤ _), (by decide : 22 + 0 ≤ _)⟩) (pc' := 152) rfl ?_
       rintro _ _ ⟨T565, L565, k565, n565⟩ X565 ⟨Lc565, hQ565, l565, y565, z565⟩
       dsimp only [Pt.U, Pt.locs, Pt.cells, Pt.slots] at X565 l565 y565 z565 hQ565 ⊢
       subst l565 y565 z565
       obtain ⟨rfl, N565q, K565, g565_0, g565_1, g565_2, g565_3, g565_4, g565_5, g565_6⟩ := hQ565
       have N566 := Fr.app N564 N565q
       have K567 : Keep h0 T565.heap [] := K554.trans K565 (allS (Or.inr sz444) (all0 (P := fun x => x ∈ [] ∨ h0.size ≤ x)))
       show Runs _ _ _ _ (T565.setTop (mkF m 152 #[.val (.int p0), .val (.int p1), .val (.int p2), .val (.ref r_292), .val (.ref r_434), .val (.int (if (p0 &&& (4 : Int32)) = (0 : Int32) then (0 : Int32) else (1 : Int32))), .val (.ref b441), .val (.ref b441), .val (.ref r_292), .val (.int (1 : Int32))] []))
       refine w_iload X565 hx (hb hby at_152) rfl (pc' := 154) rfl ?_
       refine w_ifN X565 hx (hb hby at_154) (feq (by decide : ¬ ((1 : Int32) = (0 : Int32)))).1 (pc' := 157) rfl ?_
       refine w_aload X565 hx (hb hby at_157) rfl rfl (pc' := 159) rfl ?_
       have le568 : h0.size ≤ T565.heap.size := (Nat.le_trans le555 K565.1)
       obtain ⟨cq569, kq569, q569a, q569b, q569c⟩ := isOf hZ rfl g565_1
       refine w_virtual X565 hx (y := yn_5) (z := yn_5) hown (mvT hZ (wd_33 hw)) (mvT hZ (wd_34 hw)) (notFace_of_selects (args := #[]) (mvT hZ (wd_36 hw))) (mvT hZ (wd_36 hw)) (mvT hZ (wd_35 hw)) (by decide) (backOf (W := 0) (rm_m5_13 l Z aZ hw [] b441 r_292 T565.heap n0 (Nat.le_trans Z0 le568) g565_0) hZ (wd_37 hw) (wd_2 hw) (by decide) (by decide)) q569a q569c (by rw [hml]; rfl) [] (lenOf pd_8 rfl) rfl (Nat.le_of_eq rfl) (hb hby at_159) (fun _ _ => ⟨rfl, rfl, (by decide : 7 + 0 ≤ _), (by decide : 22 + 0 ≤ _)⟩) (pc' := 162) rfl ?_
       rintro _ _ ⟨T569, L569, k569, n569⟩ X569 ⟨Lc569, hQ569, l569, y569, z569⟩
       dsimp only [Pt.U, Pt.locs, Pt.cells, Pt.slots] at X569 l569 y569 z569 hQ569 ⊢
       subst l569 y569 z569
       obtain ⟨rfl, N569q, e569⟩ := hQ569
       have N570 := Fr.app N566 N569q
       show Runs _ _ _ _ (T569.setTop (mkF m 162 #[.val (.int p0), .val (.int p1), .val (.int p2), .val (.ref r_292), .val (.ref r_434), .val (.int (if (p0 &&& (4 : Int32)) = (0 : Int32) then (0 : Int32) else (1 : Int32))), .val (.ref b441), .val (.ref b441), .val (.ref r_292), .val (.int (1 : Int32))] [(.ref r_292)]))
       refine w_aload X569 hx (hb hby at_162) rfl rfl (pc' := 164) rfl ?_
       have f571 : Exa Z T565.heap r_292 kc2 := (f558.keep K565)
       refine w_static X569 hx (y := yn_6) hown (mvT hZ (wd_38 hw)) (mvT hZ (wd_39 hw)) (mvT hZ (wd_40 hw)) (mvT hZ (wd_41 hw)) (by decide) (backOf (W := 0) (rm_m6_14 l Z aZ hw [] r_292 T565.heap n0 (Nat.le_trans Z0 le568) f571) hZ (wd_41 hw) (wd_40 hw) (by decide) (by decide)) (by rw [hml]; rfl) [(.ref r_292), (.ref r_292)] (lenOf pd_9 rfl) rfl (Nat.le_of_eq rfl) (hb hby at_164) (fun _ _ => ⟨rfl, e569, (by decide : 7 + 0 ≤ _), (by decide : 22 + 0 ≤ _)⟩) (pc' := 167) rfl ?_
       rintro _ _ ⟨T572, L572, k572, n572⟩ X572 ⟨Lc572, hQ572, l572, y572, z572⟩
       dsimp only [Pt.U, Pt.locs, Pt.cells, Pt.slots] at X572 l572 y572 z572 hQ572 ⊢
       subst l572 y572 z572
       obtain ⟨rfl, N572q, e572⟩ := hQ572
       have N573 := Fr.app N570 N572q
       show Runs _ _ _ _ (T572.setTop (mkF m 167 #[.val (.int p0), .val (.int p1), .val (.int p2), .val (.ref r_292), .val (.ref r_434), .val (.int (if (p0 &&& (4 : Int32)) = (0 : Int32) then (0 : Int32) else (1 : Int32))), .val (.ref b441), .val (.ref b441), .val (.ref r_292), .val (.int (1 : Int32))] [(.int (1 : Int32))]))
       refine w_ifN X572 hx (hb hby at_167) (feq (by decide : ¬ ((1 : Int32) = (0 : Int32)))).1 (pc' := 170) rfl ?_
       refine w_aload X572 hx (hb hby at_170) rfl rfl (pc' := 172) rfl ?_
       obtain ⟨cq574, kq574, q574a, q574b, q574c⟩ := isOf hZ e572 g565_1
       refine w_virtual X572 hx (y := yn_5) (z := yn_5) hown (mvT hZ (wd_33 hw)) (mvT hZ (wd_34 hw)) (notFace_of_selects (args := #[]) (mvT hZ (wd_36 hw))) (mvT hZ (wd_36 hw)) (mvT hZ (wd_35 hw)) (by decide) (backOf (W := 0) (rm_m5_13 l Z aZ hw [] b441 r_292 T565.heap n0 (Nat.le_trans Z0 le568) g565_0) hZ (wd_37 hw) (wd_2 hw) (by decide) (by decide)) q574a q574c (by rw [hml]; rfl) [] (lenOf pd_8 rfl) rfl (Nat.le_of_eq rfl) (hb hby at_172) (fun _ _ => ⟨rfl, e572, (by decide : 7 + 0 ≤ _), (by decide : 22 + 0 ≤ _)⟩) (pc' := 175) rfl ?_
       rintro _ _ ⟨T574, L574, k574, n574⟩ X574 ⟨Lc574, hQ574, l574, y574, z574⟩
       dsimp only [Pt.U, Pt.locs, Pt.cells, Pt.slots] at X574 l574 y574 z574 hQ574 ⊢
       subst l574 y574 z574
       obtain ⟨rfl, N574q, e574⟩ := hQ574
       have N575 := Fr.app N573 N574q
       show Runs _ _ _ _ (T574.setTop (mkF m 175 #[.val (.int p0), .val (.int p1), .val (.int p2), .val (.ref r_292), .val (.ref r_434), .val (.int (if (p0 &&& (4 : Int32)) = (0 : Int32) then (0 : Int32) else (1 : Int32))), .val (.ref b441), .val (.ref b441), .val (.ref r_292), .val (.int (1 : Int32))] [(.ref r_292)]))
       refine w_aload X574 hx (hb hby at_175) rfl rfl (pc' := 177) rfl ?_
       refine w_static X574 hx (y := yn_6) hown (mvT hZ (wd_38 hw)) (mvT hZ (wd_39 hw)) (mvT hZ (wd_40 hw)) (mvT hZ (wd_41 hw)) (by decide) (backOf (W := 0) (rm_m6_14 l Z aZ hw [] r_292 T565.heap n0 (Nat.le_trans Z0 le568) f571) hZ (wd_41 hw) (wd_40 hw) (by decide) (by decide)) (by rw [hml]; rfl) [(.ref r_292), (.ref r_292)] (lenOf pd_9 rfl) rfl (Nat.le_of_eq rfl) (hb hby at_177) (fun _ _ => ⟨rfl, e574, (by decide : 7 + 0 ≤ _), (by decide : 22 + 0 ≤ _)⟩) (pc' := 180) rfl ?_
       rintro _ _ ⟨T576, L576, k576, n576⟩ X576 ⟨Lc576, hQ576, l576, y576, z576⟩
       dsimp only [Pt.U, Pt.locs, Pt.cells, Pt.slots] at X576 l576 y576 z576 hQ576 ⊢
       subst l576 y576 z576
       obtain ⟨rfl, N576q, e576⟩ := hQ576
       have N577 := Fr.app N575 N576q
       show Runs _ _ _ _ (T576.setTop (mkF m 180 #[.val (.int p0), .val (.int p1), .val (.int p2), .val (.ref r_292), .val (.ref r_434), .val (.int (if (p0 &&& (4 : Int32)) = (0 : Int32) then (0 : Int32) else (1 : Int32))), .val (.ref b441), .val (.ref b441), .val (.ref r_292), .val (.int (1 : Int32))] [(.int (1 : Int32))]))
       refine w_ifN X576 hx (hb hby at_180) (feq (by decide : ¬ ((1 : Int32) = (0 : Int32)))).1 (pc' := 183) rfl ?_
       refine w_iconst X576 hx (hb hby at_183) (v := (1 : Int32)) rfl (pc' := 184) rfl ?_
       refine w_goto X576 hx (hb hby at_184) (pc' := 188) (by decide) (by decide) ?_
       exact w_done X576 hlk (v := some (.int (1 : Int32))) e576 (fun h => by rw [hret] at h; cases h) (fun fs hr => retN X576 hx (t := .boolean) hret (by simp) (hb hby at_188) hr) (by decide) (by decide) (⟨rfl, N577⟩)
set_option maxRecDepth 65536 in
set_option maxHeartbeats 40000000 in
theorem comes_1 {Post : Tables → Env → Array Value → State → Outcome → State → Prop} (hpost : ∀ tb e args s v u, (limb_1_1.after args s (.returned v) u = true ∧ limb_1_2.after args s (.returned v) u = true ∧ True) → FrameEnd s (.returned v) u (Jvm.fieldLocs frame_1_writes args s ++ Jvm.arrayLocs frame_1_arrays args s ++ Jvm.staticLocs frame_1_statics s) 24 128 → Post tb e args s (.returned v) u) :
    ArmFor flags0 classFile x code maxLocals ret World_1 tables_1 room_1 Calls_1 rest_1 Pre_1 Post := by
  intro l hfl _ _ p e ha hc hk s m args below hf hA hF happ hP
  obtain ⟨hcalls, hrest, hpre⟩ := hP
  obtain ⟨-, -, -, hnamed, -, -, -, hat⟩ := (Spec.applies_iff hf).mp happ
  obtain ⟨hg, hn⟩ := and_e (Cond.before_iff.mp (show (Jvm.Cond.and given_1 narrow_1).before args s = true from hpre))
  obtain ⟨gv1, gv2⟩ := and_e hg
  obtain ⟨gv3, gv4⟩ := and_e gv2
  obtain ⟨gv5, gv6⟩ := and_e gv4
  obtain ⟨w0, w1, w2, rfl⟩ : ∃ w0 w1 w2 : Value, args = #[w0, w1, w2] := by
    have hs : args.size = 3 := by simpa [Cond.value, given_1] using gv1
    obtain ⟨L⟩ := args
    match L, hs with
    | [w0, w1, w2], _ => exact ⟨w0, w1, w2, rfl⟩
  have hw := fun d (hd : d ∈ tables_1) => atoms_spec (ws := Jvm.Cond.code x code maxLocals ret :: tables_1) hat d (List.mem_cons_of_mem _ hd)
  have hfit : Fit s := fun {y c} hc i hi => by
    obtain ⟨ha, rfl⟩ := Array.getElem?_eq_some_iff.mp hc
    have q := List.all_eq_true.mp ((Array.all_eq_true_iff_forall_mem.mp hF) _ (Array.getElem_mem ha)) i (List.mem_range.mpr hi)
    simpa [Array.getElem?_eq_getElem hi] using q
  obtain ⟨hsets, hown0⟩ := atoms_of _ (rest_1_c_eq ▸ (show rest_1_c.before _ s = true from hrest))
  have hr0 := Cond.before_iff.mp hown0
  obtain ⟨i0, ei0⟩ := is_v gv3
  obtain rfl : w0 = (.int i0) := Option.some.inj ei0
  obtain ⟨i1, ei1⟩ := is_v gv5
  obtain rfl : w1 = (.int i1) := Option.some.inj ei1
  obtain ⟨i2, ei2⟩ := is_v gv6
  obtain rfl : w2 = (.int i2) := Option.some.inj ei2
  obtain ⟨G_ZERO, ev_G_ZERO⟩ := exa_v (Cond.before_iff.mp (hsets _ (List.mem_of_getElem? (i := 4) rfl)))
  have S_ZERO := Sta.start ev_G_ZERO (Or.inl (hsets _ (List.mem_of_getElem? (i := 1) rfl)))
  obtain ⟨G_COMPACT_STRINGS, ev_G_COMPACT_STRINGS⟩ := is_v (Cond.before_iff.mp (hsets _ (List.mem_of_getElem? (i := 14) rfl)))
  have S_COMPACT_STRINGS := Sta.start ev_G_COMPACT_STRINGS (Or.inl (hsets _ (List.mem_of_getElem? (i := 13) rfl)))
  have hP_3 : ¬ (G_COMPACT_STRINGS = (0 : Int32)) := fun q => by
    have h9 := not_v (Cond.before_iff.mp (hsets _ (List.mem_of_getElem? (i := 15) rfl)))
    rw [eq_i ev_G_COMPACT_STRINGS (Term.int_eval 0) (by rw [q])] at h9
    cases h9
  obtain ⟨n, o, h1, h2, h3, _, L, rfl, ⟨rfl, N⟩, hq⟩ := rm_law l s _ hw tables_1 i0 i1 i2 G_ZERO G_COMPACT_STRINGS s.heap s.heap.size (Nat.le_refl _) S_ZERO (Old.start s) S_COMPACT_STRINGS hP_3 p e ha hc hk s m _ below hf ((Spec.applies_iff_loose hf).mp happ).1 ⟨rfl, State.Warmed39.refl s, rfl⟩ trivial
  refine ⟨n, _, h1, h2, h3, hpost _ _ _ _ _ _ ⟨Cond.after_iff.mpr rfl, Cond.after_iff.mpr (eq_i res_at (Term.int_eval (1)) rfl), trivial⟩ ⟨hq.1, hq.2.1, (hq.2.2.sift fun y hy => Or.inr (N y hy)).mono (by decide) (by decide)⟩⟩
theorem main_1_1 : Claimed_1_1 := comes_1 fun _ _ _ _ _ _ h hF => ⟨h.1, hF⟩
theorem main_1_2 : Claimed_1_2 := comes_1 fun _ _ _ _ _ _ h hF => ⟨h.2.1, hF⟩
end Jvm.Pilot.@@N@@
namespace Jvm.Pilot.@@N@@
open Jvm Jvm.ClassFile Sem Op Lib Jvm.Free Jvm.Stand Jvm.Pilot.@@N@@.Jvm.D
/-! MADE BY PROGRAM (witnessworld.py) out of the Statement's table words and the real class files: 23 classes; the members and pool entries that the words name. The judged class is class 1, her method 1. -/
namespace start1
open Jvm.ClassFile
def u (s : String) : CpInfo := .utf8 (stringToUtf16 s)
/-- a pool by its gaps: so many unusable entries, then the entry; so many at the end -/
def gap : Nat → List CpInfo → List CpInfo
  | 0, r => r
  | n + 1, r => .unusable :: gap n r
def poolList (es : List (Nat × CpInfo)) (last : Nat) : List CpInfo := es.foldr (fun e r => gap e.1 (e.2 :: r)) (gap last [])
def pool (es : List (Nat × CpInfo)) (last : Nat) : Array CpInfo := ⟨poolList es last⟩
def fileOf (pool : Array CpInfo) (this : Nat) (attrs : Array Attribute := #[]) (ms : Array MethodInfo := #[]) (fl : Nat := 33) (sup : Nat := 0) (ifs : Array Nat := #[]) (fds : Array FieldInfo := #[]) : ClassFile where
  minorVersion := 0
  majorVersion := 65
  constantPool := pool
  accessFlags := fl
  thisClass := this
  superClass := sup
  interfaces := ifs
  fields := fds
  methods := ms
  attributes := attrs
def plain (name : String) (sup : Option ClassId) : Class where
  name := name
  kind := .ordinary
  loader := none
  accessFlags := 33
  super := sup
  interfaces := #[]
  cf := none
  fields := #[]
  methods := #[]
  instanceTypes := #[]
  staticTypes := #[]
  resolved := #[]
  callSites := []
  init := .initialized
  statics := none
  mirror := none

def pool0 : Array CpInfo := pool [(5, u "<init>"), (0, u "()V"), (1, .class_ 10), (1, u "java/lang/Object")] 113

def k0c0 : Code := { maxStack := 0, maxLocals := 1, code := object_method_1_code, exceptionTable := #[], attributes := #[] }
def k0m0 : Method := { name := "<init>", desc := "()V", sig := { parameters := [], returnType := none }, accessFlags := 1, code := some k0c0 }
/-- java/lang/Object -/
def k0 : Class := { plain "java/lang/Object" none with
  accessFlags := 33
  interfaces := #[]
  cf := some (fileOf pool0 8 #[] #[{ accessFlags := 1, nameIndex := 5, descriptorIndex := 6, attributes := #[] }] 33 0 #[] #[])
  fields := #[]
  methods := #[k0m0]
  instanceTypes := #[]
  staticTypes := #[]
  resolved := Array.replicate 124 none
  statics := none }

def pool1 : Array CpInfo := pool [(2, .class_ 4), (1, u "java/lang/Object"), (0, u "<init>"), (0, u "()V"), (0, .methodref 8 9), (0, .class_ 10), (0, .nameAndType 11 12), (0, u "com/example/ringfence/ringfence/gate/MeasuresSetPinLaw"), (0, u "drawn"), (0, u "(I)Ljava/lang/String;"), (0, .class_ 14), (0, u "com/example/ringfence/ringfence/gate/Measures"), (0, .methodref 13 16), (0, .nameAndType 5 17), (0, u "(Lcom/example/ringfence/ringfence/gate/Pool;)V"), (0, .methodref 13 19), (0, .nameAndType 20 21), (0, u "setUnrated"), (0, u "(Ljava/lang/String;)V"), (0, .methodref 13 23), (0, .nameAndType 24 25), (0, u "set"), (0, u "(Lcom/example/ringfence/ringfence/gate/Measures;)V"), (0, .methodref 13 27), (0, .nameAndType 28 29), (0, u "unrated"), (0, u "()Ljava/lang/String;"), (0, .methodref 8 31), (0, .nameAndType 32 33), (0, u "same"), (0, u "(Ljava/lang/String;Ljava/lang/String;)Z"), (0, .methodref 35 36), (0, .class_ 37), (0, .nameAndType 38 39), (0, u "java/lang/String"), (0, u "valueOf"), (0, u "(C)Ljava/lang/String;"), (0, .methodref 35 41), (0, .nameAndType 5 42), (0, u "([C)V"), (0, .methodref 35 44), (0, .nameAndType 45 46), (0, u "equals"), (0, u "(Ljava/lang/Object;)Z"), (2, u "law"), (0, u "(III)Z")] 3

def k1m0 : Method := { name := "<init>", desc := "()V", sig := { parameters := [], returnType := none }, accessFlags := 2, code := none }
def k1c1 : Code := { maxStack := 3, maxLocals := 10, code := code, exceptionTable := #[], attributes := #[] }
def k1m1 : Method := { name := "law", desc := "(III)Z", sig := { parameters := [.int, .int, .int], returnType := some .boolean }, accessFlags := 9, code := some k1c1 }
def k1c2 : Code := { maxStack := 4, maxLocals := 4, code := method_3_code, exceptionTable := #[], attributes := #[] }
def k1m2 : Method := { name := "drawn", desc := "(I)Ljava/lang/String;", sig := { parameters := [.int], returnType := some (.object "java/lang/String") }, accessFlags := 10, code := some k1c2 }
def k1c3 : Code := { maxStack := 2, maxLocals := 2, code := method_4_code, exceptionTable := #[], attributes := #[] }
def k1m3 : Method := { name := "same", desc := "(Ljava/lang/String;Ljava/lang/String;)Z", sig := { parameters := [(.object "java/lang/String"), (.object "java/lang/String")], returnType := some .boolean }, accessFlags := 10, code := some k1c3 }
/-- com/example/ringfence/ringfence/gate/MeasuresSetPinLaw -/
def k1 : Class := { plain "com/example/ringfence/ringfence/gate/MeasuresSetPinLaw" (some 0) with
  accessFlags := 49
  interfaces := #[]
  cf := some (fileOf pool1 8 #[] #[{ accessFlags := 2, nameIndex := 5, descriptorIndex := 6, attributes := #[] }, { accessFlags := 9, nameIndex := 49, descriptorIndex := 50, attributes := #[] }, { accessFlags := 10, nameIndex := 11, descriptorIndex := 12, attributes := #[] }, { accessFlags := 10, nameIndex := 32, descriptorIndex := 33, attributes := #[] }] 49 2 #[] #[])
  fields := #[]
  methods := #[k1m0, k1m1, k1m2, k1m3]
  instanceTypes := #[]
  staticTypes := #[]
  resolved := Array.replicate 54 none
  statics := none }

def pool2 : Array CpInfo := pool [(1, .methodref 2 3), (0, .class_ 4), (0, .nameAndType 5 6), (0, u "java/lang/Object"), (0, u "<init>"), (0, u "()V"), (0, .fieldref 8 9), (0, .class_ 10), (0, .nameAndType 11 12), (0, u "java/math/BigDecimal"), (0, u "ZERO"), (0, u "Ljava/math/BigDecimal;"), (0, .fieldref 14 15), (0, .class_ 16), (0, .nameAndType 17 12), (0, u "com/example/ringfence/ringfence/gate/Measures"), (0, u "open"), (0, .fieldref 14 19), (0, .nameAndType 20 12), (0, u "downside"), (0, .fieldref 14 22), (0, .nameAndType 23 12), (0, u "upside"), (0, .fieldref 14 25), (0, .nameAndType 26 12), (0, u "exposure"), (0, .fieldref 14 28), (0, .nameAndType 29 30), (0, u "pool"), (0, u "Lcom/example/ringfence/ringfence/gate/Pool;"), (0, .fieldref 14 32), (0, .nameAndType 33 34), (0, u "unrated"), (0, u "Ljava/lang/String;"), (1, .class_ 38), (1, u "com/example/ringfence/ringfence/gate/Measures$1"), (15, u "HALF"), (33, u "set"), (15, u "(Ljava/lang/String;)V"), (0, u "(Lcom/example/ringfence/ringfence/gate/Pool;)V"), (6, u "()Ljava/lang/String;"), (0, u "setUnrated"), (0, u "(Lcom/example/ringfence/ringfence/gate/Measures;)V")] 8

def k2c0 : Code := { maxStack := 2, maxLocals := 2, code := prog_36_method_1_code, exceptionTable := #[], attributes := #[] }
def k2m0 : Method := { name := "<init>", desc := "(Lcom/example/ringfence/ringfence/gate/Pool;)V", sig := { parameters := [(.object "com/example/ringfence/ringfence/gate/Pool")], returnType := none }, accessFlags := 0, code := some k2c0 }
def k2c1 : Code := { maxStack := 1, maxLocals := 1, code := prog_36_method_4_code, exceptionTable := #[], attributes := #[] }
def k2m1 : Method := { name := "unrated", desc := "()Ljava/lang/String;", sig := { parameters := [], returnType := some (.object "java/lang/String") }, accessFlags := 0, code := some k2c1 }
def k2c2 : Code := { maxStack := 2, maxLocals := 2, code := prog_36_method_5_code, exceptionTable := #[], attributes := #[] }
def k2m2 : Method := { name := "setUnrated", desc := "(Ljava/lang/String;)V", sig := { parameters := [(.object "java/lang/String")], returnType := none }, accessFlags := 0, code := some k2c2 }
def k2c3 : Code := { maxStack := 2, maxLocals := 2, code := prog_36_method_6_code, exceptionTable := #[], attributes := #[] }
def k2m3 : Method := { name := "set", desc := "(Lcom/example/ringfence/ringfence/gate/Measures;)V", sig := { parameters := [(.object "com/example/ringfence/ringfence/gate/Measures")], returnType := none }, accessFlags := 0, code := some k2c3 }
/-- com/example/ringfence/ringfence/gate/Measures -/
def k2 : Class := { plain "com/example/ringfence/ringfence/gate/Measures" (some 0) with
  accessFlags := 49
  interfaces := #[]
  cf := some (fileOf pool2 14 #[.nestMembers #[36]] #[{ accessFlags := 0, nameIndex := 5, descriptorIndex := 105, attributes := #[] }, { accessFlags := 0, nameIndex := 33, descriptorIndex := 112, attributes := #[] }, { accessFlags := 0, nameIndex := 113, descriptorIndex := 104, attributes := #[] }, { accessFlags := 0, nameIndex := 88, descriptorIndex := 114, attributes := #[] }] 49 2 #[] #[{ accessFlags := 26, nameIndex := 54, descriptorIndex := 12, attributes := #[] }, { accessFlags := 18, nameIndex := 29, descriptorIndex := 30, attributes := #[] }, { accessFlags := 2, nameIndex := 33, descriptorIndex := 34, attributes := #[] }, { accessFlags := 2, nameIndex := 17, descriptorIndex := 12, attributes := #[] }, { accessFlags := 2, nameIndex := 20, descriptorIndex := 12, attributes := #[] }, { accessFlags := 2, nameIndex := 23, descriptorIndex := 12, attributes := #[] }, { accessFlags := 2, nameIndex := 26, descriptorIndex := 12, attributes := #[] }])
  fields := #[{ name := "HALF", type := (.object "java/math/BigDecimal"), accessFlags := 26, slot := 0, constantValue := 0 }, { name := "pool", type := (.object "com/example/ringfence/ringfence/gate/Pool"), accessFlags := 18, slot := 0, constantValue := 0 }, { name := "unrated", type := (.object "java/lang/String"), accessFlags := 2, slot := 1, constantValue := 0 }, { name := "open", type := (.object "java/math/BigDecimal"), accessFlags := 2, slot := 2, constantValue := 0 }, { name := "downside", type := (.object "java/math/BigDecimal"), accessFlags := 2, slot := 3, constantValue := 0 }, { name := "upside", type := (.object "java/math/BigDecimal"), accessFlags := 2, slot := 4, constantValue := 0 }, { name := "exposure", type := (.object "java/math/BigDecimal"), accessFlags := 2, slot := 5, constantValue := 0 }]
  methods := #[k2m0, k2m1, k2m2, k2m3]
  instanceTypes := #[(.object "com/example/ringfence/ringfence/gate/Pool"), (.object "java/lang/String"), (.object "java/math/BigDecimal"), (.object "java/math/BigDecimal"), (.object "java/math/BigDecimal"), (.object "java/math/BigDecimal")]
  staticTypes := #[(.object "java/math/BigDecimal")]
  resolved := Array.replicate 123 none
  statics := none }

def pool3 : Array CpInfo := pool [(1, .class_ 2), (0, u "java/io/Serializable"), (0, .class_ 4), (0, u "java/lang/Object")] 2

/-- java/io/Serializable -/
def k3 : Class := { plain "java/io/Serializable" (some 0) with
  accessFlags := 1537
  interfaces := #[]
  cf := some (fileOf pool3 1 #[] #[] 1537 3 #[] #[])
  fields := #[]
  methods := #[]
  instanceTypes := #[]
  staticTypes := #[]
  resolved := Array.replicate 7 none
  statics := none }

def pool4 : Array CpInfo := pool [(2, .class_ 4), (1, u "java/lang/Object"), (0, u "<init>"), (0, u "()V"), (1, .class_ 10), (1, u "java/lang/Number"), (2, .class_ 14), (0, u "java/io/Serializable"), (0, u "serialVersionUID"), (0, u "J")] 20

def k4m0 : Method := { name := "<init>", desc := "()V", sig := { parameters := [], returnType := none }, accessFlags := 1, code := none }
/-- java/lang/Number -/
def k4 : Class := { plain "java/lang/Number" (some 0) with
  accessFlags := 1057
  interfaces := #[3]
  cf := some (fileOf pool4 8 #[] #[{ accessFlags := 1, nameIndex := 5, descriptorIndex := 6, attributes := #[] }] 1057 2 #[13] #[{ accessFlags := 26, nameIndex := 15, descriptorIndex := 16, attributes := #[] }])
  fields := #[{ name := "serialVersionUID", type := .long, accessFlags := 26, slot := 0, constantValue := 0 }]
  methods := #[k4m0]
  instanceTypes := #[]
  staticTypes := #[.long]
  resolved := Array.replicate 37 none
  statics := none }

def pool5 : Array CpInfo := pool [(1, .class_ 2), (0, u "java/lang/Comparable"), (0, .class_ 4), (0, u "java/lang/Object")] 7

/-- java/lang/Comparable -/
def k5 : Class := { plain "java/lang/Comparable" (some 0) with
  accessFlags := 1537
  interfaces := #[]
  cf := some (fileOf pool5 1 #[] #[] 1537 3 #[] #[])
  fields := #[]
  methods := #[]
  instanceTypes := #[]
  staticTypes := #[]
  resolved := Array.replicate 12 none
  statics := none }

def pool6 : Array CpInfo := pool [(3, .class_ 4), (0, u "java/math/BigDecimal"), (7, .class_ 14), (1, u "java/lang/Number"), (4, u "scale"), (0, u "I"), (2, u "precision"), (2, u "intCompact"), (0, u "J"), (2, u "intVal"), (0, u "Ljava/math/BigInteger;"), (65, u "LONG_TEN_POWERS_TABLE"), (0, u "[J"), (88, u "ZERO"), (2, u "INFLATED_BIGINT"), (15, u "TWO"), (41, u "ZERO_THROUGH_TEN"), (0, u "[Ljava/math/BigDecimal;"), (2, u "ZERO_SCALED_BY"), (60, u "$assertionsDisabled"), (0, u "Z"), (163, u "ONE_TENTH"), (0, u "Ljava/math/BigDecimal;"), (5, u "TEN"), (14, .class_ 502), (1, u "java/math/BigDecimal$1"), (15, u "ONE_HALF"), (16, u "ONE"), (107, u "stringCache"), (0, u "Ljava/lang/String;"), (52, .class_ 699), (1, u "java/math/BigDecimal$LongOverflow"), (8, u "FLOAT_10_POW"), (0, u "[F"), (39, u "DOUBLE_10_POW"), (0, u "[D"), (19, .class_ 772), (1, u "java/math/BigDecimal$StringBuilderHelper"), (35, u "BIG_TEN_POWERS_TABLE_MAX"), (2, u "BIG_TEN_POWERS_TABLE"), (0, u "[Ljava/math/BigInteger;"), (14, u "THRESHOLDS_TABLE"), (23, .class_ 853), (1, u "java/math/BigDecimal$UnsafeHolder"), (214, u "LONGLONG_TEN_POWERS_TABLE"), (0, u "[[J"), (112, u "BIG_TEN_POWERS_TABLE_INITLEN"), (113, .class_ 1297), (0, u "java/lang/Comparable"), (0, u "L"), (0, u "D"), (1, u "P_F"), (1, u "Q_MIN_F"), (1, u "Q_MAX_F"), (1, u "P_D"), (1, u "Q_MIN_D"), (1, u "Q_MAX_D"), (1, u "INFLATED"), (0, u "MAX_COMPACT_DIGITS"), (1, u "serialVersionUID"), (2, u "HALF_LONG_MAX_VALUE"), (0, u "HALF_LONG_MIN_VALUE"), (0, u "ROUND_UP"), (6, u "ROUND_DOWN"), (1, u "ROUND_CEILING"), (1, u "ROUND_FLOOR"), (1, u "ROUND_HALF_UP"), (1, u "ROUND_HALF_DOWN"), (1, u "ROUND_HALF_EVEN"), (1, u "ROUND_UNNECESSARY"), (1, u "DIV_NUM_BASE")] 294

/-- java/math/BigDecimal -/
def k6 : Class := { plain "java/math/BigDecimal" (some 4) with
  accessFlags := 33
  interfaces := #[5]
  cf := some (fileOf pool6 3 #[.nestMembers #[500, 851, 770, 697]] #[] 33 12 #[1296] #[{ accessFlags := 26, nameIndex := 1298, descriptorIndex := 1299, attributes := #[] }, { accessFlags := 26, nameIndex := 1301, descriptorIndex := 20, attributes := #[] }, { accessFlags := 26, nameIndex := 1303, descriptorIndex := 20, attributes := #[] }, { accessFlags := 26, nameIndex := 1305, descriptorIndex := 20, attributes := #[] }, { accessFlags := 26, nameIndex := 1307, descriptorIndex := 20, attributes := #[] }, { accessFlags := 26, nameIndex := 1309, descriptorIndex := 20, attributes := #[] }, { accessFlags := 26, nameIndex := 1311, descriptorIndex := 20, attributes := #[] }, { accessFlags := 18, nameIndex := 30, descriptorIndex := 31, attributes := #[] }, { accessFlags := 18, nameIndex := 19, descriptorIndex := 20, attributes := #[] }, { accessFlags := 130, nameIndex := 23, descriptorIndex := 20, attributes := #[] }, { accessFlags := 130, nameIndex := 643, descriptorIndex := 644, attributes := #[] }, { accessFlags := 24, nameIndex := 1313, descriptorIndex := 27, attributes := #[] }, { accessFlags := 26, nameIndex := 190, descriptorIndex := 31, attributes := #[] }, { accessFlags := 146, nameIndex := 26, descriptorIndex := 27, attributes := #[] }, { accessFlags := 26, nameIndex := 1314, descriptorIndex := 20, attributes := #[] }, { accessFlags := 26, nameIndex := 1316, descriptorIndex := 27, attributes := #[] }, { accessFlags := 26, nameIndex := 248, descriptorIndex := 249, attributes := #[] }, { accessFlags := 26, nameIndex := 252, descriptorIndex := 249, attributes := #[] }, { accessFlags := 26, nameIndex := 1319, descriptorIndex := 27, attributes := #[] }, { accessFlags := 26, nameIndex := 1320, descriptorIndex := 27, attributes := #[] }, { accessFlags := 25, nameIndex := 187, descriptorIndex := 479, attributes := #[] }, { accessFlags := 25, nameIndex := 535, descriptorIndex := 479, attributes := #[] }, { accessFlags := 25, nameIndex := 206, descriptorIndex := 479, attributes := #[] }, { accessFlags := 25, nameIndex := 485, descriptorIndex := 479, attributes := #[] }, { accessFlags := 26, nameIndex := 478, descriptorIndex := 479, attributes := #[] }, { accessFlags := 26, nameIndex := 518, descriptorIndex := 479, attributes := #[] }, { accessFlags := 25, nameIndex := 1321, descriptorIndex := 20, attributes := #[] }, { accessFlags := 25, nameIndex := 1328, descriptorIndex := 20, attributes := #[] }, { accessFlags := 25, nameIndex := 1330, descriptorIndex := 20, attributes := #[] }, { accessFlags := 25, nameIndex := 1332, descriptorIndex := 20, attributes := #[] }, { accessFlags := 25, nameIndex := 1334, descriptorIndex := 20, attributes := #[] }, { accessFlags := 25, nameIndex := 1336, descriptorIndex := 20, attributes := #[] }, { accessFlags := 25, nameIndex := 1338, descriptorIndex := 20, attributes := #[] }, { accessFlags := 25, nameIndex := 1340, descriptorIndex := 20, attributes := #[] }, { accessFlags := 26, nameIndex := 749, descriptorIndex := 750, attributes := #[] }, { accessFlags := 26, nameIndex := 708, descriptorIndex := 709, attributes := #[] }, { accessFlags := 26, nameIndex := 97, descriptorIndex := 98, attributes := #[] }, { accessFlags := 74, nameIndex := 811, descriptorIndex := 812, attributes := #[] }, { accessFlags := 26, nameIndex := 1182, descriptorIndex := 20, attributes := #[] }, { accessFlags := 26, nameIndex := 808, descriptorIndex := 20, attributes := #[] }, { accessFlags := 26, nameIndex := 827, descriptorIndex := 98, attributes := #[] }, { accessFlags := 26, nameIndex := 1342, descriptorIndex := 27, attributes := #[] }, { accessFlags := 26, nameIndex := 1068, descriptorIndex := 1069, attributes := #[] }, { accessFlags := 4120, nameIndex := 313, descriptorIndex := 314, attributes := #[] }])
  fields := #[{ name := "L", type := .double, accessFlags := 26, slot := 0, constantValue := 0 }, { name := "P_F", type := .int, accessFlags := 26, slot := 1, constantValue := 0 }, { name := "Q_MIN_F", type := .int, accessFlags := 26, slot := 2, constantValue := 0 }, { name := "Q_MAX_F", type := .int, accessFlags := 26, slot := 3, constantValue := 0 }, { name := "P_D", type := .int, accessFlags := 26, slot := 4, constantValue := 0 }, { name := "Q_MIN_D", type := .int, accessFlags := 26, slot := 5, constantValue := 0 }, { name := "Q_MAX_D", type := .int, accessFlags := 26, slot := 6, constantValue := 0 }, { name := "intVal", type := (.object "java/math/BigInteger"), accessFlags := 18, slot := 0, constantValue := 0 }, { name := "scale", type := .int, accessFlags := 18, slot := 1, constantValue := 0 }, { name := "precision", type := .int, accessFlags := 130, slot := 2, constantValue := 0 }, { name := "stringCache", type := (.object "java/lang/String"), accessFlags := 130, slot := 3, constantValue := 0 }, { name := "INFLATED", type := .long, accessFlags := 24, slot := 7, constantValue := 0 }, { name := "INFLATED_BIGINT", type := (.object "java/math/BigInteger"), accessFlags := 26, slot := 8, constantValue := 0 }, { name := "intCompact", type := .long, accessFlags := 146, slot := 4, constantValue := 0 }, { name := "MAX_COMPACT_DIGITS", type := .int, accessFlags := 26, slot := 9, constantValue := 0 }, { name := "serialVersionUID", type := .long, accessFlags := 26, slot := 10, constantValue := 0 }, { name := "ZERO_THROUGH_TEN", type := (.array (.object "java/math/BigDecimal")), accessFlags := 26, slot := 11, constantValue := 0 }, { name := "ZERO_SCALED_BY", type := (.array (.object "java/math/BigDecimal")), accessFlags := 26, slot := 12, constantValue := 0 }, { name := "HALF_LONG_MAX_VALUE", type := .long, accessFlags := 26, slot := 13, constantValue := 0 }, { name := "HALF_LONG_MIN_VALUE", type := .long, accessFlags := 26, slot := 14, constantValue := 0 }, { name := "ZERO", type := (.object "java/math/BigDecimal"), accessFlags := 25, slot := 15, constantValue := 0 }, { name := "ONE", type := (.object "java/math/BigDecimal"), accessFlags := 25, slot := 16, constantValue := 0 }, { name := "TWO", type := (.object "java/math/BigDecimal"), accessFlags := 25, slot := 17, constantValue := 0 }, { name := "TEN", type := (.object "java/math/BigDecimal"), accessFlags := 25, slot := 18, constantValue := 0 }, { name := "ONE_TENTH", type := (.object "java/math/BigDecimal"), accessFlags := 26, slot := 19, constantValue := 0 }, { name := "ONE_HALF", type := (.object "java/math/BigDecimal"), accessFlags := 26, slot := 20, constantValue := 0 }, { name := "ROUND_UP", type := .int, accessFlags := 25, slot := 21, constantValue := 0 }, { name := "ROUND_DOWN", type := .int, accessFlags := 25, slot := 22, constantValue := 0 }, { name := "ROUND_CEILING", type := .int, accessFlags := 25, slot := 23, constantValue := 0 }, { name := "ROUND_FLOOR", type := .int, accessFlags := 25, slot := 24, constantValue := 0 }, { name := "ROUND_HALF_UP", type := .int, accessFlags := 25, slot := 25, constantValue := 0 }, { name := "ROUND_HALF_DOWN", type := .int, accessFlags := 25, slot := 26, constantValue := 0 }, { name := "ROUND_HALF_EVEN", type := .int, accessFlags := 25, slot := 27, constantValue := 0 }, { name := "ROUND_UNNECESSARY", type := .int, accessFlags := 25, slot := 28, constantValue := 0 }, { name := "DOUBLE_10_POW", type := (.array .double), accessFlags := 26, slot := 29, constantValue := 0 }, { name := "FLOAT_10_POW", type := (.array .float), accessFlags := 26, slot := 30, constantValue := 0 }, { name := "LONG_TEN_POWERS_TABLE", type := (.array .long), accessFlags := 26, slot := 31, constantValue := 0 }, { name := "BIG_TEN_POWERS_TABLE", type := (.array (.object "java/math/BigInteger")), accessFlags := 74, slot := 32, constantValue := 0 }, { name := "BIG_TEN_POWERS_TABLE_INITLEN", type := .int, accessFlags := 26, slot := 33, constantValue := 0 }, { name := "BIG_TEN_POWERS_TABLE_MAX", type := .int, accessFlags := 26, slot := 34, constantValue := 0 }, { name := "THRESHOLDS_TABLE", type := (.array .long), accessFlags := 26, slot := 35, constantValue := 0 }, { name := "DIV_NUM_BASE", type := .long, accessFlags := 26, slot := 36, constantValue := 0 }, { name := "LONGLONG_TEN_POWERS_TABLE", type := (.array (.array .long)), accessFlags := 26, slot := 37, constantValue := 0 }, { name := "$assertionsDisabled", type := .boolean, accessFlags := 4120, slot := 38, constantValue := 0 }]
  methods := #[]
  instanceTypes := #[(.object "java/math/BigInteger"), .int, .int, (.object "java/lang/String"), .long]
  staticTypes := #[.double, .int, .int, .int, .int, .int, .int, .long, (.object "java/math/BigInteger"), .int, .long, (.array (.object "java/math/BigDecimal")), (.array (.object "java/math/BigDecimal")), .long, .long, (.object "java/math/BigDecimal"), (.object "java/math/BigDecimal"), (.object "java/math/BigDecimal"), (.object "java/math/BigDecimal"), (.object "java/math/BigDecimal"), (.object "java/math/BigDecimal"), .int, .int, .int, .int, .int, .int, .int, .int, (.array .double), (.array .float), (.array .long), (.array (.object "java/math/BigInteger")), .int, .int, (.array .long), .long, (.array (.array .long)), .boolean]
  resolved := Array.replicate 1637 none
  statics := some 0 }

def pool7 : Array CpInfo := pool [(2, .class_ 4), (1, u "java/lang/CharSequence"), (42, .class_ 48), (0, u "java/lang/CharSequence$1CodePointIterator"), (10, .class_ 60), (0, u "java/lang/CharSequence$1CharIterator"), (5, .class_ 67), (0, u "java/lang/Object")] 63

/-- java/lang/CharSequence -/
def k7 : Class := { plain "java/lang/CharSequence" (some 0) with
  accessFlags := 1537
  interfaces := #[]
  cf := some (fileOf pool7 2 #[.nestMembers #[47, 59]] #[] 1537 66 #[] #[])
  fields := #[]
  methods := #[]
  instanceTypes := #[]
  staticTypes := #[]
  resolved := Array.replicate 131 none
  statics := none }

def pool8 : Array CpInfo := pool [(1, .class_ 2), (0, u "java/lang/constant/Constable"), (0, .class_ 4), (0, u "java/lang/Object")] 6

/-- java/lang/constant/Constable -/
def k8 : Class := { plain "java/lang/constant/Constable" (some 0) with
  accessFlags := 1537
  interfaces := #[]
  cf := some (fileOf pool8 1 #[] #[] 1537 3 #[] #[])
  fields := #[]
  methods := #[]
  instanceTypes := #[]
  staticTypes := #[]
  resolved := Array.replicate 11 none
  statics := none }

def pool9 : Array CpInfo := pool [(1, .class_ 2), (0, u "java/lang/constant/ConstantDesc"), (0, .class_ 4), (0, u "java/lang/Object")] 32

/-- java/lang/constant/ConstantDesc -/
def k9 : Class := { plain "java/lang/constant/ConstantDesc" (some 0) with
  accessFlags := 1537
  interfaces := #[]
  cf := some (fileOf pool9 1 #[] #[] 1537 3 #[] #[])
  fields := #[]
  methods := #[]
  instanceTypes := #[]
  staticTypes := #[]
  resolved := Array.replicate 37 none
  statics := none }

def pool10 : Array CpInfo := pool [(1, .methodref 2 3), (0, .class_ 4), (0, .nameAndType 5 6), (0, u "java/lang/Object"), (0, u "<init>"), (0, u "()V"), (2, .fieldref 10 11), (0, .class_ 12), (0, .nameAndType 13 14), (0, u "java/lang/String"), (0, u "value"), (0, u "[B"), (0, .fieldref 10 16), (0, .nameAndType 17 18), (0, u "coder"), (0, u "B"), (2, u "hash"), (0, u "I"), (2, u "hashIsZero"), (0, u "Z"), (0, .methodref 10 28), (0, .nameAndType 5 29), (0, u "([CIILjava/lang/Void;)V"), (8, .fieldref 10 39), (0, .nameAndType 40 26), (0, u "COMPACT_STRINGS"), (1, .class_ 44), (1, u "java/lang/StringUTF16"), (0, u "compress"), (1, .methodref 42 48), (0, .nameAndType 49 50), (0, u "coderFromArrayLen"), (0, u "([BI)B"), (2, u "toBytes"), (53, .class_ 109), (1, u "java/lang/StringLatin1"), (67, .methodref 42 178), (0, .nameAndType 45 179), (0, u "([CII)[B"), (29, .methodref 10 210), (0, .nameAndType 5 211), (0, u "([BB)V"), (157, u "(C)Z"), (173, u "equals"), (29, u "(Ljava/lang/Object;)Z"), (1, .class_ 576), (0, u "java/lang/CharSequence"), (22, u "CASE_INSENSITIVE_ORDER"), (0, u "Ljava/util/Comparator;"), (181, u "valueOf"), (0, u "(C)Ljava/lang/String;"), (226, u "([C)V"), (4, .methodref 107 1016), (0, .nameAndType 1017 369), (0, u "canEncode"), (0, .methodref 107 1019), (0, .nameAndType 53 1020), (0, u "(C)[B"), (80, u "serialPersistentFields"), (0, u "[Ljava/io/ObjectStreamField;"), (0, .class_ 1104), (0, u "java/lang/String$CaseInsensitiveComparator"), (1, .class_ 1107), (0, u "java/io/Serializable"), (0, .class_ 1109), (0, u "java/lang/Comparable"), (0, .class_ 1111), (0, u "java/lang/constant/Constable"), (0, .class_ 1113), (0, u "java/lang/constant/ConstantDesc"), (2, u "serialVersionUID"), (0, u "J"), (3, u "REPL"), (0, u "C"), (2, u "LATIN1"), (1, u "UTF16")] 323

def k10m0 : Method := { name := "<init>", desc := "()V", sig := { parameters := [], returnType := none }, accessFlags := 1, code := none }
def k10c1 : Code := { maxStack := 5, maxLocals := 2, code := jdk_42_method_3_code, exceptionTable := #[], attributes := #[] }
def k10m1 : Method := { name := "<init>", desc := "([C)V", sig := { parameters := [(.array .char)], returnType := none }, accessFlags := 1, code := some k10c1 }
def k10c2 : Code := { maxStack := 2, maxLocals := 3, code := jdk_42_method_66_code, exceptionTable := #[], attributes := #[] }
def k10m2 : Method := { name := "equals", desc := "(Ljava/lang/Object;)Z", sig := { parameters := [(.object "java/lang/Object")], returnType := some .boolean }, accessFlags := 1, code := some k10c2 }
def k10c3 : Code := { maxStack := 4, maxLocals := 1, code := jdk_42_method_139_code, exceptionTable := #[], attributes := #[] }
def k10m3 : Method := { name := "valueOf", desc := "(C)Ljava/lang/String;", sig := { parameters := [.char], returnType := some (.object "java/lang/String") }, accessFlags := 9, code := some k10c3 }
def k10c4 : Code := { maxStack := 4, maxLocals := 6, code := jdk_42_method_149_code, exceptionTable := #[], attributes := #[] }
def k10m4 : Method := { name := "<init>", desc := "([CIILjava/lang/Void;)V", sig := { parameters := [(.array .char), .int, .int, (.object "java/lang/Void")], returnType := none }, accessFlags := 2, code := some k10c4 }
def k10c5 : Code := { maxStack := 2, maxLocals := 3, code := jdk_42_method_151_code, exceptionTable := #[], attributes := #[] }
def k10m5 : Method := { name := "<init>", desc := "([BB)V", sig := { parameters := [(.array .byte), .byte], returnType := none }, accessFlags := 0, code := some k10c5 }
/-- java/lang/String -/
def k10 : Class := { plain "java/lang/String" (some 0) with
  accessFlags := 49
  interfaces := #[3, 5, 7, 8, 9]
  cf := some (fileOf pool10 10 #[.nestMembers #[1103]] #[{ accessFlags := 1, nameIndex := 5, descriptorIndex := 6, attributes := #[] }, { accessFlags := 1, nameIndex := 5, descriptorIndex := 1010, attributes := #[] }, { accessFlags := 1, nameIndex := 543, descriptorIndex := 573, attributes := #[] }, { accessFlags := 9, nameIndex := 782, descriptorIndex := 783, attributes := #[] }, { accessFlags := 2, nameIndex := 5, descriptorIndex := 29, attributes := #[] }, { accessFlags := 0, nameIndex := 5, descriptorIndex := 211, attributes := #[] }] 49 2 #[1106, 1108, 575, 1110, 1112] #[{ accessFlags := 18, nameIndex := 13, descriptorIndex := 14, attributes := #[] }, { accessFlags := 18, nameIndex := 17, descriptorIndex := 18, attributes := #[] }, { accessFlags := 2, nameIndex := 21, descriptorIndex := 22, attributes := #[] }, { accessFlags := 2, nameIndex := 25, descriptorIndex := 26, attributes := #[] }, { accessFlags := 26, nameIndex := 1116, descriptorIndex := 1117, attributes := #[] }, { accessFlags := 24, nameIndex := 40, descriptorIndex := 26, attributes := #[] }, { accessFlags := 26, nameIndex := 1101, descriptorIndex := 1102, attributes := #[] }, { accessFlags := 26, nameIndex := 1121, descriptorIndex := 1122, attributes := #[] }, { accessFlags := 25, nameIndex := 599, descriptorIndex := 600, attributes := #[] }, { accessFlags := 24, nameIndex := 1125, descriptorIndex := 18, attributes := #[] }, { accessFlags := 24, nameIndex := 1127, descriptorIndex := 18, attributes := #[] }])
  fields := #[{ name := "value", type := (.array .byte), accessFlags := 18, slot := 0, constantValue := 0 }, { name := "coder", type := .byte, accessFlags := 18, slot := 1, constantValue := 0 }, { name := "hash", type := .int, accessFlags := 2, slot := 2, constantValue := 0 }, { name := "hashIsZero", type := .boolean, accessFlags := 2, slot := 3, constantValue := 0 }, { name := "serialVersionUID", type := .long, accessFlags := 26, slot := 0, constantValue := 0 }, { name := "COMPACT_STRINGS", type := .boolean, accessFlags := 24, slot := 1, constantValue := 0 }, { name := "serialPersistentFields", type := (.array (.object "java/io/ObjectStreamField")), accessFlags := 26, slot := 2, constantValue := 0 }, { name := "REPL", type := .char, accessFlags := 26, slot := 3, constantValue := 0 }, { name := "CASE_INSENSITIVE_ORDER", type := (.object "java/util/Comparator"), accessFlags := 25, slot := 4, constantValue := 0 }, { name := "LATIN1", type := .byte, accessFlags := 24, slot := 5, constantValue := 0 }, { name := "UTF16", type := .byte, accessFlags := 24, slot := 6, constantValue := 0 }]
  methods := #[k10m0, k10m1, k10m2, k10m3, k10m4, k10m5]
  instanceTypes := #[(.array .byte), .byte, .int, .boolean]
  staticTypes := #[.long, .boolean, (.array (.object "java/io/ObjectStreamField")), .char, (.object "java/util/Comparator"), .byte, .byte]
  resolved := Array.replicate 1451 none
  statics := some 1 }

def pool11 : Array CpInfo := pool [(6, .class_ 8), (1, u "java/lang/Object"), (0, u "<init>"), (0, u "()V"), (1, .class_ 14), (1, u "java/lang/StringUTF16"), (31, u "$assertionsDisabled"), (0, u "Z"), (13, u "HI_BYTE_SHIFT"), (0, u "I"), (2, u "LO_BYTE_SHIFT"), (49, .methodref 12 116), (0, .nameAndType 117 118), (0, u "compress"), (0, u "([CI[BII)I"), (3, u "([CII)[B"), (138, u "coderFromArrayLen"), (0, u "([BI)B"), (106, .class_ 371), (1, u "java/lang/StringUTF16$LinesSpliterator"), (58, u "MAX_LENGTH"), (196, .class_ 628), (0, u "java/lang/StringUTF16$CodePointsSpliterator"), (0, .class_ 630), (0, u "java/lang/StringUTF16$CharsSpliterator")] 4

def k11m0 : Method := { name := "<init>", desc := "()V", sig := { parameters := [], returnType := none }, accessFlags := 0, code := none }
def k11c1 : Code := { maxStack := 2, maxLocals := 2, code := jdk_52_method_15_code, exceptionTable := #[], attributes := #[] }
def k11m1 : Method := { name := "coderFromArrayLen", desc := "([BI)B", sig := { parameters := [(.array .byte), .int], returnType := some .byte }, accessFlags := 8, code := some k11c1 }
def k11c2 : Code := { maxStack := 5, maxLocals := 6, code := jdk_52_method_16_code, exceptionTable := #[], attributes := #[] }
def k11m2 : Method := { name := "compress", desc := "([CII)[B", sig := { parameters := [(.array .char), .int, .int], returnType := some (.array .byte) }, accessFlags := 9, code := some k11c2 }
def k11c3 : Code := { maxStack := 3, maxLocals := 7, code := jdk_52_method_21_code, exceptionTable := #[], attributes := #[] }
def k11m3 : Method := { name := "compress", desc := "([CI[BII)I", sig := { parameters := [(.array .char), .int, (.array .byte), .int, .int], returnType := some .int }, accessFlags := 9, code := some k11c3 }
/-- java/lang/StringUTF16 -/
def k11 : Class := { plain "java/lang/StringUTF16" (some 0) with
  accessFlags := 48
  interfaces := #[]
  cf := some (fileOf pool11 12 #[.nestMembers #[627, 629, 369]] #[{ accessFlags := 0, nameIndex := 9, descriptorIndex := 10, attributes := #[] }, { accessFlags := 8, nameIndex := 261, descriptorIndex := 262, attributes := #[] }, { accessFlags := 9, nameIndex := 117, descriptorIndex := 122, attributes := #[] }, { accessFlags := 9, nameIndex := 117, descriptorIndex := 118, attributes := #[] }] 48 6 #[] #[{ accessFlags := 26, nameIndex := 61, descriptorIndex := 62, attributes := #[] }, { accessFlags := 26, nameIndex := 65, descriptorIndex := 62, attributes := #[] }, { accessFlags := 24, nameIndex := 430, descriptorIndex := 62, attributes := #[] }, { accessFlags := 4120, nameIndex := 46, descriptorIndex := 47, attributes := #[] }])
  fields := #[{ name := "HI_BYTE_SHIFT", type := .int, accessFlags := 26, slot := 0, constantValue := 0 }, { name := "LO_BYTE_SHIFT", type := .int, accessFlags := 26, slot := 1, constantValue := 0 }, { name := "MAX_LENGTH", type := .int, accessFlags := 24, slot := 2, constantValue := 0 }, { name := "$assertionsDisabled", type := .boolean, accessFlags := 4120, slot := 3, constantValue := 0 }]
  methods := #[k11m0, k11m1, k11m2, k11m3]
  instanceTypes := #[]
  staticTypes := #[.int, .int, .int, .boolean]
  resolved := Array.replicate 635 none
  statics := none }

def pool12 : Array CpInfo := pool [(4, .class_ 6), (1, u "java/lang/Object"), (0, u "<init>"), (0, u "()V"), (5, .class_ 16), (1, u "java/lang/StringLatin1"), (73, u "canEncode"), (14, u "(C)Z"), (15, u "$assertionsDisabled"), (0, u "Z"), (98, .class_ 223), (1, u "java/lang/StringLatin1$LinesSpliterator"), (156, u "toBytes"), (1, u "(C)[B"), (7, .class_ 391), (0, u "java/lang/StringLatin1$CharsSpliterator")] 3

def k12m0 : Method := { name := "<init>", desc := "()V", sig := { parameters := [], returnType := none }, accessFlags := 0, code := none }
def k12c1 : Code := { maxStack := 2, maxLocals := 1, code := jdk_43_method_3_code, exceptionTable := #[], attributes := #[] }
def k12m1 : Method := { name := "canEncode", desc := "(C)Z", sig := { parameters := [.char], returnType := some .boolean }, accessFlags := 9, code := some k12c1 }
def k12c2 : Code := { maxStack := 4, maxLocals := 1, code := jdk_43_method_46_code, exceptionTable := #[], attributes := #[] }
def k12m2 : Method := { name := "toBytes", desc := "(C)[B", sig := { parameters := [.char], returnType := some (.array .byte) }, accessFlags := 9, code := some k12c2 }
/-- java/lang/StringLatin1 -/
def k12 : Class := { plain "java/lang/StringLatin1" (some 0) with
  accessFlags := 48
  interfaces := #[]
  cf := some (fileOf pool12 14 #[.nestMembers #[390, 221]] #[{ accessFlags := 0, nameIndex := 7, descriptorIndex := 8, attributes := #[] }, { accessFlags := 9, nameIndex := 90, descriptorIndex := 105, attributes := #[] }, { accessFlags := 9, nameIndex := 380, descriptorIndex := 382, attributes := #[] }] 48 4 #[] #[{ accessFlags := 4120, nameIndex := 121, descriptorIndex := 122, attributes := #[] }])
  fields := #[{ name := "$assertionsDisabled", type := .boolean, accessFlags := 4120, slot := 0, constantValue := 0 }]
  methods := #[k12m0, k12m1, k12m2]
  instanceTypes := #[]
  staticTypes := #[.boolean]
  resolved := Array.replicate 395 none
  statics := none }

def pool13 : Array CpInfo := pool [(4, .class_ 6), (1, u "java/lang/Number"), (16, .class_ 25), (1, u "java/math/BigInteger"), (0, u "ZERO"), (0, u "Ljava/math/BigInteger;"), (2, u "mag"), (0, u "[I"), (2, u "signum"), (0, u "I"), (59, u "bitsPerDigit"), (0, u "[J"), (9, u "digitsPerInt"), (12, u "intRadix"), (60, u "SMALL_PRIME_PRODUCT"), (79, u "ONE"), (6, u "TWO"), (43, u "$assertionsDisabled"), (0, u "Z"), (36, u "posConst"), (0, u "[Ljava/math/BigInteger;"), (4, u "negConst"), (116, .class_ 474), (1, u "java/math/BigInteger$RecursiveOp"), (106, u "NEGATIVE_ONE"), (91, u "bnExpModThreshTable"), (72, u "lowestSetBitPlusTwo"), (2, u "bitLengthPlusOne"), (2, u "bitCountPlusOne"), (6, u "LOG_TWO"), (0, u "D"), (2, u "logCache"), (0, u "[D"), (13, u "NUM_ZEROS"), (2, u "ZEROS"), (0, u "Ljava/lang/String;"), (9, u "longRadix"), (5, u "digitsPerLong"), (22, u "powerCache"), (0, u "[[Ljava/math/BigInteger;"), (45, u "firstNonzeroIntNumPlusTwo"), (38, .class_ 909), (1, u "java/math/BigInteger$UnsafeHolder"), (141, u "TEN"), (106, u "serialPersistentFields"), (0, u "[Ljava/io/ObjectStreamField;"), (0, .class_ 1161), (0, u "java/lang/Comparable"), (0, u "LONG_MASK"), (0, u "J"), (1, u "MAX_MAG_LENGTH"), (0, u "PRIME_SEARCH_BIT_LENGTH_LIMIT"), (1, u "KARATSUBA_THRESHOLD"), (1, u "TOOM_COOK_THRESHOLD"), (1, u "KARATSUBA_SQUARE_THRESHOLD"), (1, u "TOOM_COOK_SQUARE_THRESHOLD"), (1, u "BURNIKEL_ZIEGLER_THRESHOLD"), (0, u "BURNIKEL_ZIEGLER_OFFSET"), (1, u "SCHOENHAGE_BASE_CONVERSION_THRESHOLD"), (1, u "MULTIPLY_SQUARE_THRESHOLD"), (0, u "MONTGOMERY_INTRINSIC_THRESHOLD"), (1, u "SMALL_PRIME_THRESHOLD"), (1, u "DEFAULT_PRIME_CERTAINTY"), (1, u "MAX_CONSTANT"), (3, u "serialVersionUID"), (338, .class_ 1532), (0, u "java/math/BigInteger$RecursiveOp$RecursiveSquare"), (0, .class_ 1534), (0, u "java/math/BigInteger$RecursiveOp$RecursiveMultiply")] 7

/-- java/math/BigInteger -/
def k13 : Class := { plain "java/math/BigInteger" (some 4) with
  accessFlags := 33
  interfaces := #[5]
  cf := some (fileOf pool13 23 #[.nestMembers #[907, 472, 1531, 1533]] #[] 33 4 #[1160] #[{ accessFlags := 16, nameIndex := 34, descriptorIndex := 35, attributes := #[] }, { accessFlags := 16, nameIndex := 30, descriptorIndex := 31, attributes := #[] }, { accessFlags := 2, nameIndex := 752, descriptorIndex := 35, attributes := #[] }, { accessFlags := 2, nameIndex := 749, descriptorIndex := 35, attributes := #[] }, { accessFlags := 2, nameIndex := 746, descriptorIndex := 35, attributes := #[] }, { accessFlags := 2, nameIndex := 868, descriptorIndex := 35, attributes := #[] }, { accessFlags := 24, nameIndex := 1162, descriptorIndex := 1163, attributes := #[] }, { accessFlags := 26, nameIndex := 1165, descriptorIndex := 35, attributes := #[] }, { accessFlags := 26, nameIndex := 1166, descriptorIndex := 35, attributes := #[] }, { accessFlags := 26, nameIndex := 1168, descriptorIndex := 35, attributes := #[] }, { accessFlags := 26, nameIndex := 1170, descriptorIndex := 35, attributes := #[] }, { accessFlags := 26, nameIndex := 1172, descriptorIndex := 35, attributes := #[] }, { accessFlags := 26, nameIndex := 1174, descriptorIndex := 35, attributes := #[] }, { accessFlags := 24, nameIndex := 1176, descriptorIndex := 35, attributes := #[] }, { accessFlags := 24, nameIndex := 1177, descriptorIndex := 35, attributes := #[] }, { accessFlags := 26, nameIndex := 1179, descriptorIndex := 35, attributes := #[] }, { accessFlags := 26, nameIndex := 1181, descriptorIndex := 35, attributes := #[] }, { accessFlags := 26, nameIndex := 1182, descriptorIndex := 35, attributes := #[] }, { accessFlags := 10, nameIndex := 95, descriptorIndex := 96, attributes := #[] }, { accessFlags := 26, nameIndex := 1184, descriptorIndex := 35, attributes := #[] }, { accessFlags := 26, nameIndex := 1186, descriptorIndex := 35, attributes := #[] }, { accessFlags := 26, nameIndex := 180, descriptorIndex := 27, attributes := #[] }, { accessFlags := 26, nameIndex := 1188, descriptorIndex := 35, attributes := #[] }, { accessFlags := 26, nameIndex := 349, descriptorIndex := 350, attributes := #[] }, { accessFlags := 26, nameIndex := 355, descriptorIndex := 350, attributes := #[] }, { accessFlags := 74, nameIndex := 821, descriptorIndex := 822, attributes := #[] }, { accessFlags := 26, nameIndex := 763, descriptorIndex := 764, attributes := #[] }, { accessFlags := 26, nameIndex := 759, descriptorIndex := 760, attributes := #[] }, { accessFlags := 25, nameIndex := 26, descriptorIndex := 27, attributes := #[] }, { accessFlags := 25, nameIndex := 260, descriptorIndex := 27, attributes := #[] }, { accessFlags := 25, nameIndex := 267, descriptorIndex := 27, attributes := #[] }, { accessFlags := 26, nameIndex := 581, descriptorIndex := 27, attributes := #[] }, { accessFlags := 25, nameIndex := 1051, descriptorIndex := 27, attributes := #[] }, { accessFlags := 8, nameIndex := 673, descriptorIndex := 31, attributes := #[] }, { accessFlags := 10, nameIndex := 778, descriptorIndex := 35, attributes := #[] }, { accessFlags := 26, nameIndex := 781, descriptorIndex := 782, attributes := #[] }, { accessFlags := 10, nameIndex := 798, descriptorIndex := 31, attributes := #[] }, { accessFlags := 10, nameIndex := 792, descriptorIndex := 350, attributes := #[] }, { accessFlags := 10, nameIndex := 106, descriptorIndex := 31, attributes := #[] }, { accessFlags := 10, nameIndex := 119, descriptorIndex := 31, attributes := #[] }, { accessFlags := 26, nameIndex := 1192, descriptorIndex := 1163, attributes := #[] }, { accessFlags := 26, nameIndex := 1158, descriptorIndex := 1159, attributes := #[] }, { accessFlags := 4120, nameIndex := 311, descriptorIndex := 312, attributes := #[] }])
  fields := #[{ name := "signum", type := .int, accessFlags := 16, slot := 0, constantValue := 0 }, { name := "mag", type := (.array .int), accessFlags := 16, slot := 1, constantValue := 0 }, { name := "bitCountPlusOne", type := .int, accessFlags := 2, slot := 2, constantValue := 0 }, { name := "bitLengthPlusOne", type := .int, accessFlags := 2, slot := 3, constantValue := 0 }, { name := "lowestSetBitPlusTwo", type := .int, accessFlags := 2, slot := 4, constantValue := 0 }, { name := "firstNonzeroIntNumPlusTwo", type := .int, accessFlags := 2, slot := 5, constantValue := 0 }, { name := "LONG_MASK", type := .long, accessFlags := 24, slot := 0, constantValue := 0 }, { name := "MAX_MAG_LENGTH", type := .int, accessFlags := 26, slot := 1, constantValue := 0 }, { name := "PRIME_SEARCH_BIT_LENGTH_LIMIT", type := .int, accessFlags := 26, slot := 2, constantValue := 0 }, { name := "KARATSUBA_THRESHOLD", type := .int, accessFlags := 26, slot := 3, constantValue := 0 }, { name := "TOOM_COOK_THRESHOLD", type := .int, accessFlags := 26, slot := 4, constantValue := 0 }, { name := "KARATSUBA_SQUARE_THRESHOLD", type := .int, accessFlags := 26, slot := 5, constantValue := 0 }, { name := "TOOM_COOK_SQUARE_THRESHOLD", type := .int, accessFlags := 26, slot := 6, constantValue := 0 }, { name := "BURNIKEL_ZIEGLER_THRESHOLD", type := .int, accessFlags := 24, slot := 7, constantValue := 0 }, { name := "BURNIKEL_ZIEGLER_OFFSET", type := .int, accessFlags := 24, slot := 8, constantValue := 0 }, { name := "SCHOENHAGE_BASE_CONVERSION_THRESHOLD", type := .int, accessFlags := 26, slot := 9, constantValue := 0 }, { name := "MULTIPLY_SQUARE_THRESHOLD", type := .int, accessFlags := 26, slot := 10, constantValue := 0 }, { name := "MONTGOMERY_INTRINSIC_THRESHOLD", type := .int, accessFlags := 26, slot := 11, constantValue := 0 }, { name := "bitsPerDigit", type := (.array .long), accessFlags := 10, slot := 12, constantValue := 0 }, { name := "SMALL_PRIME_THRESHOLD", type := .int, accessFlags := 26, slot := 13, constantValue := 0 }, { name := "DEFAULT_PRIME_CERTAINTY", type := .int, accessFlags := 26, slot := 14, constantValue := 0 }, { name := "SMALL_PRIME_PRODUCT", type := (.object "java/math/BigInteger"), accessFlags := 26, slot := 15, constantValue := 0 }, { name := "MAX_CONSTANT", type := .int, accessFlags := 26, slot := 16, constantValue := 0 }, { name := "posConst", type := (.array (.object "java/math/BigInteger")), accessFlags := 26, slot := 17, constantValue := 0 }, { name := "negConst", type := (.array (.object "java/math/BigInteger")), accessFlags := 26, slot := 18, constantValue := 0 }, { name := "powerCache", type := (.array (.array (.object "java/math/BigInteger"))), accessFlags := 74, slot := 19, constantValue := 0 }, { name := "logCache", type := (.array .double), accessFlags := 26, slot := 20, constantValue := 0 }, { name := "LOG_TWO", type := .double, accessFlags := 26, slot := 21, constantValue := 0 }, { name := "ZERO", type := (.object "java/math/BigInteger"), accessFlags := 25, slot := 22, constantValue := 0 }, { name := "ONE", type := (.object "java/math/BigInteger"), accessFlags := 25, slot := 23, constantValue := 0 }, { name := "TWO", type := (.object "java/math/BigInteger"), accessFlags := 25, slot := 24, constantValue := 0 }, { name := "NEGATIVE_ONE", type := (.object "java/math/BigInteger"), accessFlags := 26, slot := 25, constantValue := 0 }, { name := "TEN", type := (.object "java/math/BigInteger"), accessFlags := 25, slot := 26, constantValue := 0 }, { name := "bnExpModThreshTable", type := (.array .int), accessFlags := 8, slot := 27, constantValue := 0 }, { name := "NUM_ZEROS", type := .int, accessFlags := 10, slot := 28, constantValue := 0 }, { name := "ZEROS", type := (.object "java/lang/String"), accessFlags := 26, slot := 29, constantValue := 0 }, { name := "digitsPerLong", type := (.array .int), accessFlags := 10, slot := 30, constantValue := 0 }, { name := "longRadix", type := (.array (.object "java/math/BigInteger")), accessFlags := 10, slot := 31, constantValue := 0 }, { name := "digitsPerInt", type := (.array .int), accessFlags := 10, slot := 32, constantValue := 0 }, { name := "intRadix", type := (.array .int), accessFlags := 10, slot := 33, constantValue := 0 }, { name := "serialVersionUID", type := .long, accessFlags := 26, slot := 34, constantValue := 0 }, { name := "serialPersistentFields", type := (.array (.object "java/io/ObjectStreamField")), accessFlags := 26, slot := 35, constantValue := 0 }, { name := "$assertionsDisabled", type := .boolean, accessFlags := 4120, slot := 36, constantValue := 0 }]
  methods := #[]
  instanceTypes := #[.int, (.array .int), .int, .int, .int, .int]
  staticTypes := #[.long, .int, .int, .int, .int, .int, .int, .int, .int, .int, .int, .int, (.array .long), .int, .int, (.object "java/math/BigInteger"), .int, (.array (.object "java/math/BigInteger")), (.array (.object "java/math/BigInteger")), (.array (.array (.object "java/math/BigInteger"))), (.array .double), .double, (.object "java/math/BigInteger"), (.object "java/math/BigInteger"), (.object "java/math/BigInteger"), (.object "java/math/BigInteger"), (.object "java/math/BigInteger"), (.array .int), .int, (.object "java/lang/String"), (.array .int), (.array (.object "java/math/BigInteger")), (.array .int), (.array .int), .long, (.array (.object "java/io/ObjectStreamField")), .boolean]
  resolved := Array.replicate 1542 none
  statics := some 2 }

def pool14 : Array CpInfo := pool [(2, .class_ 4), (1, u "java/lang/Object"), (0, u "<init>"), (0, u "()V"), (17, .class_ 26), (1, u "jdk/internal/util/Preconditions"), (28, .class_ 56), (0, u "jdk/internal/util/Preconditions$4"), (57, .class_ 115), (0, u "jdk/internal/util/Preconditions$1"), (7, u "SIOOBE_FORMATTER"), (0, u "Ljava/util/function/BiFunction;"), (0, .class_ 126), (0, u "jdk/internal/util/Preconditions$2"), (3, u "AIOOBE_FORMATTER"), (0, .class_ 132), (0, u "jdk/internal/util/Preconditions$3"), (3, u "IOOBE_FORMATTER")] 57

def k14m0 : Method := { name := "<init>", desc := "()V", sig := { parameters := [], returnType := none }, accessFlags := 1, code := none }
/-- jdk/internal/util/Preconditions -/
def k14 : Class := { plain "jdk/internal/util/Preconditions" (some 0) with
  accessFlags := 33
  interfaces := #[]
  cf := some (fileOf pool14 24 #[.nestMembers #[55, 131, 125, 114]] #[{ accessFlags := 1, nameIndex := 5, descriptorIndex := 6, attributes := #[] }] 33 2 #[] #[{ accessFlags := 25, nameIndex := 123, descriptorIndex := 124, attributes := #[] }, { accessFlags := 25, nameIndex := 130, descriptorIndex := 124, attributes := #[] }, { accessFlags := 25, nameIndex := 136, descriptorIndex := 124, attributes := #[] }])
  fields := #[{ name := "SIOOBE_FORMATTER", type := (.object "java/util/function/BiFunction"), accessFlags := 25, slot := 0, constantValue := 0 }, { name := "AIOOBE_FORMATTER", type := (.object "java/util/function/BiFunction"), accessFlags := 25, slot := 1, constantValue := 0 }, { name := "IOOBE_FORMATTER", type := (.object "java/util/function/BiFunction"), accessFlags := 25, slot := 2, constantValue := 0 }]
  methods := #[k14m0]
  instanceTypes := #[]
  staticTypes := #[(.object "java/util/function/BiFunction"), (.object "java/util/function/BiFunction"), (.object "java/util/function/BiFunction")]
  resolved := Array.replicate 194 none
  statics := some 3 }

def pool15 : Array CpInfo := pool [(9, u "<init>"), (6, .class_ 18), (1, u "java/lang/Object"), (0, u "()V"), (1, .class_ 23), (1, u "jdk/internal/util/ArraysSupport"), (0, u "LOG2_ARRAY_LONG_INDEX_SCALE"), (0, u "I"), (2, u "U"), (0, u "Ljdk/internal/misc/Unsafe;"), (8, u "BIG_ENDIAN"), (0, u "Z"), (8, u "LOG2_BYTE_BIT_SIZE"), (4, u "LOG2_ARRAY_INT_INDEX_SCALE"), (54, u "JLA"), (0, u "Ljdk/internal/access/JavaLangAccess;"), (11, u "LOG2_ARRAY_BOOLEAN_INDEX_SCALE"), (9, u "LOG2_ARRAY_BYTE_INDEX_SCALE"), (5, u "LOG2_ARRAY_CHAR_INDEX_SCALE"), (5, u "LOG2_ARRAY_SHORT_INDEX_SCALE"), (18, u "LOG2_ARRAY_FLOAT_INDEX_SCALE"), (24, u "LOG2_ARRAY_DOUBLE_INDEX_SCALE"), (89, u "T_BOOLEAN"), (2, u "T_CHAR"), (1, u "T_FLOAT"), (1, u "T_DOUBLE"), (1, u "T_BYTE"), (1, u "T_SHORT"), (1, u "T_INT"), (1, u "T_LONG"), (1, u "SOFT_MAX_ARRAY_LENGTH")] 83

def k15m0 : Method := { name := "<init>", desc := "()V", sig := { parameters := [], returnType := none }, accessFlags := 2, code := none }
/-- jdk/internal/util/ArraysSupport -/
def k15 : Class := { plain "jdk/internal/util/ArraysSupport" (some 0) with
  accessFlags := 33
  interfaces := #[]
  cf := some (fileOf pool15 21 #[] #[{ accessFlags := 2, nameIndex := 9, descriptorIndex := 19, attributes := #[] }] 33 16 #[] #[{ accessFlags := 24, nameIndex := 28, descriptorIndex := 29, attributes := #[] }, { accessFlags := 26, nameIndex := 38, descriptorIndex := 39, attributes := #[] }, { accessFlags := 25, nameIndex := 121, descriptorIndex := 25, attributes := #[] }, { accessFlags := 25, nameIndex := 131, descriptorIndex := 25, attributes := #[] }, { accessFlags := 25, nameIndex := 137, descriptorIndex := 25, attributes := #[] }, { accessFlags := 25, nameIndex := 143, descriptorIndex := 25, attributes := #[] }, { accessFlags := 25, nameIndex := 53, descriptorIndex := 25, attributes := #[] }, { accessFlags := 25, nameIndex := 24, descriptorIndex := 25, attributes := #[] }, { accessFlags := 25, nameIndex := 162, descriptorIndex := 25, attributes := #[] }, { accessFlags := 25, nameIndex := 187, descriptorIndex := 25, attributes := #[] }, { accessFlags := 26, nameIndex := 48, descriptorIndex := 25, attributes := #[] }, { accessFlags := 25, nameIndex := 277, descriptorIndex := 25, attributes := #[] }, { accessFlags := 25, nameIndex := 280, descriptorIndex := 25, attributes := #[] }, { accessFlags := 25, nameIndex := 282, descriptorIndex := 25, attributes := #[] }, { accessFlags := 25, nameIndex := 284, descriptorIndex := 25, attributes := #[] }, { accessFlags := 25, nameIndex := 286, descriptorIndex := 25, attributes := #[] }, { accessFlags := 25, nameIndex := 288, descriptorIndex := 25, attributes := #[] }, { accessFlags := 25, nameIndex := 290, descriptorIndex := 25, attributes := #[] }, { accessFlags := 25, nameIndex := 292, descriptorIndex := 25, attributes := #[] }, { accessFlags := 26, nameIndex := 108, descriptorIndex := 109, attributes := #[] }, { accessFlags := 25, nameIndex := 294, descriptorIndex := 25, attributes := #[] }])
  fields := #[{ name := "U", type := (.object "jdk/internal/misc/Unsafe"), accessFlags := 24, slot := 0, constantValue := 0 }, { name := "BIG_ENDIAN", type := .boolean, accessFlags := 26, slot := 1, constantValue := 0 }, { name := "LOG2_ARRAY_BOOLEAN_INDEX_SCALE", type := .int, accessFlags := 25, slot := 2, constantValue := 0 }, { name := "LOG2_ARRAY_BYTE_INDEX_SCALE", type := .int, accessFlags := 25, slot := 3, constantValue := 0 }, { name := "LOG2_ARRAY_CHAR_INDEX_SCALE", type := .int, accessFlags := 25, slot := 4, constantValue := 0 }, { name := "LOG2_ARRAY_SHORT_INDEX_SCALE", type := .int, accessFlags := 25, slot := 5, constantValue := 0 }, { name := "LOG2_ARRAY_INT_INDEX_SCALE", type := .int, accessFlags := 25, slot := 6, constantValue := 0 }, { name := "LOG2_ARRAY_LONG_INDEX_SCALE", type := .int, accessFlags := 25, slot := 7, constantValue := 0 }, { name := "LOG2_ARRAY_FLOAT_INDEX_SCALE", type := .int, accessFlags := 25, slot := 8, constantValue := 0 }, { name := "LOG2_ARRAY_DOUBLE_INDEX_SCALE", type := .int, accessFlags := 25, slot := 9, constantValue := 0 }, { name := "LOG2_BYTE_BIT_SIZE", type := .int, accessFlags := 26, slot := 10, constantValue := 0 }, { name := "T_BOOLEAN", type := .int, accessFlags := 25, slot := 11, constantValue := 0 }, { name := "T_CHAR", type := .int, accessFlags := 25, slot := 12, constantValue := 0 }, { name := "T_FLOAT", type := .int, accessFlags := 25, slot := 13, constantValue := 0 }, { name := "T_DOUBLE", type := .int, accessFlags := 25, slot := 14, constantValue := 0 }, { name := "T_BYTE", type := .int, accessFlags := 25, slot := 15, constantValue := 0 }, { name := "T_SHORT", type := .int, accessFlags := 25, slot := 16, constantValue := 0 }, { name := "T_INT", type := .int, accessFlags := 25, slot := 17, constantValue := 0 }, { name := "T_LONG", type := .int, accessFlags := 25, slot := 18, constantValue := 0 }, { name := "JLA", type := (.object "jdk/internal/access/JavaLangAccess"), accessFlags := 26, slot := 19, constantValue := 0 }, { name := "SOFT_MAX_ARRAY_LENGTH", type := .int, accessFlags := 25, slot := 20, constantValue := 0 }]
  methods := #[k15m0]
  instanceTypes := #[]
  staticTypes := #[(.object "jdk/internal/misc/Unsafe"), .boolean, .int, .int, .int, .int, .int, .int, .int, .int, .int, .int, .int, .int, .int, .int, .int, .int, .int, (.object "jdk/internal/access/JavaLangAccess"), .int]
  resolved := Array.replicate 378 none
  statics := none }

def pool16 : Array CpInfo := pool [(1, u "java/lang/Cloneable"), (0, .class_ 1), (0, u "java/lang/Object"), (0, .class_ 3)] 3

/-- java/lang/Cloneable -/
def k16 : Class := { plain "java/lang/Cloneable" (some 0) with
  accessFlags := 1537
  interfaces := #[]
  cf := some (fileOf pool16 2 #[] #[] 1537 4 #[] #[])
  fields := #[]
  methods := #[]
  instanceTypes := #[]
  staticTypes := #[]
  resolved := Array.replicate 8 none
  statics := none }

/-- the primitive byte -/
def k17 : Class := { plain "byte" none with kind := .primitive 'B', accessFlags := 0x411 }
/-- [B -/
def k18 : Class := { plain "[B" (some 0) with kind := .array 17 .byte, interfaces := #[16, 3], accessFlags := 1041 }

/-- the primitive char -/
def k19 : Class := { plain "char" none with kind := .primitive 'C', accessFlags := 0x411 }
/-- [C -/
def k20 : Class := { plain "[C" (some 0) with kind := .array 19 .char, interfaces := #[16, 3], accessFlags := 1041 }

/-- the primitive int -/
def k21 : Class := { plain "int" none with kind := .primitive 'I', accessFlags := 0x411 }
/-- [I -/
def k22 : Class := { plain "[I" (some 0) with kind := .array 21 .int, interfaces := #[16, 3], accessFlags := 1041 }

def heap : Heap := #[{ cls := 6, slots := #[.double 0, .int 0, .int 0, .int 0, .int 0, .int 0, .int 0, .long 0, .null, .int 0, .long 0, .null, .null, .long 0, .long 0, .ref 6, .null, .null, .null, .null, .null, .int 0, .int 0, .int 0, .int 0, .int 0, .int 0, .int 0, .int 0, .null, .null, .null, .null, .int 0, .int 0, .null, .long 0, .null, .int 0], vm := .statics 6 },
  { cls := 10, slots := #[.long 0, .int 1, .null, .int 0, .null, .int 0, .int 0], vm := .statics 10 },
  { cls := 13, slots := #[.long 0, .int 0, .int 0, .int 0, .int 0, .int 0, .int 0, .int 0, .int 0, .int 0, .int 0, .int 0, .null, .int 0, .int 0, .null, .int 0, .null, .null, .null, .null, .double 0, .ref 5, .null, .null, .null, .null, .null, .int 0, .null, .null, .null, .null, .null, .long 0, .null, .int 0], vm := .statics 13 },
  { cls := 14, slots := #[.null, .null, .null], vm := .statics 14 },
  { cls := 22, slots := #[], vm := .none },
  { cls := 13, slots := #[.int 0, .ref 4, .int 0, .int 0, .int 0, .int 0], vm := .none },
  { cls := 6, slots := #[.ref 5, .int 0, .int 1, .null, .long 0], vm := .none }]
def classes : Array Class := #[k0, k1, k2, k3, k4, k5, k6, k7, k8, k9, k10, k11, k12, k13, k14, k15, k16, k17, k18, k19, k20, k21, k22]
def interned : List (Array UInt16 × Addr) := []
def slotsUsed : Nat := 97
def theMethod : MethodId := ⟨1, 1⟩
def args0 : Array Value := #[.int 5, .int 5, .int 5]
def aboutOver (below : List Frame) : State where
  vm := { classes := classes, interned := interned.toArray }
  heap := heap
  slotsUsed := slotsUsed
  threads := #[{ frames := .invoking theMethod args0 :: below }]
def below0 : List Frame := [.native { method := ⟨0, 0⟩, args := #[] }]
def about1 : State := aboutOver below0
def p0 : Program := .bare "" "" ""
def e0 : Env := launch0.env 0 0 0
theorem w_frames : about1.frames = Frame.invoking theMethod args0 :: below0 := rfl
set_option maxRecDepth 65536 in
theorem w_args : argsFit about1.vm theMethod args0 = true := by decide +kernel
set_option maxRecDepth 65536 in
theorem w_heap : heapFits about1 = true := by decide +kernel
set_option maxRecDepth 65536 in
theorem w_runnable : about1.curStatus? = some .runnable := by decide +kernel
set_option maxRecDepth 65536 in
theorem w_alone : about1.alone = true := by decide +kernel
set_option maxRecDepth 65536 in
theorem w_named : about1.methodNamed? x = some theMethod := by decide +kernel
set_option maxRecDepth 65536 in
theorem w_hears : about1.hears theMethod below0 = true := by decide +kernel
set_option maxRecDepth 65536 in
theorem w_ripe : about1.ripe theMethod args0 below0 = true := by decide +kernel
theorem w_running : about1.status = .running := rfl
set_option maxRecDepth 65536 in
theorem w_room : about1.hasRoom e0.platform room_1 = true :=
  launch0.hasRoom_least _ room_1 (by decide +kernel) (by decide +kernel) (by decide +kernel) (by decide +kernel) (by decide +kernel) (by decide +kernel)
theorem allAtoms_all (ts : List Jvm.Cond) (a : Array Jvm.Value) (st : Jvm.State) : (allAtoms ts).before a st = ts.all (fun c => c.before a st) := by
  induction ts with
  | nil => rfl
  | cons c t ih =>
    show (Jvm.Cond.and c (allAtoms t)).before a st = _
    rw [Jvm.Cond.before_and, ih, List.all_cons]
def words1 : List Jvm.Cond := Jvm.Cond.code x code maxLocals ret :: tables_1
/-- a 'code' word, met by the world's own term for the bytes: nothing is compared byte by byte -/
theorem code_word {y : MethodName} {bytes : ByteArray} {mx : Nat} {rt : Option FieldType} {a : Array Value} {s : State} {m : MethodId} {meth : Method} {c : Code} (h1 : s.methodNamed? y = some m) (h2 : s.vm.method? m = some meth) (h3 : meth.code = some c) (h4 : c.code = bytes)
    (h5 : (c.maxLocals == mx && c.exceptionTable.isEmpty && decide (c.maxStack ≤ mostOperands) && decide (meth.sig.returnType = rt) && !meth.locks && decide (parseMethodDescriptor y.desc = some meth.sig)) = true) : (Jvm.Cond.code y bytes mx rt).before a s = true := by
  simp only [Bool.and_eq_true, beq_iff_eq, Bool.not_eq_true', decide_eq_true_eq] at h5
  obtain ⟨⟨⟨⟨⟨g1, g2⟩, g3⟩, g4⟩, g5⟩, g6⟩ := h5
  simp [Cond.before, Cond.holds, Cond.value, h1, h2, h3, h4, g1, g2, g3, g4, g5, g6]
def isCode : Jvm.Cond → Bool
  | .code _ _ _ _ => true
  | _ => false
theorem all_split {L : List Jvm.Cond} {P : Jvm.Cond → Bool} (h1 : L.all (fun c => isCode c || P c) = true) (h2 : ∀ c ∈ L.filter isCode, P c = true) : L.all P = true := by
  refine List.all_eq_true.mpr fun c hc => ?_
  have h := List.all_eq_true.mp h1 c hc
  rcases Bool.eq_false_or_eq_true (isCode c) with hi | hi
  · exact h2 c (List.mem_filter.mpr ⟨hc, hi⟩)
  · simpa [hi] using h
set_option maxRecDepth 65536 in
theorem w_c0 : (Jvm.Cond.code x code maxLocals ret).before args0 about1 = true := code_word (m := ⟨1, 1⟩) (meth := k1m1) (c := k1c1) (by decide +kernel) rfl rfl rfl (by decide +kernel)
set_option maxRecDepth 65536 in
theorem w_c1 : (Jvm.Cond.code ({ cls := "com/example/ringfence/ringfence/gate/Measures", name := "<init>", desc := "(Lcom/example/ringfence/ringfence/gate/Pool;)V" } : Jvm.MethodName) prog_36_method_1_code (2 : Nat) (Option.none : Option Jvm.ClassFile.FieldType)).before args0 about1 = true := code_word (m := ⟨2, 0⟩) (meth := k2m0) (c := k2c0) (by decide +kernel) rfl rfl rfl (by decide +kernel)
set_option maxRecDepth 65536 in
theorem w_c2 : (Jvm.Cond.code ({ cls := "java/lang/Object", name := "<init>", desc := "()V" } : Jvm.MethodName) object_method_1_code (1 : Nat) (Option.none : Option Jvm.ClassFile.FieldType)).before args0 about1 = true := code_word (m := ⟨0, 0⟩) (meth := k0m0) (c := k0c0) (by decide +kernel) rfl rfl rfl (by decide +kernel)
set_option maxRecDepth 65536 in
theorem w_c3 : (Jvm.Cond.code ({ cls := "com/example/ringfence/ringfence/gate/Measures", name := "setUnrated", desc := "(Ljava/lang/String;)V" } : Jvm.MethodName) prog_36_method_5_code (2 : Nat) (Option.none : Option Jvm.ClassFile.FieldType)).before args0 about1 = true := code_word (m := ⟨2, 2⟩) (meth := k2m2) (c := k2c2) (by decide +kernel) rfl rfl rfl (by decide +kernel)
set_option maxRecDepth 65536 in
theorem w_c4 : (Jvm.Cond.code ({ cls := "com/example/ringfence/ringfence/gate/Measures", name := "set", desc := "(Lcom/example/ringfence/ringfence/gate/Measures;)V" } : Jvm.MethodName) prog_36_method_6_code (2 : Nat) (Option.none : Option Jvm.ClassFile.FieldType)).before args0 about1 = true := code_word (m := ⟨2, 3⟩) (meth := k2m3) (c := k2c3) (by decide +kernel) rfl rfl rfl (by decide +kernel)
set_option maxRecDepth 65536 in
theorem w_c5 : (Jvm.Cond.code ({ cls := "com/example/ringfence/ringfence/gate/Measures", name := "unrated", desc := "()Ljava/lang/String;" } : Jvm.MethodName) prog_36_method_4_code (1 : Nat) (Option.some (Jvm.ClassFile.FieldType.object "java/lang/String"))).before args0 about1 = true := code_word (m := ⟨2, 1⟩) (meth := k2m1) (c := k2c1) (by decide +kernel) rfl rfl rfl (by decide +kernel)
set_option maxRecDepth 65536 in
theorem w_c6 : (Jvm.Cond.code ({ cls := "com/example/ringfence/ringfence/gate/MeasuresSetPinLaw", name := "same", desc := "(Ljava/lang/String;Ljava/lang/String;)Z" } : Jvm.MethodName) method_4_code (2 : Nat) (Option.some Jvm.ClassFile.FieldType.boolean)).before args0 about1 = true := code_word (m := ⟨1, 3⟩) (meth := k1m3) (c := k1c3) (by decide +kernel) rfl rfl rfl (by decide +kernel)
set_option maxRecDepth 65536 in
theorem w_c7 : (Jvm.Cond.code ({ cls := "com/example/ringfence/ringfence/gate/MeasuresSetPinLaw", name := "drawn", desc := "(I)Ljava/lang/String;" } : Jvm.MethodName) method_3_code (4 : Nat) (Option.some (Jvm.ClassFile.FieldType.object "java/lang/String"))).before args0 about1 = true := code_word (m := ⟨1, 2⟩) (meth := k1m2) (c := k1c2) (by decide +kernel) rfl rfl rfl (by decide +kernel)
set_option maxRecDepth 65536 in
theorem w_c8 : (Jvm.Cond.code ({ cls := "java/lang/String", name := "<init>", desc := "([C)V" } : Jvm.MethodName) jdk_42_method_3_code (2 : Nat) (Option.none : Option Jvm.ClassFile.FieldType)).before args0 about1 = true := code_word (m := ⟨10, 1⟩) (meth := k10m1) (c := k10c1) (by decide +kernel) rfl rfl rfl (by decide +kernel)
set_option maxRecDepth 65536 in
theorem w_c9 : (Jvm.Cond.code ({ cls := "java/lang/String", name := "<init>", desc := "([CIILjava/lang/Void;)V" } : Jvm.MethodName) jdk_42_method_149_code (6 : Nat) (Option.none : Option Jvm.ClassFile.FieldType)).before args0 about1 = true := code_word (m := ⟨10, 4⟩) (meth := k10m4) (c := k10c4) (by decide +kernel) rfl rfl rfl (by decide +kernel)
set_option maxRecDepth 65536 in
theorem w_c10 : (Jvm.Cond.code ({ cls := "java/lang/StringUTF16", name := "compress", desc := "([CII)[B" } : Jvm.MethodName) jdk_52_method_16_code (6 : Nat) (Option.some (Jvm.ClassFile.FieldType.array Jvm.ClassFile.FieldType.byte))).before args0 about1 = true := code_word (m := ⟨11, 2⟩) (meth := k11m2) (c := k11c2) (by decide +kernel) rfl rfl rfl (by decide +kernel)
set_option maxRecDepth 65536 in
theorem w_c11 : (Jvm.Cond.code ({ cls := "java/lang/StringUTF16", name := "compress", desc := "([CI[BII)I" } : Jvm.MethodName) jdk_52_method_21_code (7 : Nat) (Option.some Jvm.ClassFile.FieldType.int)).before args0 about1 = true := code_word (m := ⟨11, 3⟩) (meth := k11m3) (c := k11c3) (by decide +kernel) rfl rfl rfl (by decide +kernel)
set_option maxRecDepth 65536 in
theorem w_c12 : (Jvm.Cond.code ({ cls := "java/lang/StringUTF16", name := "coderFromArrayLen", desc := "([BI)B" } : Jvm.MethodName) jdk_52_method_15_code (2 : Nat) (Option.some Jvm.ClassFile.FieldType.byte)).before args0 about1 = true := code_word (m := ⟨11, 1⟩) (meth := k11m1) (c := k11c1) (by decide +kernel) rfl rfl rfl (by decide +kernel)
set_option maxRecDepth 65536 in
theorem w_c13 : (Jvm.Cond.code ({ cls := "java/lang/String", name := "valueOf", desc := "(C)Ljava/lang/String;" } : Jvm.MethodName) jdk_42_method_139_code (1 : Nat) (Option.some (Jvm.ClassFile.FieldType.object "java/lang/String"))).before args0 about1 = true := code_word (m := ⟨10, 3⟩) (meth := k10m3) (c := k10c3) (by decide +kernel) rfl rfl rfl (by decide +kernel)
set_option maxRecDepth 65536 in
theorem w_c14 : (Jvm.Cond.code ({ cls := "java/lang/StringLatin1", name := "canEncode", desc := "(C)Z" } : Jvm.MethodName) jdk_43_method_3_code (1 : Nat) (Option.some Jvm.ClassFile.FieldType.boolean)).before args0 about1 = true := code_word (m := ⟨12, 1⟩) (meth := k12m1) (c := k12c1) (by decide +kernel) rfl rfl rfl (by decide +kernel)
set_option maxRecDepth 65536 in
theorem w_c15 : (Jvm.Cond.code ({ cls := "java/lang/StringLatin1", name := "toBytes", desc := "(C)[B" } : Jvm.MethodName) jdk_43_method_46_code (1 : Nat) (Option.some (Jvm.ClassFile.FieldType.array Jvm.ClassFile.FieldType.byte))).before args0 about1 = true := code_word (m := ⟨12, 2⟩) (meth := k12m2) (c := k12c2) (by decide +kernel) rfl rfl rfl (by decide +kernel)
set_option maxRecDepth 65536 in
theorem w_c16 : (Jvm.Cond.code ({ cls := "java/lang/String", name := "<init>", desc := "([BB)V" } : Jvm.MethodName) jdk_42_method_151_code (3 : Nat) (Option.none : Option Jvm.ClassFile.FieldType)).before args0 about1 = true := code_word (m := ⟨10, 5⟩) (meth := k10m5) (c := k10c5) (by decide +kernel) rfl rfl rfl (by decide +kernel)
set_option maxRecDepth 65536 in
theorem w_c17 : (Jvm.Cond.code ({ cls := "java/lang/String", name := "equals", desc := "(Ljava/lang/Object;)Z" } : Jvm.MethodName) jdk_42_method_66_code (3 : Nat) (Option.some Jvm.ClassFile.FieldType.boolean)).before args0 about1 = true := code_word (m := ⟨10, 2⟩) (meth := k10m2) (c := k10c2) (by decide +kernel) rfl rfl rfl (by decide +kernel)
def codes1 : List Jvm.Cond := [Jvm.Cond.code x code maxLocals ret, Jvm.Cond.code ({ cls := "com/example/ringfence/ringfence/gate/Measures", name := "<init>", desc := "(Lcom/example/ringfence/ringfence/gate/Pool;)V" } : Jvm.MethodName) prog_36_method_1_code (2 : Nat) (Option.none : Option Jvm.ClassFile.FieldType), Jvm.Cond.code ({ cls := "java/lang/Object", name := "<init>", desc := "()V" } : Jvm.MethodName) object_method_1_code (1 : Nat) (Option.none : Option Jvm.ClassFile.FieldType), Jvm.Cond.code ({ cls := "com/example/ringfence/ringfence/gate/Measures", name := "setUnrated", desc := "(Ljava/lang/String;)V" } : Jvm.MethodName) prog_36_method_5_code (2 : Nat) (Option.none : Option Jvm.ClassFile.FieldType), Jvm.Cond.code ({ cls := "com/example/ringfence/ringfence/gate/Measures", name := "set", desc := "(Lcom/example/ringfence/ringfence/gate/Measures;)V" } : Jvm.MethodName) prog_36_method_6_code (2 : Nat) (Option.none : Option Jvm.ClassFile.FieldType), Jvm.Cond.code ({ cls := "com/example/ringfence/ringfence/gate/Measures", name := "unrated", desc := "()Ljava/lang/String;" } : Jvm.MethodName) prog_36_method_4_code (1 : Nat) (Option.some (Jvm.ClassFile.FieldType.object "java/lang/String")), Jvm.Cond.code ({ cls := "com/example/ringfence/ringfence/gate/MeasuresSetPinLaw", name := "same", desc := "(Ljava/lang/String;Ljava/lang/String;)Z" } : Jvm.MethodName) method_4_code (2 : Nat) (Option.some Jvm.ClassFile.FieldType.boolean), Jvm.Cond.code ({ cls := "com/example/ringfence/ringfence/gate/MeasuresSetPinLaw", name := "drawn", desc := "(I)Ljava/lang/String;" } : Jvm.MethodName) method_3_code (4 : Nat) (Option.some (Jvm.ClassFile.FieldType.object "java/lang/String")), Jvm.Cond.code ({ cls := "java/lang/String", name := "<init>", desc := "([C)V" } : Jvm.MethodName) jdk_42_method_3_code (2 : Nat) (Option.none : Option Jvm.ClassFile.FieldType), Jvm.Cond.code ({ cls := "java/lang/String", name := "<init>", desc := "([CIILjava/lang/Void;)V" } : Jvm.MethodName) jdk_42_method_149_code (6 : Nat) (Option.none : Option Jvm.ClassFile.FieldType), Jvm.Cond.code ({ cls := "java/lang/StringUTF16", name := "compress", desc := "([CII)[B" } : Jvm.MethodName) jdk_52_method_16_code (6 : Nat) (Option.some (Jvm.ClassFile.FieldType.array Jvm.ClassFile.FieldType.byte)), Jvm.Cond.code ({ cls := "java/lang/StringUTF16", name := "compress", desc := "([CI[BII)I" } : Jvm.MethodName) jdk_52_method_21_code (7 : Nat) (Option.some Jvm.ClassFile.FieldType.int), Jvm.Cond.code ({ cls := "java/lang/StringUTF16", name := "coderFromArrayLen", desc := "([BI)B" } : Jvm.MethodName) jdk_52_method_15_code (2 : Nat) (Option.some Jvm.ClassFile.FieldType.byte), Jvm.Cond.code ({ cls := "java/lang/String", name := "valueOf", desc := "(C)Ljava/lang/String;" } : Jvm.MethodName) jdk_42_method_139_code (1 : Nat) (Option.some (Jvm.ClassFile.FieldType.object "java/lang/String")), Jvm.Cond.code ({ cls := "java/lang/StringLatin1", name := "canEncode", desc := "(C)Z" } : Jvm.MethodName) jdk_43_method_3_code (1 : Nat) (Option.some Jvm.ClassFile.FieldType.boolean), Jvm.Cond.code ({ cls := "java/lang/StringLatin1", name := "toBytes", desc := "(C)[B" } : Jvm.MethodName) jdk_43_method_46_code (1 : Nat) (Option.some (Jvm.ClassFile.FieldType.array Jvm.ClassFile.FieldType.byte)), Jvm.Cond.code ({ cls := "java/lang/String", name := "<init>", desc := "([BB)V" } : Jvm.MethodName) jdk_42_method_151_code (3 : Nat) (Option.none : Option Jvm.ClassFile.FieldType), Jvm.Cond.code ({ cls := "java/lang/String", name := "equals", desc := "(Ljava/lang/Object;)Z" } : Jvm.MethodName) jdk_42_method_66_code (3 : Nat) (Option.some Jvm.ClassFile.FieldType.boolean)]
set_option maxRecDepth 65536 in
theorem codes_eq : words1.filter isCode = codes1 := rfl
theorem w_codes : ∀ c ∈ words1.filter isCode, c.before args0 about1 = true := by
  rw [codes_eq]
  intro c hc
  simp only [codes1, List.mem_cons, List.not_mem_nil, or_false] at hc
  rcases hc with rfl | rfl | rfl | rfl | rfl | rfl | rfl | rfl | rfl | rfl | rfl | rfl | rfl | rfl | rfl | rfl | rfl | rfl
  · exact w_c0
  · exact w_c1
  · exact w_c2
  · exact w_c3
  · exact w_c4
  · exact w_c5
  · exact w_c6
  · exact w_c7
  · exact w_c8
  · exact w_c9
  · exact w_c10
  · exact w_c11
  · exact w_c12
  · exact w_c13
  · exact w_c14
  · exact w_c15
  · exact w_c16
  · exact w_c17
set_option maxRecDepth 65536 in
theorem w_t1 : (words1.take 24).all (fun c => isCode c || c.before args0 about1) = true := by decide +kernel
set_option maxRecDepth 65536 in
theorem w_t2 : ((words1.drop 24).take 24).all (fun c => isCode c || c.before args0 about1) = true := by decide +kernel
set_option maxRecDepth 65536 in
theorem w_t3 : (((words1.drop 24).drop 24).take 24).all (fun c => isCode c || c.before args0 about1) = true := by decide +kernel
set_option maxRecDepth 65536 in
theorem w_t4 : (((words1.drop 24).drop 24).drop 24).all (fun c => isCode c || c.before args0 about1) = true := by decide +kernel
theorem w_tables : (allAtoms (Jvm.Cond.code x code maxLocals ret :: tables_1)).before args0 about1 = true := by
  rw [allAtoms_all]
  show words1.all (fun c => c.before args0 about1) = true
  refine all_split ?_ w_codes
  rw [← List.take_append_drop 24 words1, List.all_append, w_t1, ← List.take_append_drop 24 (words1.drop 24), List.all_append, w_t2, ← List.take_append_drop 24 ((words1.drop 24).drop 24), List.all_append, w_t3, w_t4]
  rfl
set_option maxRecDepth 65536 in
theorem w_rest : rest_1_c.before args0 about1 = true := by decide +kernel
set_option maxRecDepth 65536 in
theorem w_case : (Jvm.Cond.and given_1 narrow_1).before args0 about1 = true := by decide +kernel
theorem w_applies : (headSpec (Jvm.Cond.code x code maxLocals ret :: tables_1) room_1).applies x e0.platform about1 = true :=
  (Spec.applies_iff w_frames).mpr ⟨w_running, w_runnable, w_alone, w_named, w_hears, w_ripe, w_room, w_tables⟩
theorem atStart : AtStart classFile x code maxLocals ret World_1 tables_1 room_1 Calls_1 rest_1 Pre_1 launch0 p0 e0 about1 theMethod args0 below0 :=
  ⟨lists_1, trivial, launch0.admits_env _ _ _, launch0.least_env, fairChoices_fair.cas, fairChoices_fair.clock, w_frames, w_args, w_heap, w_applies, trivial, w_rest, w_case⟩
end start1
theorem witness_1 : WitnessClaimed_1 := ⟨start1.p0, start1.e0, start1.about1, start1.theMethod, start1.args0, start1.below0, start1.atStart⟩
end Jvm.Pilot.@@N@@
