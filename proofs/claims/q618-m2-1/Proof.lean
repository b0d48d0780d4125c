import JvmDerived
import JvmDerived.Pilot.@@N@@Statement
import JvmDerived.Pilot.@@N@@Code
set_option linter.unusedVariables false
set_option linter.unusedSimpArgs false
namespace Jvm.RoadKit
open Sem ClassFile Op Lib Jvm.Stand Jvm.Free Jvm.LawKit
section Own
variable {p : Program} {l : Launch} {e : Env} {R : Room} {s : State} {m : MethodId} {args : Array Value} {below : List Frame} {meth : Method} {c : Code} {T : State} {locs : List Loc} {cells slots : Nat}
theorem retI (X : Stand p l e R s m args below meth c T locs cells slots) (hx : p.tables.exec = Jvm.exec) {pc : Nat} {Ls : Array Slot} {z : Int32} {rest : List Value} (hret : meth.sig.returnType = some .int) (hd : decode c.code pc = .ok (.ireturn, 1)) {fs : List Frame}
    (hl : ∀ (f : JFrame) (acts : List Action), f.method = m → f.locked = none → f.entered = [] → (doReturn e (T.setTop f) acts (some (.int z))).1 = T.setFrames fs) : Steps p.tables e below (T.setTop (mkF m pc Ls (.int z :: rest))) (T.setFrames fs) :=
  retOut X hx hret rfl (Or.inl ⟨rfl, Or.inl rfl, _, rfl⟩) hd hl
variable {Q : Option Value → Heap → List Loc → Prop} {kc ks : Nat} {S S' : State}
section H
variable {Z : State} {EL : List (String × Nat)} {QH : Option Value → Heap → List Loc → (Addr → Prop) → Prop} {a0 : Array Value} {h : Heap} {vm0 : Vm}
/-- a callee that may intern, at a site: what is Safe there goes in, what is Safe at its end comes out -/
theorem backOfY {y : MethodName} {bytes : ByteArray} {maxL : Nat} {ret : Option FieldType} {rm : Room} {len W : Nat} {as' : Array Value} {sf : List Addr}
    (hM : MetFree l y (head1 [Cond.code y bytes maxL ret] rm) (fun a U => a = as' ∧ Z.Warmed39 U.vm ∧ U.heap = h ∧ CHv Z EL U.vm h ∧ ∀ x ∈ sf, Safe Z EL U.vm h x) (fun _ _ _ _ _ => True) (fun _ U o U' => ∃ v L, o = .returned v ∧ QH v U'.heap L (Safe Z EL U'.vm U'.heap) ∧ CHr Z EL U.vm U.heap U'.vm U'.heap ∧ ReturnedEndW U o U' L rm.cells rm.slots))
    (hZ : Z.Warmed39 vm0) (wc : (Cond.code y bytes maxL ret).before a0 Z = true) (wz : (Cond.initialized y.cls).before a0 Z = true) (hf : rm.frames + 1 ≤ R.frames) (hl : W + (maxL + 11) + rm.locals ≤ R.locals) (hEL : EW Z a0 EL) (H : CHv Z EL vm0 h) (hs : ∀ x ∈ sf, Safe Z EL vm0 h x) (hlt : ∀ x ∈ sf, x < h.size) :
    BackS l R p e below (s.setVm vm0) args y len W (fun A a => a = as' ∧ A.U.heap = h ∧ A.cells + rm.cells ≤ R.cells ∧ A.slots + rm.slots ≤ R.slots)
      (fun A _ v B => ∃ L, QH v B.U.heap L (Safe Z EL B.U.vm B.U.heap) ∧ B.locs = A.locs ++ L ∧ B.cells = A.cells + rm.cells ∧ B.slots = A.slots + rm.slots ∧ CHr Z EL vm0 h B.U.vm B.U.heap) := by
  refine BackS.of_freeW (bytes := bytes) (maxL := maxL) (ret := ret) (E := fun _ first o t L k n => k = rm.cells ∧ n = rm.slots ∧ (∃ v, o = .returned v ∧ QH v t.heap L (Safe Z EL t.vm t.heap)) ∧ CHr Z EL first.vm first.heap t.vm t.heap) hM hf hl ?_ ?_ (fun _ _ _ _ _ _ _ _ _ => trivial) ?_ ?_
  · intro m meth c A a Y hp
    have hU : Z.Warmed39 A.U.vm := wtrans (s := s.setVm vm0) hZ Y.warmed
    exact ⟨by show (Cond.and _ .tt).before a A.U = true; rw [Cond.before_and, mv hU wc]; rfl, mv hU wc, mv hU wz, hp.2.2.1, hp.2.2.2⟩
  · intro m meth c A a g mk Y hp
    have q := CHv.at Y hZ hEL H
    exact ⟨hp.1, wtrans (s := s.setVm vm0) hZ Y.warmed, hp.2.1, q.1, fun x hx => q.safe (hlt x hx) (hs x hx)⟩
  · rintro _ _ _ _ ⟨v, L, h1, h2, h3, h4⟩
    exact ⟨L, _, _, h4, rfl, rfl, ⟨v, h1, h2⟩, h3⟩
  · rintro m meth c A a g mk v t L k n Y hp - - ⟨e1, e2, ⟨v', e3, e4⟩, e5⟩
    cases e3; subst e1 e2
    refine ⟨L, e4, rfl, rfl, rfl, (CHv.at Y hZ hEL H).trans ?_⟩
    rw [← hp.2.1]; exact e5
end H
theorem own_len {Z : State} {args : Array Value} {t : Term} {a : Addr} {c : Cell} {ty : FieldType} {z : Int32} (ev : t.eval args Z none [] Z = some (.ref a)) (A : Arr Z Z.heap a c ty) (h : (Cond.eq (.length t) (.int z)).value args Z none Z [] = some true) : c.slots.size < 2 ^ 31 ∧ c.slots.size.toInt32 = z := by
  have ha := A.fin (U := Z) (Vm.Alike.refl _)
  by_cases q : c.slots.size < 2 ^ 31
  · exact ⟨q, gotT (Cond.eq_ints (len_f ev ha q) (Term.int_eval z)) h⟩
  · simp [Cond.value, Term.eval, ev, ha, q] at h
theorem own_narref {t : FieldType} {w : Value} (h : w.isRef = true) : narrow t w = w := by
  rcases XT.refc h with rfl | ⟨r, rfl⟩ <;> cases t <;> rfl
theorem own_fitsref {t : FieldType} {w : Value} (ht : t.isReference = true) (h : w.isRef = true) : fits t w = true := by
  rcases XT.refc h with rfl | ⟨r, rfl⟩ <;> cases t <;> first | rfl | (cases ht)
theorem nar_c (x : Int32) : nar .char x.toUInt32.toUInt16.toUInt32.toInt32 = x.toUInt32.toUInt16.toUInt32.toInt32 := by
  have := XT.narrow_c x
  simpa [narrow, nar] using this
theorem nar_b (x : Int32) : nar .byte x.toInt8.toInt32 = x.toInt8.toInt32 := by
  have := XT.narrow_b x
  simpa [narrow, nar] using this
theorem nar_ite {P : Prop} [Decidable P] : nar .boolean (if P then (1 : Int32) else 0) = (if P then (1 : Int32) else 0) := by split <;> decide
theorem nar_ite' {P : Prop} [Decidable P] : nar .boolean (if P then (0 : Int32) else 1) = (if P then (0 : Int32) else 1) := by split <;> decide
theorem narrow_nar {t : FieldType} {z : Int32} (ht : t = .boolean ∨ t = .byte ∨ t = .char ∨ t = .short) (h : nar t z = z) : narrow t (.int z) = .int z := by
  have hn : narrow t (.int z) = .int (nar t z) := by rcases ht with rfl | rfl | rfl | rfl <;> rfl
  rw [hn, h]
end Own
/-- the run that stands in S ends as E says -/
def Runs (p : Program) (e : Env) (below : List Frame) (E : State → Outcome → Prop) (S : State) : Prop :=
  ∃ s₂ o, Steps p.tables e below S s₂ ∧ s₂.status = .running ∧ Ended s₂ below o ∧ E s₂ o
theorem Runs.by {p : Program} {e : Env} {below : List Frame} {E : State → Outcome → Prop} {S S' : State} (k : Runs p e below E S') (st : ∀ t, Steps p.tables e below S' t → Steps p.tables e below S t) : Runs p e below E S := by
  obtain ⟨s₂, o, h1, h2⟩ := k
  exact ⟨s₂, o, st _ h1, h2⟩
theorem Runs.tr {p : Program} {e : Env} {below : List Frame} {E : State → Outcome → Prop} {S S' : State} (k : Runs p e below E S') (st : Steps p.tables e below S S') : Runs p e below E S := by
  obtain ⟨s₂, o, h1, h2⟩ := k
  exact ⟨s₂, o, st.trans h1, h2⟩
def EndN (s : State) (Q : Option Value → Heap → List Loc → Prop) (kc ks : Nat) : State → Outcome → Prop := fun s₂ o => ∃ v L, o = .returned v ∧ Q v s₂.heap L ∧ FrameEnd s o s₂ L kc ks
def EndH (s Z : State) (EL : List (String × Nat)) (Q : Option Value → Heap → List Loc → (Addr → Prop) → Prop) (kc ks : Nat) : State → Outcome → Prop := fun s₂ o => ∃ v L, o = .returned v ∧ Q v s₂.heap L (Safe Z EL s₂.vm s₂.heap) ∧ CHr Z EL s.vm s.heap s₂.vm s₂.heap ∧ ReturnedEndW s o s₂ L kc ks
theorem own_nfS {args : Array Value} {s : State} {C : String} {x z y : MethodName} (h : (Cond.selects C x z).before args s = true) (e : z.cls = y.cls) : NotFace s y := fun r0 h0 => by
  obtain ⟨c2, r2, m2, q1, q2, q3, q4, kP, hkP, hkPi⟩ := Cond.selects_spec h
  have f1 := findClass_of_methodNamed q3
  have f2 := findClass_of_methodNamed h0
  rw [e] at f1
  have f3 : m2.cls = r0.cls := Option.some.inj (f1.symm.trans f2)
  exact ⟨kP, f3 ▸ hkP, hkPi⟩
theorem own_prS {args : Array Value} {s : State} {C : String} {x z y : MethodName} (h : (Cond.selects C x z).before args s = true) (e : z.cls = y.cls) (hpriv : s.PrivateAt y) (hinst : (Cond.instanceMethod y).before args s = true) (hy : y.cls ≠ "java/lang/invoke/MethodHandle" ∧ y.cls ≠ "java/lang/invoke/VarHandle") : (Cond.selects y.cls y y).before args s = true := by
  obtain ⟨mk, methM, hnamed, hmethM, -, -⟩ := Cond.instanceMethod_spec hinst
  obtain ⟨kP, hk, hi⟩ := own_nfS h e mk hnamed
  exact selects_self_of_private (findClass_of_methodNamed hnamed) hk hi hpriv hinst hy
theorem own_sameS {args : Array Value} {s : State} {C : String} {x z y : MethodName} (h : (Cond.selects C x z).before args s = true) (e : z.cls = y.cls) (hinst : (Cond.instanceMethod y).before args s = true) (hy : y.cls ≠ "java/lang/invoke/MethodHandle" ∧ y.cls ≠ "java/lang/invoke/VarHandle") : (Cond.sameMethod y.cls y.cls y.name y.desc).before args s = true := by
  obtain ⟨mk, methM, hnamed, hmethM, -, -⟩ := Cond.instanceMethod_spec hinst
  obtain ⟨kP, hk, hi⟩ := own_nfS h e mk hnamed
  have hc := findClass_of_methodNamed hnamed
  have hfound : s.methodFound? y.cls y.name y.desc = some mk := State.methodFound?_of_named hnamed hy
  have hn : s.methodNamed? ⟨y.cls, y.name, y.desc⟩ = some mk := hnamed
  simp only [Cond.before, Cond.holds, Cond.value, hc, hfound, hn, hk]
  simp [hi]
section W
variable {p : Program} {l : Launch} {e : Env} {Rm : Room} {s : State} {m : MethodId} {args : Array Value} {below : List Frame} {meth : Method} {c : Code} {T : State} {locs : List Loc} {cells slots : Nat} {E : State → Outcome → Prop} {pc pc' : Nat} {Ls : Array Slot} {st : List Value}
theorem pq (n : Nat) : n = n := rfl
theorem w_done (X : Stand p l e Rm s m args below meth c T locs cells slots) (hlk : meth.locks = false) {Q : Option Value → Heap → List Loc → Prop} {kc ks : Nat} {h : Heap} {v : Option Value} {g : JFrame} (eT : T.heap = h) (hv : meth.sig.returnType = none → v = none)
    (hr : ∀ fs, (∀ (f : JFrame) (acts : List Action), f.method = m → f.locked = none → f.entered = [] → (doReturn e (T.setTop f) acts v).1 = T.setFrames fs) → Steps p.tables e below (T.setTop g) (T.setFrames fs)) (hc : cells ≤ kc) (hn : slots ≤ ks) (hQ : Q v h locs) : Runs p e below (EndN s Q kc ks) (T.setTop g) := by
  obtain ⟨fs, h1, hrun, hended, hW, hsame⟩ := X.leave hv hlk
  subst eT
  exact ⟨_, _, hr fs h1, hrun, hended, v, locs, rfl, hQ, ⟨_, rfl⟩, hW, hsame.mono hc hn⟩
theorem w_doneH {vm₁ : Vm} (X : Stand p l e Rm (s.setVm vm₁) m args below meth c T locs cells slots) (hlk : meth.locks = false) {Z : State} {a0 : Array Value} {EL : List (String × Nat)} {Q : Option Value → Heap → List Loc → (Addr → Prop) → Prop} {kc ks k0 : Nat} {h h0 : Heap} {v : Option Value} {g : JFrame} (eT : T.heap = h) (hh : s.heap = h0) (hZ : Z.Warmed39 vm₁) (hEL : EW Z a0 EL) (hS : s.Since vm₁ k0) (hk : k0 ≤ h.size) (C : CHr Z EL s.vm h0 vm₁ h) (hv : meth.sig.returnType = none → v = none)
    (hr : ∀ fs, (∀ (f : JFrame) (acts : List Action), f.method = m → f.locked = none → f.entered = [] → (doReturn e (T.setTop f) acts v).1 = T.setFrames fs) → Steps p.tables e below (T.setTop g) (T.setFrames fs)) (hc : cells ≤ kc) (hn : slots ≤ ks) (hQ : (∀ x, x < h.size → Safe Z EL vm₁ h x → Safe Z EL T.vm h x) → Q v h locs (Safe Z EL T.vm h)) : Runs p e below (EndH s Z EL Q kc ks) (T.setTop g) := by
  subst eT hh
  obtain ⟨fs, h1, hrun, hended, q1, q2, q3, q4⟩ := X.leaveW hS hk hv hlk
  have A := CHv.at X hZ hEL C.1
  exact ⟨_, _, hr fs h1, hrun, hended, v, locs, rfl, hQ (fun x hx S => A.safe hx S), C.trans A, q1, q2, q3, q4.mono hc hn⟩
theorem w_aload (X : Stand p l e Rm s m args below meth c T locs cells slots) (hx : p.tables.exec = Jvm.exec) {k : Nat} {v : Value} (hd : decode c.code pc = .ok (.aload k, 2)) (hl : Ls[k]? = some (.val v)) (hv : v.isRef = true) (hp : pc + 2 = pc') (K : Runs p e below E (T.setTop (mkF m pc' Ls (v :: st)))) : Runs p e below E (T.setTop (mkF m pc Ls st)) := by
  subst hp; exact K.by fun _ k => XS.aload X.here hx rfl hd hl hv k
theorem w_aloadN (X : Stand p l e Rm s m args below meth c T locs cells slots) (hx : p.tables.exec = Jvm.exec) {k : Fin 4} {v : Value} (hd : decode c.code pc = .ok (.aload_n k, 1)) (hl : Ls[k.val]? = some (.val v)) (hv : v.isRef = true) (hp : pc + 1 = pc') (K : Runs p e below E (T.setTop (mkF m pc' Ls (v :: st)))) : Runs p e below E (T.setTop (mkF m pc Ls st)) := by
  subst hp; exact K.by fun _ k => XS.aloadN X.here hx rfl hd hl hv k
theorem w_iload (X : Stand p l e Rm s m args below meth c T locs cells slots) (hx : p.tables.exec = Jvm.exec) {k : Nat} {v : Int32} (hd : decode c.code pc = .ok (.iload k, 2)) (hl : Ls[k]? = some (.val (.int v))) (hp : pc + 2 = pc') (K : Runs p e below E (T.setTop (mkF m pc' Ls (.int v :: st)))) : Runs p e below E (T.setTop (mkF m pc Ls st)) := by
  subst hp; exact K.by fun _ k => XS.iload X.here hx rfl hd hl k
theorem w_iloadN (X : Stand p l e Rm s m args below meth c T locs cells slots) (hx : p.tables.exec = Jvm.exec) {k : Fin 4} {v : Int32} (hd : decode c.code pc = .ok (.iload_n k, 1)) (hl : Ls[k.val]? = some (.val (.int v))) (hp : pc + 1 = pc') (K : Runs p e below E (T.setTop (mkF m pc' Ls (.int v :: st)))) : Runs p e below E (T.setTop (mkF m pc Ls st)) := by
  subst hp; exact K.by fun _ k => XS.iloadN X.here hx rfl hd hl k
theorem w_istore (X : Stand p l e Rm s m args below meth c T locs cells slots) (hx : p.tables.exec = Jvm.exec) {k : Nat} {x : Int32} {L' : Array Slot} (hd : decode c.code pc = .ok (.istore k, 2)) (hl : storeLocals Ls k (.int x) = some L') (hp : pc + 2 = pc') (K : Runs p e below E (T.setTop (mkF m pc' L' st))) : Runs p e below E (T.setTop (mkF m pc Ls (.int x :: st))) := by
  subst hp; exact K.by fun _ k => XS.istore X.here hx rfl hd rfl hl k
theorem w_istoreN (X : Stand p l e Rm s m args below meth c T locs cells slots) (hx : p.tables.exec = Jvm.exec) {k : Fin 4} {x : Int32} {L' : Array Slot} (hd : decode c.code pc = .ok (.istore_n k, 1)) (hl : storeLocals Ls k.val (.int x) = some L') (hp : pc + 1 = pc') (K : Runs p e below E (T.setTop (mkF m pc' L' st))) : Runs p e below E (T.setTop (mkF m pc Ls (.int x :: st))) := by
  subst hp; exact K.by fun _ k => XS.istoreN X.here hx rfl hd rfl hl k
theorem w_astore (X : Stand p l e Rm s m args below meth c T locs cells slots) (hx : p.tables.exec = Jvm.exec) {k : Nat} {x : Value} {L' : Array Slot} (hd : decode c.code pc = .ok (.astore k, 2)) (hv : x.isRef = true) (hl : storeLocals Ls k x = some L') (hp : pc + 2 = pc') (K : Runs p e below E (T.setTop (mkF m pc' L' st))) : Runs p e below E (T.setTop (mkF m pc Ls (x :: st))) := by
  subst hp; exact K.by fun _ k => XS.astore X.here hx rfl hd rfl hv hl k
theorem w_astoreN (X : Stand p l e Rm s m args below meth c T locs cells slots) (hx : p.tables.exec = Jvm.exec) {k : Fin 4} {x : Value} {L' : Array Slot} (hd : decode c.code pc = .ok (.astore_n k, 1)) (hv : x.isRef = true) (hl : storeLocals Ls k.val x = some L') (hp : pc + 1 = pc') (K : Runs p e below E (T.setTop (mkF m pc' L' st))) : Runs p e below E (T.setTop (mkF m pc Ls (x :: st))) := by
  subst hp; exact K.by fun _ k => XS.astoreN X.here hx rfl hd rfl hv hl k
theorem w_iconst (X : Stand p l e Rm s m args below meth c T locs cells slots) (hx : p.tables.exec = Jvm.exec) {i : Int} {v : Int32} (hd : decode c.code pc = .ok (.iconst i, 1)) (hv : Int32.ofInt i = v) (hp : pc + 1 = pc') (K : Runs p e below E (T.setTop (mkF m pc' Ls (.int v :: st)))) : Runs p e below E (T.setTop (mkF m pc Ls st)) := by
  subst hp; exact K.by fun _ k => XT.iconstV X.here hx rfl v hd hv k
theorem w_bipush (X : Stand p l e Rm s m args below meth c T locs cells slots) (hx : p.tables.exec = Jvm.exec) {i : Int} {v : Int32} (hd : decode c.code pc = .ok (.bipush i, 2)) (hv : (Int8.ofInt i).toInt32 = v) (hp : pc + 2 = pc') (K : Runs p e below E (T.setTop (mkF m pc' Ls (.int v :: st)))) : Runs p e below E (T.setTop (mkF m pc Ls st)) := by
  subst hp; exact K.by fun _ k => XT.bipushV X.here hx rfl v hd hv k
theorem w_sipush (X : Stand p l e Rm s m args below meth c T locs cells slots) (hx : p.tables.exec = Jvm.exec) {i : Int} {v : Int32} (hd : decode c.code pc = .ok (.sipush i, 3)) (hv : (Int16.ofInt i).toInt32 = v) (hp : pc + 3 = pc') (K : Runs p e below E (T.setTop (mkF m pc' Ls (.int v :: st)))) : Runs p e below E (T.setTop (mkF m pc Ls st)) := by
  subst hp; exact K.by fun _ k => XT.sipushV X.here hx rfl v hd hv k
theorem w_null (X : Stand p l e Rm s m args below meth c T locs cells slots) (hx : p.tables.exec = Jvm.exec)  (hd : decode c.code pc = .ok (.aconst_null, 1))  (hp : pc + 1 = pc') (K : Runs p e below E (T.setTop (mkF m pc' Ls (.null :: st)))) : Runs p e below E (T.setTop (mkF m pc Ls st)) := by
  subst hp; exact K.by fun _ k => XS.aconstNull X.here hx rfl hd k
theorem w_iadd (X : Stand p l e Rm s m args below meth c T locs cells slots) (hx : p.tables.exec = Jvm.exec) {x y : Int32} (hd : decode c.code pc = .ok (.iadd, 1))  (hp : pc + 1 = pc') (K : Runs p e below E (T.setTop (mkF m pc' Ls (.int (x + y) :: st)))) : Runs p e below E (T.setTop (mkF m pc Ls (.int y :: .int x :: st))) := by
  subst hp; exact K.by fun _ k => XS.iadd X.here hx rfl hd rfl k
theorem w_isub (X : Stand p l e Rm s m args below meth c T locs cells slots) (hx : p.tables.exec = Jvm.exec) {x y : Int32} (hd : decode c.code pc = .ok (.isub, 1))  (hp : pc + 1 = pc') (K : Runs p e below E (T.setTop (mkF m pc' Ls (.int (x - y) :: st)))) : Runs p e below E (T.setTop (mkF m pc Ls (.int y :: .int x :: st))) := by
  subst hp; exact K.by fun _ k => XS.isub X.here hx rfl hd rfl k
theorem w_iand (X : Stand p l e Rm s m args below meth c T locs cells slots) (hx : p.tables.exec = Jvm.exec) {x y : Int32} (hd : decode c.code pc = .ok (.iand, 1))  (hp : pc + 1 = pc') (K : Runs p e below E (T.setTop (mkF m pc' Ls (.int (x &&& y) :: st)))) : Runs p e below E (T.setTop (mkF m pc Ls (.int y :: .int x :: st))) := by
  subst hp; exact K.by fun _ k => XS.iand X.here hx rfl hd rfl k
theorem w_irem (X : Stand p l e Rm s m args below meth c T locs cells slots) (hx : p.tables.exec = Jvm.exec) {x y : Int32} (hd : decode c.code pc = .ok (.irem, 1)) (hy : ¬ y = 0) (hp : pc + 1 = pc') (K : Runs p e below E (T.setTop (mkF m pc' Ls (.int (x % y) :: st)))) : Runs p e below E (T.setTop (mkF m pc Ls (.int y :: .int x :: st))) := by
  subst hp; exact K.by fun _ k => iremM (g := mkF m pc Ls _) X hx rfl hd rfl hy k
theorem w_i2b (X : Stand p l e Rm s m args below meth c T locs cells slots) (hx : p.tables.exec = Jvm.exec) {x : Int32} (hd : decode c.code pc = .ok (.i2b, 1))  (hp : pc + 1 = pc') (K : Runs p e below E (T.setTop (mkF m pc' Ls (.int (x.toInt8.toInt32) :: st)))) : Runs p e below E (T.setTop (mkF m pc Ls (.int x :: st))) := by
  subst hp; exact K.by fun _ k => XS.i2b X.here hx rfl hd rfl k
theorem w_i2c (X : Stand p l e Rm s m args below meth c T locs cells slots) (hx : p.tables.exec = Jvm.exec) {x : Int32} (hd : decode c.code pc = .ok (.i2c, 1))  (hp : pc + 1 = pc') (K : Runs p e below E (T.setTop (mkF m pc' Ls (.int (x.toUInt32.toUInt16.toUInt32.toInt32) :: st)))) : Runs p e below E (T.setTop (mkF m pc Ls (.int x :: st))) := by
  subst hp; exact K.by fun _ k => XS.i2c X.here hx rfl hd rfl k
theorem w_ishr (X : Stand p l e Rm s m args below meth c T locs cells slots) (hx : p.tables.exec = Jvm.exec) {x y : Int32} (hd : decode c.code pc = .ok (.ishr, 1))  (hp : pc + 1 = pc') (K : Runs p e below E (T.setTop (mkF m pc' Ls (.int (x >>> (y &&& 31)) :: st)))) : Runs p e below E (T.setTop (mkF m pc Ls (.int y :: .int x :: st))) := by
  subst hp; exact K.by fun _ k => XS.ishr X.here hx rfl hd rfl k
theorem w_iushr (X : Stand p l e Rm s m args below meth c T locs cells slots) (hx : p.tables.exec = Jvm.exec) {x y : Int32} (hd : decode c.code pc = .ok (.iushr, 1))  (hp : pc + 1 = pc') (K : Runs p e below E (T.setTop (mkF m pc' Ls (.int ((x.toUInt32 >>> (y &&& 31).toUInt32).toInt32) :: st)))) : Runs p e below E (T.setTop (mkF m pc Ls (.int y :: .int x :: st))) := by
  subst hp; exact K.by fun _ k => XS.iushr X.here hx rfl hd rfl k
theorem w_iinc (X : Stand p l e Rm s m args below meth c T locs cells slots) (hx : p.tables.exec = Jvm.exec) {k : Nat} {cst : Int} {x v : Int32} {L' : Array Slot} (hd : decode c.code pc = .ok (.iinc k cst, 3)) (hv : Int32.ofInt cst = v) (hl : Ls[k]? = some (.val (.int x))) (hl' : storeLocals Ls k (.int (x + v)) = some L') (hp : pc + 3 = pc') (K : Runs p e below E (T.setTop (mkF m pc' L' st))) : Runs p e below E (T.setTop (mkF m pc Ls st)) := by
  subst hp; exact K.by fun _ k => XT.iincV X.here hx rfl v hd hv hl hl' k
theorem w_dup (X : Stand p l e Rm s m args below meth c T locs cells slots) (hx : p.tables.exec = Jvm.exec) {x : Value} (hd : decode c.code pc = .ok (.dup, 1)) (hc : x.category = 1) (hp : pc + 1 = pc') (K : Runs p e below E (T.setTop (mkF m pc' Ls (x :: x :: st)))) : Runs p e below E (T.setTop (mkF m pc Ls (x :: st))) := by
  subst hp; exact K.by fun _ k => XS.dup X.here hx rfl hd rfl hc k
theorem w_dupX1 (X : Stand p l e Rm s m args below meth c T locs cells slots) (hx : p.tables.exec = Jvm.exec) {x y : Value} (hd : decode c.code pc = .ok (.dup_x1, 1)) (hc : x.category = 1) (hc' : y.category = 1) (hp : pc + 1 = pc') (K : Runs p e below E (T.setTop (mkF m pc' Ls (x :: y :: x :: st)))) : Runs p e below E (T.setTop (mkF m pc Ls (x :: y :: st))) := by
  subst hp; exact K.by fun _ k => XS.dupX1 X.here hx rfl hd rfl hc hc' k
theorem w_pop (X : Stand p l e Rm s m args below meth c T locs cells slots) (hx : p.tables.exec = Jvm.exec) {x : Value} (hd : decode c.code pc = .ok (.pop, 1)) (hc : x.category = 1) (hp : pc + 1 = pc') (K : Runs p e below E (T.setTop (mkF m pc' Ls st))) : Runs p e below E (T.setTop (mkF m pc Ls (x :: st))) := by
  subst hp; exact K.by fun _ k => XS.pop X.here hx rfl hd rfl hc k
theorem w_goto (X : Stand p l e Rm s m args below meth c T locs cells slots) (hx : p.tables.exec = Jvm.exec) {o : Int} (hd : decode c.code pc = .ok (.goto o, 3))  (ho : 0 ≤ (pc : Int) + o) (hp : ((pc : Int) + o).toNat = pc') (K : Runs p e below E (T.setTop (mkF m pc' Ls st))) : Runs p e below E (T.setTop (mkF m pc Ls st)) := by
  exact K.by fun _ k => XS.goto X.here hx rfl rfl hd ho hp k
theorem w_ifY (X : Stand p l e Rm s m args below meth c T locs cells slots) (hx : p.tables.exec = Jvm.exec) {cd : ClassFile.Cond} {x : Int32} {o : Int} (hd : decode c.code pc = .ok (.ifCond cd o, 3)) (hc : if_icmp.holds cd x 0 = true) (ho : 0 ≤ (pc : Int) + o) (hp : ((pc : Int) + o).toNat = pc') (K : Runs p e below E (T.setTop (mkF m pc' Ls st))) : Runs p e below E (T.setTop (mkF m pc Ls (.int x :: st))) := by
  exact K.by fun _ k => XS.ifYes X.here hx rfl rfl hd rfl ((if0 _ _).trans hc) ho hp k
theorem w_ifN (X : Stand p l e Rm s m args below meth c T locs cells slots) (hx : p.tables.exec = Jvm.exec) {cd : ClassFile.Cond} {x : Int32} {o : Int} (hd : decode c.code pc = .ok (.ifCond cd o, 3)) (hc : if_icmp.holds cd x 0 = false) (hp : pc + 3 = pc') (K : Runs p e below E (T.setTop (mkF m pc' Ls st))) : Runs p e below E (T.setTop (mkF m pc Ls (.int x :: st))) := by
  subst hp; exact K.by fun _ k => XS.ifNo X.here hx rfl hd rfl ((if0 _ _).trans hc) k
theorem w_icY (X : Stand p l e Rm s m args below meth c T locs cells slots) (hx : p.tables.exec = Jvm.exec) {cd : ClassFile.Cond} {x y : Int32} {o : Int} (hd : decode c.code pc = .ok (.if_icmp cd o, 3)) (hc : if_icmp.holds cd x y = true) (ho : 0 ≤ (pc : Int) + o) (hp : ((pc : Int) + o).toNat = pc') (K : Runs p e below E (T.setTop (mkF m pc' Ls st))) : Runs p e below E (T.setTop (mkF m pc Ls (.int y :: .int x :: st))) := by
  exact K.by fun _ k => XS.icmpYes X.here hx rfl rfl hd rfl hc ho hp k
theorem w_icN (X : Stand p l e Rm s m args below meth c T locs cells slots) (hx : p.tables.exec = Jvm.exec) {cd : ClassFile.Cond} {x y : Int32} {o : Int} (hd : decode c.code pc = .ok (.if_icmp cd o, 3)) (hc : if_icmp.holds cd x y = false) (hp : pc + 3 = pc') (K : Runs p e below E (T.setTop (mkF m pc' Ls st))) : Runs p e below E (T.setTop (mkF m pc Ls (.int y :: .int x :: st))) := by
  subst hp; exact K.by fun _ k => XS.icmpNo X.here hx rfl hd rfl hc k
theorem w_ifnonnullY (X : Stand p l e Rm s m args below meth c T locs cells slots) (hx : p.tables.exec = Jvm.exec) {b : Addr} {o : Int} (hd : decode c.code pc = .ok (.ifnonnull o, 3))  (ho : 0 ≤ (pc : Int) + o) (hp : ((pc : Int) + o).toNat = pc') (K : Runs p e below E (T.setTop (mkF m pc' Ls st))) : Runs p e below E (T.setTop (mkF m pc Ls (.ref b :: st))) := by
  exact K.by fun _ k => XS.ifnonnullYes X.here hx rfl rfl hd rfl ho hp k
theorem w_acmp (X : Stand p l e Rm s m args below meth c T locs cells slots) (hx : p.tables.exec = Jvm.exec) {cd : ACond} {x y : Value} {o : Int} {same : Bool} (hd : decode c.code pc = .ok (.if_acmp cd o, 3)) (h1 : x.isRef = true) (h2 : y.isRef = true) (hq : decide (x = y) = same) (ho : 0 ≤ (pc : Int) + o) (hp : pc' = if acV cd same = true then ((pc : Int) + o).toNat else pc + 3) (K : Runs p e below E (T.setTop (mkF m pc' Ls st))) : Runs p e below E (T.setTop (mkF m pc Ls (y :: x :: st))) := by
  exact K.by fun _ k => Jvm.RoadKit.acmp (g := mkF m pc Ls _) X hx rfl h1 h2 rfl hd rfl hq ho hp k
theorem w_getF (X : Stand p l e Rm s m args below meth c T locs cells slots) (hx : p.tables.exec = Jvm.exec) {Z : State} {a0 : Array Value} {h : Heap} {own R0 O n d : String} (host : String) {index : Nat} {a : Addr} {v : Value} (hZ : Z.Warmed39 s.vm) (hown : s.vm.findClass own = some m.cls) (w : (Cond.fieldLink own index R0 n d).before a0 Z = true ∨ (Cond.fieldLinkNest own index R0 n d host).before a0 Z = true) (via : Via Z R0 O n d) (eT : T.heap = h) (F : Fld Z h a O n d v) (hd : decode c.code pc = .ok (.getfield index, 3)) (hp : pc + 3 = pc') (K : ∀ T' : State, Stand p l e Rm s m args below meth c T' locs cells slots → T'.heap = h → Runs p e below E (T'.setTop (mkF m pc' Ls (v :: st)))) : Runs p e below E (T.setTop (mkF m pc Ls (.ref a :: st))) := by
  subst hp
  obtain ⟨T1, X1, e1, st1⟩ := getF X hx hZ hown (host := host) w via eT F (g := mkF m pc Ls (.ref a :: st)) rfl rfl hd
  exact (K T1 X1 e1).by st1
theorem w_getS (X : Stand p l e Rm s m args below meth c T locs cells slots) (hx : p.tables.exec = Jvm.exec) {Z : State} {a0 : Array Value} {h : Heap} {own R0 O n d : String} (host : String) {index : Nat} {v : Value} (hZ : Z.Warmed39 s.vm) (hown : s.vm.findClass own = some m.cls) (w : (Cond.fieldLink own index R0 n d).before a0 Z = true ∨ (Cond.fieldLinkNest own index R0 n d host).before a0 Z = true) (via : Via Z R0 O n d) (eT : T.heap = h) (F : Sta Z h O n d v) (hd : decode c.code pc = .ok (.getstatic index, 3)) (hp : pc + 3 = pc') (K : ∀ T' : State, Stand p l e Rm s m args below meth c T' locs cells slots → T'.heap = h → Runs p e below E (T'.setTop (mkF m pc' Ls (v :: st)))) : Runs p e below E (T.setTop (mkF m pc Ls st)) := by
  subst hp
  obtain ⟨T1, X1, e1, st1⟩ := getS2 X hx hZ hown (host := host) w via eT F (g := mkF m pc Ls st) rfl hd
  exact (K T1 X1 e1).by st1
theorem w_putF (X : Stand p l e Rm s m args below meth c T locs cells slots) (hx : p.tables.exec = Jvm.exec) {Z : State} {a0 : Array Value} {h : Heap} {own R0 O n d C : String} (host : String) {index kk : Nat} {ty : FieldType} {a : Addr} {v old : Value} (hZ : Z.Warmed39 s.vm) (hown : s.vm.findClass own = some m.cls) (w : (Cond.fieldLink own index R0 n d).before a0 Z = true ∨ (Cond.fieldLinkNest own index R0 n d host).before a0 Z = true) (via : Via Z R0 O n d) (eT : T.heap = h) (F : Fld Z h a O n d old) (Ex : Exa Z h a C) (Ly : (Cond.lays C O n d).before a0 Z = true ∨ ((Cond.laysFinal C O n d).before a0 Z = true ∧ own = O ∧ meth.name = "<init>")) (wi : (Cond.instantiable C kk).before a0 Z = true) (hty : parseFieldDescriptor d = some ty) (hn : narrow ty v = v) (hf : fits ty v = true) (hd : decode c.code pc = .ok (.putfield index, 3)) (hp : pc + 3 = pc') (K : ∀ (T' : State) (h' : Heap), Stand p l e Rm s m args below meth c T' (locs ++ [⟨a, slotOf Z O n d⟩]) cells slots → T'.heap = h' → Wr h h' a (slotOf Z O n d) v → Runs p e below E (T'.setTop (mkF m pc' Ls st))) : Runs p e below E (T.setTop (mkF m pc Ls (v :: .ref a :: st))) := by
  subst hp
  obtain ⟨T1, h1, X1, e1, W1, st1⟩ := putF X hx hZ hown (host := host) w via eT F Ex Ly wi hty hn hf (g := mkF m pc Ls (v :: .ref a :: st)) rfl rfl hd
  exact (K T1 h1 X1 e1 W1).by st1
theorem w_new (X : Stand p l e Rm s m args below meth c T locs cells slots) (hx : p.tables.exec = Jvm.exec) {Z : State} {a0 : Array Value} {h : Heap} {own C : String} {index n : Nat} (hZ : Z.Warmed39 s.vm) (hown : s.vm.findClass own = some m.cls) (w : (Cond.classLink own index C).before a0 Z = true) (wi : (Cond.instantiable C n).before a0 Z = true) (wz : (Cond.initialized C).before a0 Z = true) (eT : T.heap = h) (hd : decode c.code pc = .ok (.new index, 3)) (hc : cells + 1 ≤ Rm.cells) (hl : slots + n ≤ Rm.slots) (hp : pc + 3 = pc') (K : ∀ (T' : State) (h' : Heap) (b : Addr), Stand p l e Rm s m args below meth c T' locs (cells + 1) (slots + n) → T'.heap = h' → Ext h h' → b = h.size → Exa Z h' b C → (∀ {O nm d : String} {ty : FieldType}, Laid Z a0 C O nm d → parseFieldDescriptor d = some ty → Fld Z h' b O nm d (defaultValue ty)) → Runs p e below E (T'.setTop (mkF m pc' Ls (.ref b :: st)))) : Runs p e below E (T.setTop (mkF m pc Ls st)) := by
  subst hp
  obtain ⟨T1, h1, X1, e1, E1, A1, D1, -, st1⟩ := newO X hx hZ hown w wi wz eT (g := mkF m pc Ls st) rfl hd hc hl
  exact (K T1 h1 _ X1 e1 E1 rfl A1 D1).by st1
theorem w_newP (X : Stand p l e Rm s m args below meth c T locs cells slots) (hx : p.tables.exec = Jvm.exec) {Z : State} {a0 : Array Value} {h : Heap} (aty : ArrayType) (ty : FieldType) {n : Int32} (cap : Nat) (hty : newarray.typeOf aty = ty) (hZ : Z.Warmed39 s.vm) (w : (Cond.arrayClass ty).before a0 Z = true) (eT : T.heap = h) (hd : decode c.code pc = .ok (.newarray aty, 2)) (hn : ¬ n < 0) (hcap : n.toNatClampNeg ≤ cap) (hb : cap * 8 ≤ 536870912) (hc : cells + 1 ≤ Rm.cells) (hl : slots + cap ≤ Rm.slots) (hp : pc + 2 = pc') (K : ∀ (T' : State) (h' : Heap) (k : ClassId) (b : Addr), Stand p l e Rm s m args below meth c T' locs (cells + 1) (slots + cap) → T'.heap = h' → Ext h h' → b = h.size → Arr Z h' b (newA k ty n) ty → Runs p e below E (T'.setTop (mkF m pc' Ls (.ref b :: st)))) : Runs p e below E (T.setTop (mkF m pc Ls (.int n :: st))) := by
  subst hp
  subst hty
  obtain ⟨T1, h1, k1, X1, e1, E1, A1, st1⟩ := newP X hx hZ w eT (g := mkF m pc Ls (.int n :: st)) rfl hd rfl hn hcap hb hc hl
  exact (K T1 h1 k1 _ X1 e1 E1 rfl A1).by st1
theorem w_stC (X : Stand p l e Rm s m args below meth c T locs cells slots) (hx : p.tables.exec = Jvm.exec) {Z : State} {h : Heap} {a : Addr} {cl : Cell} {j : Int32} {x : Int32} (hZ : Z.Warmed39 s.vm) (eT : T.heap = h) (A : Arr Z h a cl .char) (hj : ¬ (j < 0 ∨ cl.slots.size ≤ j.toNatClampNeg)) (hd : decode c.code pc = .ok (.castore, 1)) (hp : pc + 1 = pc') (K : ∀ (T' : State) (h' : Heap), Stand p l e Rm s m args below meth c T' (locs ++ [⟨a, j.toNatClampNeg⟩]) cells slots → T'.heap = h' → Wr h h' a j.toNatClampNeg (.int (nar .char x)) → Runs p e below E (T'.setTop (mkF m pc' Ls st))) : Runs p e below E (T.setTop (mkF m pc Ls (.int x :: .int j :: .ref a :: st))) := by
  subst hp
  obtain ⟨T1, h1, X1, e1, W1, st1⟩ := stC X hx hZ eT A (j := j) hj (g := mkF m pc Ls (.int x :: .int j :: .ref a :: st)) rfl rfl hd
  exact (K T1 h1 X1 e1 W1).by st1
theorem w_stB (X : Stand p l e Rm s m args below meth c T locs cells slots) (hx : p.tables.exec = Jvm.exec) {Z : State} {h : Heap} {a : Addr} {cl : Cell} {j : Int32} {x : Int32} (hZ : Z.Warmed39 s.vm) (eT : T.heap = h) (A : Arr Z h a cl .byte) (hj : ¬ (j < 0 ∨ cl.slots.size ≤ j.toNatClampNeg)) (hd : decode c.code pc = .ok (.bastore, 1)) (hp : pc + 1 = pc') (K : ∀ (T' : State) (h' : Heap), Stand p l e Rm s m args below meth c T' (locs ++ [⟨a, j.toNatClampNeg⟩]) cells slots → T'.heap = h' → Wr h h' a j.toNatClampNeg (.int (nar .byte x)) → Runs p e below E (T'.setTop (mkF m pc' Ls st))) : Runs p e below E (T.setTop (mkF m pc Ls (.int x :: .int j :: .ref a :: st))) := by
  subst hp
  obtain ⟨T1, h1, X1, e1, W1, st1⟩ := stB X hx hZ eT A (j := j) hj (g := mkF m pc Ls (.int x :: .int j :: .ref a :: st)) rfl rfl hd
  exact (K T1 h1 X1 e1 W1).by st1
theorem w_baload (X : Stand p l e Rm s m args below meth c T locs cells slots) (hx : p.tables.exec = Jvm.exec) {Z : State} {h : Heap} {a : Addr} {cl : Cell} {j : Int32} {v : Int32} (hZ : Z.Warmed39 s.vm) (eT : T.heap = h) (A : Arr Z h a cl .byte) (hj : ¬ (j < 0 ∨ cl.slots.size ≤ j.toNatClampNeg)) (hv : cl.slots[j.toNatClampNeg]? = some (.int v)) (hd : decode c.code pc = .ok (.baload, 1)) (hp : pc + 1 = pc') (K : Runs p e below E (T.setTop (mkF m pc' Ls (.int v :: st)))) : Runs p e below E (T.setTop (mkF m pc Ls (.int j :: .ref a :: st))) := by
  subst hp
  exact K.by fun t k => X.baloadBytes hx (j := j) (v := .int v) (by rw [eT]; exact A.1) (State.isArrayOf_alike hZ.alike A.2.1) A.2.2 hj hv (g := mkF m pc Ls (.int j :: .ref a :: st)) rfl rfl hd t k
theorem w_alen (X : Stand p l e Rm s m args below meth c T locs cells slots) (hx : p.tables.exec = Jvm.exec) {Z : State} {h : Heap} {a : Addr} {k : ClassId} {ty : FieldType} {z : Int32} {vs : List Value} {dv : Value} (hZ : Z.Warmed39 s.vm) (eT : T.heap = h) (F : Arv Z h a k ty z vs dv) (hd : decode c.code pc = .ok (.arraylength, 1)) (hp : pc + 1 = pc') (K : Runs p e below E (T.setTop (mkF m pc' Ls (.int z :: st)))) : Runs p e below E (T.setTop (mkF m pc Ls (.ref a :: st))) := by
  subst hp
  obtain ⟨cl, A, q, S, N, H, G⟩ := F
  rw [← len_of S N] at K
  exact K.by fun t k => X.arraylength hx (by rw [eT]; exact A.1) (State.isArrayOf_alike hZ.alike A.2.1) (g := mkF m pc Ls (.ref a :: st)) rfl rfl hd t k
theorem w_ldcI (X : Stand p l e Rm s m args below meth c T locs cells slots) (hx : p.tables.exec = Jvm.exec) {Z : State} {a0 : Array Value} {own : String} {index : Nat} {v : Int32} (hZ : Z.Warmed39 s.vm) (hown : s.vm.findClass own = some m.cls) (w : (Cond.constant own index v).before a0 Z = true) (hd : decode c.code pc = .ok (.ldc index, 2)) (hp : pc + 2 = pc') (K : Runs p e below E (T.setTop (mkF m pc' Ls (.int v :: st)))) : Runs p e below E (T.setTop (mkF m pc Ls st)) := by
  subst hp
  exact K.by fun t k => X.ldcInt hx hown (mvT hZ w) (g := mkF m pc Ls st) rfl hd t k
theorem w_castY (X : Stand p l e Rm s m args below meth c T locs cells slots) (hx : p.tables.exec = Jvm.exec) {Z : State} {a0 : Array Value} {h : Heap} {own K0 : String} {index : Nat} {a : Addr} (hZ : Z.Warmed39 s.vm) (hown : s.vm.findClass own = some m.cls) (w : (Cond.classLink own index K0).before a0 Z = true) (eT : T.heap = h) (F : Ins Z h a K0 true) (hd : decode c.code pc = .ok (.checkcast index, 3)) (hp : pc + 3 = pc') (K : ∀ T' : State, Stand p l e Rm s m args below meth c T' locs cells slots → T'.heap = h → Runs p e below E (T'.setTop (mkF m pc' Ls (.ref a :: st)))) : Runs p e below E (T.setTop (mkF m pc Ls (.ref a :: st))) := by
  subst hp
  obtain ⟨T1, X1, e1, st1⟩ := castY X hx hZ hown w eT F (g := mkF m pc Ls (.ref a :: st)) rfl rfl hd
  exact (K T1 X1 e1).by st1
theorem w_instY (X : Stand p l e Rm s m args below meth c T locs cells slots) (hx : p.tables.exec = Jvm.exec) {Z : State} {a0 : Array Value} {h : Heap} {own K0 : String} {index : Nat} {a : Addr} (hZ : Z.Warmed39 s.vm) (hown : s.vm.findClass own = some m.cls) (w : (Cond.classLink own index K0).before a0 Z = true) (eT : T.heap = h) (F : Ins Z h a K0 true) (hd : decode c.code pc = .ok (.instanceof index, 3)) (hp : pc + 3 = pc') (K : ∀ T' : State, Stand p l e Rm s m args below meth c T' locs cells slots → T'.heap = h → Runs p e below E (T'.setTop (mkF m pc' Ls (.int 1 :: st)))) : Runs p e below E (T.setTop (mkF m pc Ls (.ref a :: st))) := by
  subst hp
  obtain ⟨T1, X1, e1, st1⟩ := instY X hx hZ hown w eT F (g := mkF m pc Ls (.ref a :: st)) rfl rfl hd
  exact (K T1 X1 e1).by st1
theorem w_initO (X : Stand p l e Rm s m args below meth c T locs cells slots) (hx : p.tables.exec = Jvm.exec) {Z : State} {a0 : Array Value} {h : Heap} {own : String} {index : Nat} {a : Addr} (W : Nat) (hZ : Z.Warmed39 s.vm) (hown : s.vm.findClass own = some m.cls) (w1 : (Cond.methodLink own index Lib.objectInit).before a0 Z = true) (w2 : (Cond.instanceMethod Lib.objectInit).before a0 Z = true) (w3 : (Cond.code Lib.objectInit ⟨#[0xb1]⟩ 1 none).before a0 Z = true) (eT : T.heap = h) (hsz : Ls.size = c.maxLocals) (hd : decode c.code pc = .ok (.invokespecial index, 3)) (hf : 1 ≤ Rm.frames) (hW : (st.map fun v => v.category).sum ≤ W) (hl : W + 12 ≤ Rm.locals) (hp : pc + 3 = pc') (K : ∀ T' : State, Stand p l e Rm s m args below meth c T' locs cells slots → T'.heap = h → Runs p e below E (T'.setTop (mkF m pc' Ls st))) : Runs p e below E (T.setTop (mkF m pc Ls (.ref a :: st))) := by
  subst hp
  obtain ⟨T1, X1, e1, st1⟩ := initO X hx hZ hown w1 w2 w3 eT (g := mkF m pc Ls (.ref a :: st)) rfl hsz rfl hd hf (W := W) (by show 2 * 0 + _ ≤ _; omega) hl
  exact (K T1 X1 e1).by st1
theorem w_cpA (X : Stand p l e Rm s m args below meth c T locs cells slots) (hx : p.tables.exec = Jvm.exec) {Z : State} {a0 : Array Value} {h : Heap} {own : String} {index : Nat} {a b : Addr} {k k2 : ClassId} {ty ty2 : FieldType} {z z2 sp dp nn : Int32} {vs vd us vr : List Value} {dv dd : Value} {n0 : Nat} (W : Nat) (hZ : Z.Warmed39 s.vm) (hown : s.vm.findClass own = some m.cls) (w1 : (Cond.methodLink own index Jvm.Stand.acN).before a0 Z = true) (w2 : (Cond.native Jvm.Stand.acN).before a0 Z = true) (w3 : (Cond.static Jvm.Stand.acN).before a0 Z = true) (w4 : (Cond.initialized "java/lang/System").before a0 Z = true) (eT : T.heap = h) (A : Arv Z h a k ty z vs dv) (B : Arv Z h b k2 ty2 z2 vd dd) (hty : (ty = ty2 ∧ refKind ty = false) ∨ (refKind ty = true ∧ refKind ty2 = true ∧ StoL Z h b us)) (h1 : ¬ sp < 0) (h2 : ¬ dp < 0) (h3 : ¬ nn < 0) (h4 : sp.toNatClampNeg + nn.toNatClampNeg ≤ z.toNatClampNeg) (h5 : dp.toNatClampNeg + nn.toNatClampNeg ≤ z2.toNatClampNeg) (hus : us = (List.range nn.toNatClampNeg).map fun i => vs.getD (sp.toNatClampNeg + i) dv) (hle : dp.toNatClampNeg + nn.toNatClampNeg ≤ vd.length) (hvr : vd.take dp.toNatClampNeg ++ us ++ vd.drop (dp.toNatClampNeg + nn.toNatClampNeg) = vr) (N : Fr n0 locs) (ge : n0 ≤ b) (hsz : Ls.size = c.maxLocals) (hd : decode c.code pc = .ok (.invokestatic index, 3)) (hf : 1 ≤ Rm.frames) (hW : (st.map fun v => v.category).sum ≤ W) (hlo : W + (nativeFrameWords "java/lang/System" "arraycopy" 5 + 11) ≤ Rm.locals) (hp : pc + 3 = pc') (K : ∀ (T' : State) (h' : Heap) (L' : List Loc), Stand p l e Rm s m args below meth c T' L' cells slots → T'.heap = h' → Fr n0 L' → Keep h h' [b] → Arv Z h' b k2 ty2 z2 vr dd → Runs p e below E (T'.setTop (mkF m pc' Ls st))) : Runs p e below E (T.setTop (mkF m pc Ls (.int nn :: .int dp :: .ref b :: .int sp :: .ref a :: st))) := by
  subst hp
  subst hvr
  obtain ⟨T1, h1', L1, X1, e1, N1, K1, A1, st1⟩ := cpA X hx hZ hown w1 w2 w3 w4 eT A B hty h1 h2 h3 h4 h5 hus hle N ge (g := mkF m pc Ls (.int nn :: .int dp :: .ref b :: .int sp :: .ref a :: st)) rfl hsz rfl hd hf (W := W) (by show 2 * 0 + _ ≤ _; omega) hlo
  exact (K T1 h1' L1 X1 e1 N1 K1 A1).by st1
theorem w_static (X : Stand p l e Rm s m args below meth c T locs cells slots) (hx : p.tables.exec = Jvm.exec) {stk : List Value} {own : String} {index : Nat} {y : MethodName} {bytes : ByteArray} {maxL : Nat} {ret : Option FieldType} {W : Nat} {Pre : Pt → Array Value → Prop} {Post : Pt → Array Value → Option Value → Pt → Prop} (hown : s.vm.findClass own = some m.cls) (hlink : (Cond.methodLink own index y).before args s = true) (hstat : (Cond.static y).before args s = true) (hinit : (Cond.initialized y.cls).before args s = true) (hcode : (Cond.code y bytes maxL ret).before args s = true) (hy : y.cls ≠ "java/lang/invoke/MethodHandle" ∧ y.cls ≠ "java/lang/invoke/VarHandle") (hK : Back l Rm p e below s args y 3 W Pre Post) (hsz : Ls.size = c.maxLocals) (argsL : List Value) (hlen : ∀ sig, parseMethodDescriptor y.desc = some sig → argsL.length = sig.parameters.length) (hst : stk = argsL.reverse ++ st) (hW : (st.map fun v => v.category).sum ≤ W) (hd : decode c.code pc = .ok (.invokestatic index, 3)) (hpre : ∀ vm₁, s.WarmedH vm₁ → Pre ⟨T.setVm vm₁, locs, cells, slots⟩ argsL.toArray) (hp : pc + 3 = pc') (K : ∀ (v : Option Value) (vm₁ : Vm) (B : Pt), Stand p l e Rm s m args below meth c B.U B.locs B.cells B.slots → Post ⟨T.setVm vm₁, locs, cells, slots⟩ argsL.toArray v B → Runs p e below E (B.U.setTop (mkF m pc' Ls (v.toList ++ st)))) : Runs p e below E (T.setTop (mkF m pc Ls stk)) := by
  subst hp
  obtain ⟨v1, vm1, B1, -, X1, q1, st1⟩ := Jvm.LawKit.callS X hx hown hlink hstat hinit hcode hy hK (g := mkF m pc Ls stk) rfl hsz (argsL := argsL) (rest := st) hlen hst (by show 2 * 0 + _ ≤ _; omega) hd hpre
  exact (K v1 vm1 B1 X1 q1).by st1
theorem w_special (X : Stand p l e Rm s m args below meth c T locs cells slots) (hx : p.tables.exec = Jvm.exec) {stk : List Value} {own : String} {index : Nat} {y : MethodName} {bytes : ByteArray} {maxL : Nat} {a : Addr} {W : Nat} {Pre : Pt → Array Value → Prop} {Post : Pt → Array Value → Option Value → Pt → Prop} (hy1 : y.name = "<init>") (hown : s.vm.findClass own = some m.cls) (hlink : (Cond.methodLink own index y).before args s = true) (hinst : (Cond.instanceMethod y).before args s = true) (hcode : (Cond.code y bytes maxL none).before args s = true) (hy : y.cls ≠ "java/lang/invoke/MethodHandle" ∧ y.cls ≠ "java/lang/invoke/VarHandle") (hK : Back l Rm p e below s args y 3 W Pre Post) (hsz : Ls.size = c.maxLocals) (argsL : List Value) (hlen : ∀ sig, parseMethodDescriptor y.desc = some sig → argsL.length = sig.parameters.length) (hst : stk = argsL.reverse ++ .ref a :: st) (hW : (st.map fun v => v.category).sum ≤ W) (hd : decode c.code pc = .ok (.invokespecial index, 3)) (hpre : ∀ vm₁, s.WarmedH vm₁ → Pre ⟨T.setVm vm₁, locs, cells, slots⟩ (.ref a :: argsL).toArray) (hp : pc + 3 = pc') (K : ∀ (v : Option Value) (vm₁ : Vm) (B : Pt), Stand p l e Rm s m args below meth c B.U B.locs B.cells B.slots → Post ⟨T.setVm vm₁, locs, cells, slots⟩ (.ref a :: argsL).toArray v B → Runs p e below E (B.U.setTop (mkF m pc' Ls (v.toList ++ st)))) : Runs p e below E (T.setTop (mkF m pc Ls stk)) := by
  subst hp
  obtain ⟨v1, vm1, B1, -, X1, q1, st1⟩ := X.specialBack hx hy1 hown hlink hinst hcode hy hK (g := mkF m pc Ls stk) rfl hsz (Steps.refl _) (a := a) (argsL := argsL) (rest := st) hlen hst (by show 2 * 0 + _ ≤ _; omega) hd hpre
  exact (K v1 vm1 B1 X1 q1).tr st1
theorem w_private (X : Stand p l e Rm s m args below meth c T locs cells slots) (hx : p.tables.exec = Jvm.exec) {stk : List Value} {own : String} {index : Nat} {y : MethodName} {bytes : ByteArray} {maxL : Nat} {ret : Option FieldType} {a : Addr} {cell : Cell} {W : Nat} {Pre : Pt → Array Value → Prop} {Post : Pt → Array Value → Option Value → Pt → Prop} (hown : s.vm.findClass own = some m.cls) (hlink : (Cond.methodLink own index y).before args s = true) (hinst : (Cond.instanceMethod y).before args s = true) (hsel : (Cond.selects y.cls y y).before args s = true) (hpriv : s.PrivateAt y) (hcode : (Cond.code y bytes maxL ret).before args s = true) (hy : y.cls ≠ "java/lang/invoke/MethodHandle" ∧ y.cls ≠ "java/lang/invoke/VarHandle") (hK : Back l Rm p e below s args y 3 W Pre Post) (hcell : T.heap[a]? = some cell) (hobj : ∀ q, cell.vm ≠ .statics q) (hsz : Ls.size = c.maxLocals) (argsL : List Value) (hlen : ∀ sig, parseMethodDescriptor y.desc = some sig → argsL.length = sig.parameters.length) (hst : stk = argsL.reverse ++ .ref a :: st) (hW : (st.map fun v => v.category).sum ≤ W) (hd : decode c.code pc = .ok (.invokevirtual index, 3)) (hpre : ∀ vm₁, s.WarmedH vm₁ → Pre ⟨T.setVm vm₁, locs, cells, slots⟩ (.ref a :: argsL).toArray) (hp : pc + 3 = pc') (K : ∀ (v : Option Value) (vm₁ : Vm) (B : Pt), Stand p l e Rm s m args below meth c B.U B.locs B.cells B.slots → Post ⟨T.setVm vm₁, locs, cells, slots⟩ (.ref a :: argsL).toArray v B → Runs p e below E (B.U.setTop (mkF m pc' Ls (v.toList ++ st)))) : Runs p e below E (T.setTop (mkF m pc Ls stk)) := by
  subst hp
  obtain ⟨v1, vm1, B1, -, X1, q1, st1⟩ := X.privateBack hx hown hlink hinst hsel hpriv hcode hy hK (g := mkF m pc Ls stk) rfl hsz (Steps.refl _) (a := a) hcell hobj (argsL := argsL) (rest := st) hlen hst (by show 2 * 0 + _ ≤ _; omega) hd hpre
  exact (K v1 vm1 B1 X1 q1).tr st1
theorem w_super (X : Stand p l e Rm s m args below meth c T locs cells slots) (hx : p.tables.exec = Jvm.exec) {Z : State} {a0 : Array Value} {h : Heap} {stk : List Value} {own K0 : String} {index : Nat} {y : MethodName} {bytes : ByteArray} {maxL : Nat} {ret : Option FieldType} {a : Addr} {W : Nat} {Pre : Pt → Array Value → Prop} {Post : Pt → Array Value → Option Value → Pt → Prop} (hZ : Z.Warmed39 s.vm) (hown : s.vm.findClass own = some m.cls) (w1 : (Cond.methodLink own index y).before a0 Z = true) (w2 : (Cond.sameMethod y.cls y.cls y.name y.desc).before a0 Z = true) (w3 : (Cond.instanceMethod y).before a0 Z = true) (w4 : (Cond.superclass own y.cls).before a0 Z = true) (hn : y.name ≠ "<init>") (wc : (Cond.code y bytes maxL ret).before a0 Z = true) (hK : Back l Rm p e below s args y 3 W Pre Post) (eT : T.heap = h) (F : Ins Z h a K0 true) (hsz : Ls.size = c.maxLocals) (argsL : List Value) (hlen : ∀ sig, parseMethodDescriptor y.desc = some sig → argsL.length = sig.parameters.length) (hst : stk = argsL.reverse ++ .ref a :: st) (hW : (st.map fun v => v.category).sum ≤ W) (hd : decode c.code pc = .ok (.invokespecial index, 3)) (hpre : ∀ vm₁, s.WarmedH vm₁ → Pre ⟨T.setVm vm₁, locs, cells, slots⟩ (.ref a :: argsL).toArray) (hp : pc + 3 = pc') (K : ∀ (v : Option Value) (vm₁ : Vm) (B : Pt), Stand p l e Rm s m args below meth c B.U B.locs B.cells B.slots → Post ⟨T.setVm vm₁, locs, cells, slots⟩ (.ref a :: argsL).toArray v B → Runs p e below E (B.U.setTop (mkF m pc' Ls (v.toList ++ st)))) : Runs p e below E (T.setTop (mkF m pc Ls stk)) := by
  subst hp
  obtain ⟨v1, vm1, B1, -, X1, q1, st1⟩ := superBack X hx hZ hown w1 w2 w3 w4 hn hK eT F (g := mkF m pc Ls stk) rfl hsz wc (argsL := argsL) (rest := st) hlen hst (by show 2 * 0 + _ ≤ _; omega) hd hpre
  exact (K v1 vm1 B1 X1 q1).tr st1
theorem w_virtual (X : Stand p l e Rm s m args below meth c T locs cells slots) (hx : p.tables.exec = Jvm.exec) {stk : List Value} {own C : String} {index : Nat} {y z : MethodName} {b : Addr} {cB : ClassId} {W : Nat} {Pre : Pt → Array Value → Prop} {Post : Pt → Array Value → Option Value → Pt → Prop} (hown : s.vm.findClass own = some m.cls) (hlink : (Cond.methodLink own index y).before args s = true) (hdecl : (Cond.declares y).before args s = true) (hnf : NotFace s y) (hsel : (Cond.selects C y z).before args s = true) (hinst : (Cond.instanceMethod z).before args s = true) (hy : y.cls ≠ "java/lang/invoke/MethodHandle" ∧ y.cls ≠ "java/lang/invoke/VarHandle") (hK : Back l Rm p e below s args z 3 W Pre Post) (hcB : s.vm.findClass C = some cB) (hrecv : IsOf cB T b) (hsz : Ls.size = c.maxLocals) (argsL : List Value) (hlen : ∀ sig, parseMethodDescriptor y.desc = some sig → argsL.length = sig.parameters.length) (hst : stk = argsL.reverse ++ .ref b :: st) (hW : (st.map fun v => v.category).sum ≤ W) (hd : decode c.code pc = .ok (.invokevirtual index, 3)) (hpre : ∀ vm₁, s.WarmedH vm₁ → Pre ⟨T.setVm vm₁, locs, cells, slots⟩ (.ref b :: argsL).toArray) (hp : pc + 3 = pc') (K : ∀ (v : Option Value) (vm₁ : Vm) (B : Pt), Stand p l e Rm s m args below meth c B.U B.locs B.cells B.slots → Post ⟨T.setVm vm₁, locs, cells, slots⟩ (.ref b :: argsL).toArray v B → Runs p e below E (B.U.setTop (mkF m pc' Ls (v.toList ++ st)))) : Runs p e below E (T.setTop (mkF m pc Ls stk)) := by
  subst hp
  obtain ⟨v1, vm1, B1, -, X1, q1, st1⟩ := X.virtualBack hx hown hlink hdecl hnf hsel hinst hy hK hcB hrecv (g := mkF m pc Ls stk) rfl hsz (Steps.refl _) (argsL := argsL) (rest := st) hlen hst (by show 2 * 0 + _ ≤ _; omega) hd hpre
  exact (K v1 vm1 B1 X1 q1).tr st1
theorem w_staticS (X : Stand p l e Rm s m args below meth c T locs cells slots) (hx : p.tables.exec = Jvm.exec) {stk : List Value} {own : String} {index : Nat} {y : MethodName} {bytes : ByteArray} {maxL : Nat} {ret : Option FieldType} {W : Nat} {Pre : Pt → Array Value → Prop} {Post : Pt → Array Value → Option Value → Pt → Prop} (hown : s.vm.findClass own = some m.cls) (hlink : (Cond.methodLink own index y).before args s = true) (hstat : (Cond.static y).before args s = true) (hinit : (Cond.initialized y.cls).before args s = true) (hcode : (Cond.code y bytes maxL ret).before args s = true) (hy : y.cls ≠ "java/lang/invoke/MethodHandle" ∧ y.cls ≠ "java/lang/invoke/VarHandle") (hK : BackS l Rm p e below s args y 3 W Pre Post) (hsz : Ls.size = c.maxLocals) (argsL : List Value) (hlen : ∀ sig, parseMethodDescriptor y.desc = some sig → argsL.length = sig.parameters.length) (hst : stk = argsL.reverse ++ st) (hW : (st.map fun v => v.category).sum ≤ W) (hd : decode c.code pc = .ok (.invokestatic index, 3)) (hpre : ∀ vm₁, s.WarmedH vm₁ → Pre ⟨T.setVm vm₁, locs, cells, slots⟩ argsL.toArray) (hp : pc + 3 = pc') (K : ∀ (v : Option Value) (vm₁ : Vm) (B : Pt), Stand p l e Rm (s.setVm B.U.vm) m args below meth c B.U B.locs B.cells B.slots → s.Since B.U.vm B.U.heap.size → T.heap.size ≤ B.U.heap.size → Post ⟨T.setVm vm₁, locs, cells, slots⟩ argsL.toArray v B → Runs p e below E (B.U.setTop (mkF m pc' Ls (v.toList ++ st)))) : Runs p e below E (T.setTop (mkF m pc Ls stk)) := by
  subst hp
  obtain ⟨v1, vm1, B1, -, X1, s1, g1, q1, st1⟩ := callSS X hx hown hlink hstat hinit hcode hy hK (g := mkF m pc Ls stk) rfl hsz (argsL := argsL) (rest := st) hlen hst (by show 2 * 0 + _ ≤ _; omega) hd hpre
  exact (K v1 vm1 B1 X1 s1 g1 q1).tr st1
theorem w_specialS (X : Stand p l e Rm s m args below meth c T locs cells slots) (hx : p.tables.exec = Jvm.exec) {stk : List Value} {own : String} {index : Nat} {y : MethodName} {bytes : ByteArray} {maxL : Nat} {a : Addr} {W : Nat} {Pre : Pt → Array Value → Prop} {Post : Pt → Array Value → Option Value → Pt → Prop} (hy1 : y.name = "<init>") (hown : s.vm.findClass own = some m.cls) (hlink : (Cond.methodLink own index y).before args s = true) (hinst : (Cond.instanceMethod y).before args s = true) (hcode : (Cond.code y bytes maxL none).before args s = true) (hy : y.cls ≠ "java/lang/invoke/MethodHandle" ∧ y.cls ≠ "java/lang/invoke/VarHandle") (hK : BackS l Rm p e below s args y 3 W Pre Post) (hsz : Ls.size = c.maxLocals) (argsL : List Value) (hlen : ∀ sig, parseMethodDescriptor y.desc = some sig → argsL.length = sig.parameters.length) (hst : stk = argsL.reverse ++ .ref a :: st) (hW : (st.map fun v => v.category).sum ≤ W) (hd : decode c.code pc = .ok (.invokespecial index, 3)) (hpre : ∀ vm₁, s.WarmedH vm₁ → Pre ⟨T.setVm vm₁, locs, cells, slots⟩ (.ref a :: argsL).toArray) (hp : pc + 3 = pc') (K : ∀ (v : Option Value) (vm₁ : Vm) (B : Pt), Stand p l e Rm (s.setVm B.U.vm) m args below meth c B.U B.locs B.cells B.slots → s.Since B.U.vm B.U.heap.size → T.heap.size ≤ B.U.heap.size → Post ⟨T.setVm vm₁, locs, cells, slots⟩ (.ref a :: argsL).toArray v B → Runs p e below E (B.U.setTop (mkF m pc' Ls (v.toList ++ st)))) : Runs p e below E (T.setTop (mkF m pc Ls stk)) := by
  subst hp
  obtain ⟨v1, vm1, B1, -, X1, s1, g1, q1, st1⟩ := X.specialBackS hx hy1 hown hlink hinst hcode hy hK (g := mkF m pc Ls stk) rfl hsz (Steps.refl _) (a := a) (argsL := argsL) (rest := st) hlen hst (by show 2 * 0 + _ ≤ _; omega) hd hpre
  exact (K v1 vm1 B1 X1 s1 g1 q1).tr st1
end W

/-- a body's contract, and how a walk shows it -/
abbrev MetN (l : Launch) (Z : State) (y : MethodName) (bytes : ByteArray) (maxL : Nat) (ret : Option FieldType) (ws : List Cond) (rm : Room) (as' : Array Value) (h : Heap) (Q : Option Value → Heap → List Loc → Prop) : Prop :=
  MetFree l y (head1 (Cond.code y bytes maxL ret :: ws) rm) (fun a U => a = as' ∧ Z.Warmed39 U.vm ∧ U.heap = h) (fun _ _ _ _ _ => True) (fun _ U o U' => ∃ v L, o = .returned v ∧ Q v U'.heap L ∧ FrameEnd U o U' L rm.cells rm.slots)
theorem MetN.of {l : Launch} {Z : State} {y : MethodName} {bytes : ByteArray} {maxL : Nat} {ret : Option FieldType} {ws : List Cond} {rm : Room} {as' : Array Value} {h : Heap} {Q : Option Value → Heap → List Loc → Prop} (hp : plainFor y = true)
    (H : ∀ (p : Program) (e : Env) (s : State) (m : MethodId) (below : List Frame) (meth : Method) (c : Code) (s₁ : State), meth.sig.returnType = ret → p.tables.exec = Jvm.exec → c.code = bytes → c.maxLocals = maxL → s.vm.findClass y.cls = some m.cls → meth.name = y.name → meth.locks = false → Z.Warmed39 s.vm → Stand p l e rm s m as' below meth c s₁ [] 0 0 → s₁.heap = h → Runs p e below (EndN s Q rm.cells rm.slots) (s₁.setTop (entryFrame m as' maxL))) :
    MetN l Z y bytes maxL ret ws rm as' h Q := by
  refine MetFree.of_bodySF hp hisR ?_
  intro p e s m args below meth c s₁ Bd hml hP hK
  obtain ⟨rfl, hZ, hh⟩ := hP
  exact H p e s m below meth c s₁ Bd.returns Bd.exec Bd.bytes hml (findClass_of_methodNamed Bd.named) (name_of_methodNamed Bd.named Bd.method).1 Bd.notSynchronized hZ (Stand.of_body Bd) (by rw [← hh, Bd.state]; rfl)
abbrev MetH (l : Launch) (Z : State) (EL : List (String × Nat)) (y : MethodName) (bytes : ByteArray) (maxL : Nat) (ret : Option FieldType) (ws : List Cond) (rm : Room) (as' : Array Value) (h : Heap) (Q : Option Value → Heap → List Loc → (Addr → Prop) → Prop) (sf : List Addr) : Prop :=
  MetFree l y (head1 (Cond.code y bytes maxL ret :: ws) rm) (fun a U => a = as' ∧ Z.Warmed39 U.vm ∧ U.heap = h ∧ CHv Z EL U.vm h ∧ ∀ x ∈ sf, Safe Z EL U.vm h x) (fun _ _ _ _ _ => True) (fun _ U o U' => ∃ v L, o = .returned v ∧ Q v U'.heap L (Safe Z EL U'.vm U'.heap) ∧ CHr Z EL U.vm U.heap U'.vm U'.heap ∧ ReturnedEndW U o U' L rm.cells rm.slots)
theorem MetH.of {l : Launch} {Z : State} {EL : List (String × Nat)} {y : MethodName} {bytes : ByteArray} {maxL : Nat} {ret : Option FieldType} {ws : List Cond} {rm : Room} {as' : Array Value} {h : Heap} {Q : Option Value → Heap → List Loc → (Addr → Prop) → Prop} {sf : List Addr} (hp : plainFor y = true)
    (H : ∀ (p : Program) (e : Env) (s : State) (m : MethodId) (below : List Frame) (meth : Method) (c : Code) (s₁ : State), meth.sig.returnType = ret → p.tables.exec = Jvm.exec → c.code = bytes → c.maxLocals = maxL → s.vm.findClass y.cls = some m.cls → meth.name = y.name → meth.locks = false → Z.Warmed39 s.vm → Stand p l e rm (s.setVm s.vm) m as' below meth c s₁ [] 0 0 → s₁.heap = h → s.heap = h → CHv Z EL s.vm h → (∀ x ∈ sf, Safe Z EL s.vm h x) → s.Since s.vm h.size → CHr Z EL s.vm h s.vm h → Runs p e below (EndH s Z EL Q rm.cells rm.slots) (s₁.setTop (entryFrame m as' maxL))) :
    MetH l Z EL y bytes maxL ret ws rm as' h Q sf := by
  refine MetFree.of_bodySF hp hisR ?_
  intro p e s m args below meth c s₁ Bd hml hP hK
  obtain ⟨rfl, hZ, hh, hH, hsf⟩ := hP
  exact H p e s m below meth c s₁ Bd.returns Bd.exec Bd.bytes hml (findClass_of_methodNamed Bd.named) (name_of_methodNamed Bd.named Bd.method).1 Bd.notSynchronized hZ (Stand.of_body Bd) (by rw [← hh, Bd.state]; rfl) hh hH hsf ((State.WarmedH.refl s).since _) (CHr.refl hH)
end Jvm.RoadKit
namespace Jvm.Pilot.@@N@@
namespace StrChars
open Jvm Sem ClassFile Op Lib Jvm.Stand Jvm.Free.XT Jvm.Free.ALB Jvm.Free.JM Jvm.Free
open Jvm.Lib.Cold (StaticIs)
def Ch (a : Addr) (A : Cell) (U : State) : Prop := Arr .char a A U ∧ Typed .char A
theorem Ch.mv {a : Addr} {A : Cell} {U U' : State} (h : Ch a A U) (hal : U.vm.Alike U'.vm) (hh : U'.heap = U.heap) : Ch a A U' := ⟨h.1.mv hal hh, h.2⟩
theorem Ch.keep {a : Addr} {A : Cell} {U U' : State} (h : Ch a A U) (hal : U.vm.Alike U'.vm) (hk : U'.heap[a]? = some A) : Ch a A U' := ⟨h.1.keep hal hk, h.2⟩
def cv (A : Cell) (i : Nat) : Int32 := match A.slots[i]? with | some (.int x) => x | _ => 0
theorem Ch.get {a : Addr} {A : Cell} {U : State} (h : Ch a A U) {i : Nat} (hi : i < A.slots.size) : A.slots[i]? = some (.int (cv A i)) := by
  have e := Array.getElem?_eq_getElem hi
  have f := h.2 i _ e
  unfold cv; rw [e]
  generalize A.slots[i] = v at f
  cases v <;> simp [fits] at f ⊢
def lo8 (x : Int32) : Int32 := x.toInt8.toInt32
theorem fits_lo8 (y : Int32) : fits .byte (.int (lo8 y)) = true := by
  have h1 := y.toInt8.le_toInt
  have h2 := y.toInt8.toInt_lt
  simp only [lo8, fits, Bool.and_eq_true, decide_eq_true_eq, Int32.le_iff_toInt_le, Int8.toInt_toInt32, show (-128 : Int32).toInt = -128 from by decide, show (127 : Int32).toInt = 127 from by decide]
  omega
def Laid (A A' : Cell) (lo hi : Nat) (f : Nat → Value) : Prop := A'.cls = A.cls ∧ A'.vm = A.vm ∧ A'.slots.size = A.slots.size ∧ ∀ i, A'.slots[i]? = if lo ≤ i ∧ i < hi then some (f i) else A.slots[i]?
theorem Laid.zero (A : Cell) (lo : Nat) (f : Nat → Value) : Laid A A lo (lo + 0) f := ⟨rfl, rfl, rfl, fun i => by rw [if_neg (by omega)]⟩
theorem Laid.step {A Ak : Cell} {lo k : Nat} {f : Nat → Value} {v : Value} (h : Laid A Ak lo k f) (hlo : lo ≤ k) (hk : k < Ak.slots.size) (hv : v = f k) : Laid A (Ak.setSlot k v) lo (k + 1) f := by
  refine ⟨h.1, h.2.1, by simpa [Cell.setSlot] using h.2.2.1, fun i => ?_⟩
  by_cases e : k = i
  · subst e; rw [Cell.slots_setSlot_self v hk, if_pos (by omega), hv]
  · rw [Cell.slots_setSlot_ne v e, h.2.2.2 i]
    by_cases q : lo ≤ i ∧ i < k
    · rw [if_pos q, if_pos (by omega)]
    · rw [if_neg q, if_neg (by omega)]
def U16 : String := "java/lang/StringUTF16"
namespace Cmp5
def yN : MethodName := ⟨"java/lang/StringUTF16", "compress", "([CI[BII)I"⟩
abbrev yB : ByteArray := jdk_52_method_21_code
theorem d0 : decode yB 0 = .ok (.iconst 0, 1) := by decide +kernel
theorem d1 : decode yB 1 = .ok (.istore 5, 2) := by decide +kernel
theorem d3 : decode yB 3 = .ok (.iload 5, 2) := by decide +kernel
theorem d5 : decode yB 5 = .ok (.iload 4, 2) := by decide +kernel
theorem d7 : decode yB 7 = .ok (.if_icmp (.ge) 37, 3) := by decide +kernel
theorem d10 : decode yB 10 = .ok (.aload_n 0, 1) := by decide +kernel
theorem d11 : decode yB 11 = .ok (.iload_n 1, 1) := by decide +kernel
theorem d12 : decode yB 12 = .ok (.caload, 1) := by decide +kernel
theorem d13 : decode yB 13 = .ok (.istore 6, 2) := by decide +kernel
theorem d15 : decode yB 15 = .ok (.iload 6, 2) := by decide +kernel
theorem d17 : decode yB 17 = .ok (.sipush 255, 3) := by decide +kernel
theorem d20 : decode yB 20 = .ok (.if_icmp (.le) 6, 3) := by decide +kernel
theorem d26 : decode yB 26 = .ok (.aload_n 2, 1) := by decide +kernel
theorem d27 : decode yB 27 = .ok (.iload_n 3, 1) := by decide +kernel
theorem d28 : decode yB 28 = .ok (.iload 6, 2) := by decide +kernel
theorem d30 : decode yB 30 = .ok (.i2b, 1) := by decide +kernel
theorem d31 : decode yB 31 = .ok (.bastore, 1) := by decide +kernel
theorem d32 : decode yB 32 = .ok (.iinc 1 1, 3) := by decide +kernel
theorem d35 : decode yB 35 = .ok (.iinc 3 1, 3) := by decide +kernel
theorem d38 : decode yB 38 = .ok (.iinc 5 1, 3) := by decide +kernel
theorem d41 : decode yB 41 = .ok (.goto (-38), 3) := by decide +kernel
theorem d44 : decode yB 44 = .ok (.iload 4, 2) := by decide +kernel
theorem d46 : decode yB 46 = .ok (.ireturn, 1) := by decide +kernel
def site : List Cond := []
def tab : Cond := tabOf yN yB 7 (some .int) site
def P (b : Addr) (A : Cell) (d : Addr) (B : Cell) (o q len : Nat) (args : Array Value) (s : State) : Prop := args = #[.ref b, .int (Int32.ofNat o), .ref d, .int (Int32.ofNat q), .int (Int32.ofNat len)] ∧ Ch b A s ∧ Arr .byte d B s ∧ b ≠ d ∧ o + len ≤ A.slots.size ∧ q + len ≤ B.slots.size ∧ ∀ i, i < len → ¬ 255 < cv A (o + i)
def E (b : Addr) (A : Cell) (d : Addr) (B : Cell) (o q len : Nat) (r : Option Value) (s u : State) : Prop := r = some (.int (Int32.ofNat len)) ∧ ∃ B', Put d B' s u ∧ Laid B B' q (q + len) (fun j => Value.int (lo8 (cv A (o + (j - q)))))
theorem law (l : Launch) (b : Addr) (A : Cell) (d : Addr) (B : Cell) (o q len : Nat) : Law l yN 5 5 0 0 yB 7 (some .int) site (P b A d B o q len) (E b A d B o q len) (copyLocs d q len) 0 0 := by
  refine Law.of_walk (plainFor_of_name (by decide +kernel)) (by decide +kernel) (by decide +kernel) (by decide) (fun _ _ h => by rw [h.1]; rfl) (fun _ U U' hal hh h => ⟨h.1, h.2.1.mv hal hh, h.2.2.1.mv hal hh, h.2.2.2⟩) (fun r U U' V V' h1 hal h2 h => ⟨h.1, h.2.elim fun B' q => ⟨B', q.1.mv h1 h2, q.2⟩⟩) ?_
  intro p e s m args below meth c s₁ X0 hexec hbytes hml hret hlk hnm hown hh0 W hP
  obtain ⟨rfl, hA, hB, hne, l1, l2, hp⟩ := hP
  have c1 : Steps p.tables e below (s₁.setTop (entryFrame m #[.ref b, .int (Int32.ofNat o), .ref d, .int (Int32.ofNat q), .int (Int32.ofNat len)] 7)) (s₁.setTop (mkF m 0 #[.val (.ref b), .val (.int (Int32.ofNat o)), .val (.ref d), .val (.int (Int32.ofNat q)), .val (.int (Int32.ofNat len)), .unset, .unset] [])) := entry rfl
  have hA0 := hA.1.mv X0.warmed.alike hh0
  have hB0 := hB.mv X0.warmed.alike hh0
  have a31 := hA.1.2.2.2
  have c2 : Steps p.tables e below (s₁.setTop (entryFrame m #[.ref b, .int (Int32.ofNat o), .ref d, .int (Int32.ofNat q), .int (Int32.ofNat len)] 7)) (s₁.setTop (mkF m 3 #[.val (.ref b), .val (.int (Int32.ofNat o)), .val (.ref d), .val (.int (Int32.ofNat q)), .val (.int (Int32.ofNat len)), .val (.int 0), .unset] [])) := c1.trans (by
    refine iconstV X0.here hexec rfl 0 (hb hbytes d0) (by decide) ?_
    refine XS.istore X0.here hexec rfl (hb hbytes d1) rfl rfl ?_
    exact Steps.refl _)
  have loop : ∀ (r i : Nat), i + r = len → ∀ (z : Slot), (z = .unset ∨ ∃ w, z = .val w ∧ w.category = 1) → ∀ (Tl : State) (Bk : Cell), Stand p l e { frames := 0, locals := 0, cells := 0, slots := 0 } s m #[.ref b, .int (Int32.ofNat o), .ref d, .int (Int32.ofNat q), .int (Int32.ofNat len)] below meth c Tl ([] ++ copyLocs d q i) 0 0 → Put d Bk s₁ Tl → Laid B Bk q (q + i) (fun j => Value.int (lo8 (cv A (o + (j - q))))) →
      Steps p.tables e below (s₁.setTop (entryFrame m #[.ref b, .int (Int32.ofNat o), .ref d, .int (Int32.ofNat q), .int (Int32.ofNat len)] 7)) (Tl.setTop (mkF m 3 #[.val (.ref b), .val (.int (Int32.ofNat (o + i))), .val (.ref d), .val (.int (Int32.ofNat (q + i))), .val (.int (Int32.ofNat len)), .val (.int (Int32.ofNat i)), z] [])) → ∃ (T' : State) (B' : Cell) (z' : Slot), Stand p l e { frames := 0, locals := 0, cells := 0, slots := 0 } s m #[.ref b, .int (Int32.ofNat o), .ref d, .int (Int32.ofNat q), .int (Int32.ofNat len)] below meth c T' ([] ++ copyLocs d q len) 0 0 ∧ Put d B' s₁ T' ∧ Laid B B' q (q + len) (fun j => Value.int (lo8 (cv A (o + (j - q))))) ∧
      Steps p.tables e below (s₁.setTop (entryFrame m #[.ref b, .int (Int32.ofNat o), .ref d, .int (Int32.ofNat q), .int (Int32.ofNat len)] 7)) (T'.setTop (mkF m 3 #[.val (.ref b), .val (.int (Int32.ofNat (o + len))), .val (.ref d), .val (.int (Int32.ofNat (q + len))), .val (.int (Int32.ofNat len)), .val (.int (Int32.ofNat len)), z'] [])) := by
    intro r
    induction r with
    | zero =>
      intro i hi z hz Tl Bk Xl pl fl cl
      have hil : i = len := by omega
      rw [hil] at Xl fl cl
      exact ⟨Tl, Bk, z, Xl, pl, fl, cl⟩
    | succ r ih =>
      intro i hi z hz Tl Bk Xl pl fl cl
      have all := X0.warmed.alike.symm.trans Xl.warmed.alike
      have hAl := hA0.keep all (pl.other hne hA0.1)
      have hBk := hB0.like all pl.1 fl.1 fl.2.1 fl.2.2.1
      have hlt : q + i < Bk.slots.size := by rw [fl.2.2.1]; omega
      have c3 : Steps p.tables e below (s₁.setTop (entryFrame m #[.ref b, .int (Int32.ofNat o), .ref d, .int (Int32.ofNat q), .int (Int32.ofNat len)] 7)) (Tl.setTop (mkF m 12 #[.val (.ref b), .val (.int (Int32.ofNat (o + i))), .val (.ref d), .val (.int (Int32.ofNat (q + i))), .val (.int (Int32.ofNat len)), .val (.int (Int32.ofNat i)), z] [.int (Int32.ofNat (o + i)), .ref b])) := cl.trans (by
        refine XS.iload Xl.here hexec rfl (hb hbytes d3) rfl ?_
        refine XS.iload Xl.here hexec rfl (hb hbytes d5) rfl ?_
        refine XS.icmpNo Xl.here hexec rfl (hb hbytes d7) rfl (ii_ge_f (lt32 (by omega) (by omega))) ?_
        refine XS.aloadN Xl.here hexec rfl (hb hbytes d10) rfl rfl ?_
        refine XS.iloadN Xl.here hexec rfl (hb hbytes d11) rfl ?_
        exact Steps.refl _)
      have c4 : Steps p.tables e below (s₁.setTop (entryFrame m #[.ref b, .int (Int32.ofNat o), .ref d, .int (Int32.ofNat q), .int (Int32.ofNat len)] 7)) (Tl.setTop (mkF m 13 #[.val (.ref b), .val (.int (Int32.ofNat (o + i))), .val (.ref d), .val (.int (Int32.ofNat (q + i))), .val (.int (Int32.ofNat len)), .val (.int (Int32.ofNat i)), z] [.int (cv A (o + i))])) := c3.trans (by
        refine Xl.aget hexec hAl rfl (hA.get (i := o + i) (by omega)) rfl rfl (hb hbytes d12) ?_
        exact Steps.refl _)
      have c5 : Steps p.tables e below (s₁.setTop (entryFrame m #[.ref b, .int (Int32.ofNat o), .ref d, .int (Int32.ofNat q), .int (Int32.ofNat len)] 7)) (Tl.setTop (mkF m 15 #[.val (.ref b), .val (.int (Int32.ofNat (o + i))), .val (.ref d), .val (.int (Int32.ofNat (q + i))), .val (.int (Int32.ofNat len)), .val (.int (Int32.ofNat i)), .val (.int (cv A (o + i)))] [])) := c4.trans (by
        refine XS.istoreS Xl.here hexec rfl (hb hbytes d13) rfl rfl hz ?_
        exact Steps.refl _)
      have c6 : Steps p.tables e below (s₁.setTop (entryFrame m #[.ref b, .int (Int32.ofNat o), .ref d, .int (Int32.ofNat q), .int (Int32.ofNat len)] 7)) (Tl.setTop (mkF m 31 #[.val (.ref b), .val (.int (Int32.ofNat (o + i))), .val (.ref d), .val (.int (Int32.ofNat (q + i))), .val (.int (Int32.ofNat len)), .val (.int (Int32.ofNat i)), .val (.int (cv A (o + i)))] [.int (lo8 (cv A (o + i))), .int (Int32.ofNat (q + i)), .ref d])) := c5.trans (by
        refine XS.iload Xl.here hexec rfl (hb hbytes d15) rfl ?_
        refine sipushV Xl.here hexec rfl 255 (hb hbytes d17) (by decide) ?_
        refine XS.icmpYes Xl.here hexec rfl (pc0 := 20) rfl (hb hbytes d20) rfl (ii_le_t (hp i (by omega))) (by decide) rfl ?_
        refine XS.aloadN Xl.here hexec rfl (hb hbytes d26) rfl rfl ?_
        refine XS.iloadN Xl.here hexec rfl (hb hbytes d27) rfl ?_
        refine XS.iload Xl.here hexec rfl (hb hbytes d28) rfl ?_
        refine i2b Xl.here hexec rfl (hb hbytes d30) rfl ?_
        exact Steps.refl _)
      obtain ⟨T7, X7, p7, st7⟩ := Xl.aput hexec hBk rfl hlt rfl (fits_lo8 (cv A (o + i))) (g := (mkF m 31 #[.val (.ref b), .val (.int (Int32.ofNat (o + i))), .val (.ref d), .val (.int (Int32.ofNat (q + i))), .val (.int (Int32.ofNat len)), .val (.int (Int32.ofNat i)), .val (.int (cv A (o + i)))] [.int (lo8 (cv A (o + i))), .int (Int32.ofNat (q + i)), .ref d])) rfl (rest := []) rfl (hb hbytes d31)
      have c8 : Steps p.tables e below (s₁.setTop (entryFrame m #[.ref b, .int (Int32.ofNat o), .ref d, .int (Int32.ofNat q), .int (Int32.ofNat len)] 7)) (T7.setTop (mkF m 32 #[.val (.ref b), .val (.int (Int32.ofNat (o + i))), .val (.ref d), .val (.int (Int32.ofNat (q + i))), .val (.int (Int32.ofNat len)), .val (.int (Int32.ofNat i)), .val (.int (cv A (o + i)))] [])) := c6.trans (st7 _ (Steps.refl _))
      have c9 : Steps p.tables e below (s₁.setTop (entryFrame m #[.ref b, .int (Int32.ofNat o), .ref d, .int (Int32.ofNat q), .int (Int32.ofNat len)] 7)) (T7.setTop (mkF m 3 #[.val (.ref b), .val (.int (Int32.ofNat (o + i) + 1)), .val (.ref d), .val (.int (Int32.ofNat (q + i) + 1)), .val (.int (Int32.ofNat len)), .val (.int (Int32.ofNat i + 1)), .val (.int (cv A (o + i)))] [])) := c8.trans (by
        refine iincV X7.here hexec rfl 1 (hb hbytes d32) (by decide) rfl rfl ?_
        refine iincV X7.here hexec rfl 1 (hb hbytes d35) (by decide) rfl rfl ?_
        refine iincV X7.here hexec rfl 1 (hb hbytes d38) (by decide) rfl rfl ?_
        refine XS.goto X7.here hexec rfl (pc0 := 41) rfl (hb hbytes d41) (by decide) rfl ?_
        exact Steps.refl _)
      have c10 : Steps p.tables e below (s₁.setTop (entryFrame m #[.ref b, .int (Int32.ofNat o), .ref d, .int (Int32.ofNat q), .int (Int32.ofNat len)] 7)) (T7.setTop (mkF m 3 #[.val (.ref b), .val (.int (Int32.ofNat (o + (i + 1)))), .val (.ref d), .val (.int (Int32.ofNat (q + (i + 1)))), .val (.int (Int32.ofNat len)), .val (.int (Int32.ofNat (i + 1))), .val (.int (cv A (o + i)))] [])) := by
        have := c9
        rw [succ32, succ32, succ32] at this
        exact this
      exact ih (i + 1) (by omega) _ (Or.inr ⟨_, rfl, rfl⟩) T7 _ (by rw [copyLocs_step, ← List.append_assoc]; exact X7) (pl.trans p7) (fl.step (by omega) hlt (by simp)) c10
  obtain ⟨T9, B9, z9, X9, p9, f9, g9⟩ := loop len 0 (by omega) .unset (Or.inl rfl) s₁ B (by simpa [copyLocs] using X0) ⟨hB0.1, fun _ _ => rfl, rfl⟩ (Laid.zero _ _ _) c2
  have c11 : Steps p.tables e below (s₁.setTop (entryFrame m #[.ref b, .int (Int32.ofNat o), .ref d, .int (Int32.ofNat q), .int (Int32.ofNat len)] 7)) (T9.setTop (mkF m 46 #[.val (.ref b), .val (.int (Int32.ofNat (o + len))), .val (.ref d), .val (.int (Int32.ofNat (q + len))), .val (.int (Int32.ofNat len)), .val (.int (Int32.ofNat len)), z9] [.int (Int32.ofNat len)])) := g9.trans (by
    refine XS.iload X9.here hexec rfl (hb hbytes d3) rfl ?_
    refine XS.iload X9.here hexec rfl (hb hbytes d5) rfl ?_
    refine XS.icmpYes X9.here hexec rfl (pc0 := 7) rfl (hb hbytes d7) rfl (ii_ge_t (nlt32 (by omega) (Nat.le_refl _))) (by decide) rfl ?_
    refine XS.iload X9.here hexec rfl (hb hbytes d44) rfl ?_
    exact Steps.refl _)
  exact ⟨T9, some (.int (Int32.ofNat len)), _, _, _, X9, by simp, rfl, rfl, (fun h => by cases h), ⟨rfl, B9, p9.from hh0, f9⟩, fun fs hl => c11.trans (X9.ireturnOut hexec hret rfl (Or.inl rfl) (hb hbytes d46) hl)⟩
end Cmp5
namespace Cmp3
def yN : MethodName := ⟨"java/lang/StringUTF16", "compress", "([CII)[B"⟩
abbrev yB : ByteArray := jdk_52_method_16_code
theorem d0 : decode yB 0 = .ok (.iload_n 2, 1) := by decide +kernel
theorem d1 : decode yB 1 = .ok (.newarray .byte, 2) := by decide +kernel
theorem d3 : decode yB 3 = .ok (.astore_n 3, 1) := by decide +kernel
theorem d4 : decode yB 4 = .ok (.aload_n 0, 1) := by decide +kernel
theorem d5 : decode yB 5 = .ok (.iload_n 1, 1) := by decide +kernel
theorem d6 : decode yB 6 = .ok (.aload_n 3, 1) := by decide +kernel
theorem d7 : decode yB 7 = .ok (.iconst 0, 1) := by decide +kernel
theorem d8 : decode yB 8 = .ok (.iload_n 2, 1) := by decide +kernel
theorem d9 : decode yB 9 = .ok (.invokestatic 115, 3) := by decide +kernel
theorem d12 : decode yB 12 = .ok (.istore 4, 2) := by decide +kernel
theorem d14 : decode yB 14 = .ok (.iload 4, 2) := by decide +kernel
theorem d16 : decode yB 16 = .ok (.iload_n 2, 1) := by decide +kernel
theorem d17 : decode yB 17 = .ok (.if_icmp (.eq) 40, 3) := by decide +kernel
theorem d57 : decode yB 57 = .ok (.aload_n 3, 1) := by decide +kernel
theorem d58 : decode yB 58 = .ok (.areturn, 1) := by decide +kernel
def site : List Cond := [.arrayClass .byte, Cmp5.tab] ++ staticW U16 115 Cmp5.yN
def tab : Cond := tabOf yN yB 6 (some (.array .byte)) site
def P (b : Addr) (A : Cell) (o len : Nat) (args : Array Value) (s : State) : Prop := args = #[.ref b, .int (Int32.ofNat o), .int (Int32.ofNat len)] ∧ Ch b A s ∧ o + len ≤ A.slots.size ∧ len ≤ 536870912 ∧ ∀ i, i < len → ¬ 255 < cv A (o + i)
def E (b : Addr) (A : Cell) (o len : Nat) (r : Option Value) (s u : State) : Prop := NewArr .byte "[B" len (fun j => .int (lo8 (cv A (o + j)))) r s u ∧ u.heap.size = s.heap.size + 1
theorem law (l : Launch) (b : Addr) (A : Cell) (o len : Nat) : Law l yN 3 3 1 18 yB 6 (some (.array .byte)) site (P b A o len) (E b A o len) [] 1 len := by
  refine Law.of_walk (plainFor_of_name (by decide +kernel)) (by decide +kernel) (by decide +kernel) (by decide) (fun _ _ h => by rw [h.1]; rfl) (fun _ U U' hal hh h => ⟨h.1, h.2.1.mv hal hh, h.2.2⟩) (fun r U U' V V' h1 hal h2 h => ⟨NewArr.mv r U U' V V' h1 hal h2 h.1, by rw [h1, h2]; exact h.2⟩) ?_
  intro p e s m args below meth c s₁ X0 hexec hbytes hml hret hlk hnm hown hh0 W hP
  obtain ⟨rfl, hA, l1, l2, hp⟩ := hP
  have a31 := hA.1.2.2.2
  have c1 : Steps p.tables e below (s₁.setTop (entryFrame m #[.ref b, .int (Int32.ofNat o), .int (Int32.ofNat len)] 6)) (s₁.setTop (mkF m 0 #[.val (.ref b), .val (.int (Int32.ofNat o)), .val (.int (Int32.ofNat len)), .unset, .unset, .unset] [])) := entry rfl
  have c2 : Steps p.tables e below (s₁.setTop (entryFrame m #[.ref b, .int (Int32.ofNat o), .int (Int32.ofNat len)] 6)) (s₁.setTop (mkF m 1 #[.val (.ref b), .val (.int (Int32.ofNat o)), .val (.int (Int32.ofNat len)), .unset, .unset, .unset] [.int (Int32.ofNat len)])) := c1.trans (by
    refine XS.iloadN X0.here hexec rfl (hb hbytes d0) rfl ?_
    exact Steps.refl _)
  obtain ⟨T3, B3, X3, ba3, bs3, bv3, bh3, bf3, st3⟩ := X0.anew hexec (atype := .byte) (wk W (.arrayClass .byte)) rfl (by show len * 1 ≤ _; omega) (by omega) (g := (mkF m 1 #[.val (.ref b), .val (.int (Int32.ofNat o)), .val (.int (Int32.ofNat len)), .unset, .unset, .unset] [.int (Int32.ofNat len)])) rfl (hb hbytes d1) (rest := []) rfl (Nat.le_refl _) (by show 0 + len ≤ len; omega)
  rw [hh0] at ba3 st3
  have kp3 : XT.Kept s T3 := (XT.Kept.of_eq hh0).push bh3
  have hA3 := hA.keep X3.warmed.alike (kp3 _ _ hA.1.1)
  have hne : b ≠ s.heap.size := hA.1.ne
  have c4 : Steps p.tables e below (s₁.setTop (entryFrame m #[.ref b, .int (Int32.ofNat o), .int (Int32.ofNat len)] 6)) (T3.setTop (mkF m 3 #[.val (.ref b), .val (.int (Int32.ofNat o)), .val (.int (Int32.ofNat len)), .unset, .unset, .unset] [.ref s.heap.size])) := c2.trans (st3 _ (Steps.refl _))
  have c5 : Steps p.tables e below (s₁.setTop (entryFrame m #[.ref b, .int (Int32.ofNat o), .int (Int32.ofNat len)] 6)) (T3.setTop (mkF m 9 #[.val (.ref b), .val (.int (Int32.ofNat o)), .val (.int (Int32.ofNat len)), .val (.ref s.heap.size), .unset, .unset] [.int (Int32.ofNat len), .int 0, .ref s.heap.size, .int (Int32.ofNat o), .ref b])) := c4.trans (by
    refine XS.astoreN X3.here hexec rfl (hb hbytes d3) rfl rfl rfl ?_
    refine XS.aloadN X3.here hexec rfl (hb hbytes d4) rfl rfl ?_
    refine XS.iloadN X3.here hexec rfl (hb hbytes d5) rfl ?_
    refine XS.aloadN X3.here hexec rfl (hb hbytes d6) rfl rfl ?_
    refine iconstV X3.here hexec rfl 0 (hb hbytes d7) (by decide) ?_
    refine XS.iloadN X3.here hexec rfl (hb hbytes d8) rfl ?_
    exact Steps.refl _)
  obtain ⟨v6, T6, X6, E6, g6⟩ := X3.callS hexec (Cmp5.law l b A s.heap.size B3 o 0 len) hown (wks W (staticW U16 115 Cmp5.yN)) (wk W Cmp5.tab) (W := 0) (Nat.le_of_ble_eq_true rfl) (Nat.le_of_ble_eq_true rfl) (Nat.le_refl _) (by show 0 + len + 0 ≤ len; omega) (g := (mkF m 9 #[.val (.ref b), .val (.int (Int32.ofNat o)), .val (.int (Int32.ofNat len)), .val (.ref s.heap.size), .unset, .unset] [.int (Int32.ofNat len), .int (Int32.ofNat 0), .ref s.heap.size, .int (Int32.ofNat o), .ref b])) rfl (by rw [hml]; rfl) c5 (argsL := [.ref b, .int (Int32.ofNat o), .ref s.heap.size, .int (Int32.ofNat 0), .int (Int32.ofNat len)]) (rest := []) rfl rfl (by show 2 * 0 + 0 ≤ _; decide) (hb hbytes d9) (⟨rfl, hA3, ba3, hne, l1, by rw [bs3]; simp, hp⟩)
  obtain ⟨rfl, B6, p6, f6⟩ := E6
  have c7 : Steps p.tables e below (s₁.setTop (entryFrame m #[.ref b, .int (Int32.ofNat o), .int (Int32.ofNat len)] 6)) (T6.setTop (mkF m 12 #[.val (.ref b), .val (.int (Int32.ofNat o)), .val (.int (Int32.ofNat len)), .val (.ref s.heap.size), .unset, .unset] [.int (Int32.ofNat len)])) := g6
  have c8 : Steps p.tables e below (s₁.setTop (entryFrame m #[.ref b, .int (Int32.ofNat o), .int (Int32.ofNat len)] 6)) (T6.setTop (mkF m 58 #[.val (.ref b), .val (.int (Int32.ofNat o)), .val (.int (Int32.ofNat len)), .val (.ref s.heap.size), .val (.int (Int32.ofNat len)), .unset] [.ref s.heap.size])) := c7.trans (by
    refine XS.istore X6.here hexec rfl (hb hbytes d12) rfl rfl ?_
    refine XS.iload X6.here hexec rfl (hb hbytes d14) rfl ?_
    refine XS.iloadN X6.here hexec rfl (hb hbytes d16) rfl ?_
    refine XS.icmpYes X6.here hexec rfl (pc0 := 17) rfl (hb hbytes d17) rfl (ii_eq_t rfl) (by decide) rfl ?_
    refine XS.aloadN X6.here hexec rfl (hb hbytes d57) rfl rfl ?_
    exact Steps.refl _)
  have X8 := X6.wide (L' := []) (cells' := 1) (slots' := len) (fun x hx hlt => by
    simp only [List.nil_append, copyLocs, List.mem_map, List.mem_range] at hx
    obtain ⟨i, -, rfl⟩ := hx
    exact absurd hlt (Nat.lt_irrefl _)) (Nat.le_refl _) (by omega)
  exact ⟨T6, some (.ref s.heap.size), _, _, _, X8, rfl, rfl, rfl, (fun h => by cases h), ⟨⟨rfl, B6, ba3.like (X3.warmed.alike.symm.trans X6.warmed.alike) p6.1 f6.1 f6.2.1 f6.2.2.1, f6.2.1.trans bv3, by rw [X6.warmed.alike.findClass, f6.1]; exact bf3, by rw [f6.2.2.1, bs3]; simp, fun j hj => by rw [f6.2.2.2 j, if_pos (by omega)]; rfl, kp3.put p6 (Nat.le_refl _)⟩, by rw [p6.2.2, bh3, hh0]; simp⟩, fun fs hl => c8.trans (X8.areturnOut hexec rfl hret rfl (hb hbytes d58) hl)⟩
end Cmp3
namespace CodL
def yN : MethodName := ⟨"java/lang/StringUTF16", "coderFromArrayLen", "([BI)B"⟩
abbrev yB : ByteArray := jdk_52_method_15_code
theorem d0 : decode yB 0 = .ok (.iload_n 1, 1) := by decide +kernel
theorem d1 : decode yB 1 = .ok (.aload_n 0, 1) := by decide +kernel
theorem d2 : decode yB 2 = .ok (.arraylength, 1) := by decide +kernel
theorem d3 : decode yB 3 = .ok (.isub, 1) := by decide +kernel
theorem d4 : decode yB 4 = .ok (.bipush 31, 2) := by decide +kernel
theorem d6 : decode yB 6 = .ok (.iushr, 1) := by decide +kernel
theorem d7 : decode yB 7 = .ok (.i2b, 1) := by decide +kernel
theorem d8 : decode yB 8 = .ok (.ireturn, 1) := by decide +kernel
def site : List Cond := []
def tab : Cond := tabOf yN yB 2 (some .byte) site
def P (d : Addr) (B : Cell) (args : Array Value) (s : State) : Prop := args = #[.ref d, .int (Int32.ofNat B.slots.size)] ∧ Arr .byte d B s
def E (r : Option Value) (s u : State) : Prop := XT.PureE (some (.int 0)) r s u
theorem law (l : Launch) (d : Addr) (B : Cell) : Law l yN 2 2 0 0 yB 2 (some .byte) site (P d B) E [] 0 0 := by
  refine Law.of_walk (plainFor_of_name (by decide +kernel)) (by decide +kernel) (by decide +kernel) (by decide) (fun _ _ h => by rw [h.1]; rfl) (fun _ U U' hal hh h => ⟨h.1, h.2.mv hal hh⟩) (fun r U U' V V' h1 hal h2 h => XT.PureE.mv r U U' V V' h1 hal h2 h) ?_
  intro p e s m args below meth c s₁ X0 hexec hbytes hml hret hlk hnm hown hh0 W hP
  obtain ⟨rfl, hB⟩ := hP
  have hB0 := hB.mv X0.warmed.alike hh0
  have c1 : Steps p.tables e below (s₁.setTop (entryFrame m #[.ref d, .int (Int32.ofNat B.slots.size)] 2)) (s₁.setTop (mkF m 0 #[.val (.ref d), .val (.int (Int32.ofNat B.slots.size))] [])) := entry rfl
  have c2 : Steps p.tables e below (s₁.setTop (entryFrame m #[.ref d, .int (Int32.ofNat B.slots.size)] 2)) (s₁.setTop (mkF m 2 #[.val (.ref d), .val (.int (Int32.ofNat B.slots.size))] [.ref d, .int (Int32.ofNat B.slots.size)])) := c1.trans (by
    refine XS.iloadN X0.here hexec rfl (hb hbytes d0) rfl ?_
    refine XS.aloadN X0.here hexec rfl (hb hbytes d1) rfl rfl ?_
    exact Steps.refl _)
  have c3 : Steps p.tables e below (s₁.setTop (entryFrame m #[.ref d, .int (Int32.ofNat B.slots.size)] 2)) (s₁.setTop (mkF m 8 #[.val (.ref d), .val (.int (Int32.ofNat B.slots.size))] [.int (lo8 (ushr (Int32.ofNat B.slots.size - Int32.ofNat B.slots.size) 31))])) := c2.trans (by
    refine X0.alen hexec hB0 rfl rfl (hb hbytes d2) ?_
    refine XS.isub X0.here hexec rfl (hb hbytes d3) rfl ?_
    refine bipushV X0.here hexec rfl 31 (hb hbytes d4) (by decide) ?_
    refine iushr X0.here hexec rfl (hb hbytes d6) rfl ?_
    refine i2b X0.here hexec rfl (hb hbytes d7) rfl ?_
    exact Steps.refl _)
  have e0 : lo8 (ushr (Int32.ofNat B.slots.size - Int32.ofNat B.slots.size) 31) = 0 := by rw [Int32.sub_self]; decide
  rw [e0] at c3
  exact ⟨s₁, some (.int 0), _, _, _, X0, rfl, rfl, rfl, (fun h => by cases h), ⟨rfl, hh0⟩, fun fs hl => c3.trans (X0.ireturnOut hexec hret rfl (Or.inr (Or.inr (Or.inl rfl))) (hb hbytes d8) hl)⟩
end CodL
def Got (a : Addr) (D : Cell) (fV fC : Field) (A : Cell) (o len : Nat) (r : Option Value) (s u : State) : Prop := r = none ∧ ∃ D' V : Cell, Blank "java/lang/String" a D' u ∧ Same D D' [fV.slot, fC.slot] ∧ D'.slots[fV.slot]? = some (.ref s.heap.size) ∧ D'.slots[fC.slot]? = some (.int 0) ∧ Arr .byte s.heap.size V u ∧ V.vm = .none ∧ u.vm.findClass "[B" = some V.cls ∧ V.slots.size = len ∧ (∀ j, j < len → V.slots[j]? = some (.int (lo8 (cv A (o + j))))) ∧ (∀ (y : Addr) (c : Cell), y ≠ a → s.heap[y]? = some c → u.heap[y]? = some c) ∧ u.heap.size = s.heap.size + 1
theorem Got.mv {a : Addr} {D A : Cell} {fV fC : Field} {o len : Nat} : ∀ r (U U' V V' : State), U'.heap = U.heap → V.vm.Alike V'.vm → V'.heap = V.heap → Got a D fV fC A o len r U V → Got a D fV fC A o len r U' V' :=
  fun r U U' V V' h1 hal h2 ⟨e0, D', X, a1, a2, a3, a4, a5, a6, a7, a8, a9, a10, a11⟩ => ⟨e0, D', X, a1.mv hal h2, a2, by rw [h1]; exact a3, a4, by rw [h1]; exact a5.mv hal h2, a6, by rw [hal.findClass]; exact a7, a8, a9, by rw [h1, h2]; exact a10, by rw [h1, h2]; exact a11⟩
namespace New4
def yN : MethodName := ⟨"java/lang/String", "<init>", "([CIILjava/lang/Void;)V"⟩
abbrev yB : ByteArray := jdk_42_method_149_code
theorem d0 : decode yB 0 = .ok (.aload_n 0, 1) := by decide +kernel
theorem d1 : decode yB 1 = .ok (.invokespecial 1, 3) := by decide +kernel
theorem d4 : decode yB 4 = .ok (.iload_n 3, 1) := by decide +kernel
theorem d5 : decode yB 5 = .ok (.ifCond (.ne) 22, 3) := by decide +kernel
theorem d27 : decode yB 27 = .ok (.getstatic 38, 3) := by decide +kernel
theorem d30 : decode yB 30 = .ok (.ifCond (.eq) 28, 3) := by decide +kernel
theorem d33 : decode yB 33 = .ok (.aload_n 1, 1) := by decide +kernel
theorem d34 : decode yB 34 = .ok (.iload_n 2, 1) := by decide +kernel
theorem d35 : decode yB 35 = .ok (.iload_n 3, 1) := by decide +kernel
theorem d36 : decode yB 36 = .ok (.invokestatic 177, 3) := by decide +kernel
theorem d39 : decode yB 39 = .ok (.astore 5, 2) := by decide +kernel
theorem d41 : decode yB 41 = .ok (.aload_n 0, 1) := by decide +kernel
theorem d42 : decode yB 42 = .ok (.aload 5, 2) := by decide +kernel
theorem d44 : decode yB 44 = .ok (.iload_n 3, 1) := by decide +kernel
theorem d45 : decode yB 45 = .ok (.invokestatic 47, 3) := by decide +kernel
theorem d48 : decode yB 48 = .ok (.putfield 15, 3) := by decide +kernel
theorem d51 : decode yB 51 = .ok (.aload_n 0, 1) := by decide +kernel
theorem d52 : decode yB 52 = .ok (.aload 5, 2) := by decide +kernel
theorem d54 : decode yB 54 = .ok (.putfield 9, 3) := by decide +kernel
theorem d57 : decode yB 57 = .ok (.return_, 1) := by decide +kernel
def site : List Cond := [.fieldLink "java/lang/String" 38 "java/lang/String" "COMPACT_STRINGS" "Z", Cmp3.tab, CodL.tab, .laysFinal "java/lang/String" "java/lang/String" "value" "[B", .fieldLink "java/lang/String" 9 "java/lang/String" "value" "[B", .laysFinal "java/lang/String" "java/lang/String" "coder" "B", .fieldLink "java/lang/String" 15 "java/lang/String" "coder" "B"] ++ objW "java/lang/String" 1 ++ staticW "java/lang/String" 177 Cmp3.yN ++ staticW "java/lang/String" 47 CodL.yN
def tab : Cond := tabOf yN yB 6 none site
def P (a : Addr) (D : Cell) (fV fC : Field) (b : Addr) (A : Cell) (z : Int32) (o len : Nat) (args : Array Value) (s : State) : Prop := args = #[.ref a, .ref b, .int (Int32.ofNat o), .int (Int32.ofNat len), .null] ∧ Blank "java/lang/String" a D s ∧ Found "java/lang/String" "value" "[B" fV s ∧ Found "java/lang/String" "coder" "B" fC s ∧ Ch b A s ∧ StaticIs s "java/lang/String" "COMPACT_STRINGS" "Z" (.int z) ∧ ¬ z = 0 ∧ 0 < len ∧ o + len ≤ A.slots.size ∧ len ≤ 536870912 ∧ ∀ i, i < len → ¬ 255 < cv A (o + i)
def E (a : Addr) (D : Cell) (fV fC : Field) (A : Cell) (o len : Nat) (r : Option Value) (s u : State) : Prop := Got a D fV fC A o len r s u
theorem law (l : Launch) (a : Addr) (D : Cell) (fV fC : Field) (b : Addr) (A : Cell) (z : Int32) (o len : Nat) : Law l yN 5 4 2 35 yB 6 none site (P a D fV fC b A z o len) (E a D fV fC A o len) [⟨a, fC.slot⟩, ⟨a, fV.slot⟩] 1 len := by
  refine Law.of_walk (plainFor_of_name (by decide +kernel)) (by decide +kernel) (by decide +kernel) (by decide) (fun _ _ h => by rw [h.1]; rfl) (fun _ U U' hal hh h => ⟨h.1, h.2.1.mv hal hh, h.2.2.1.al hal, h.2.2.2.1.al hal, h.2.2.2.2.1.mv hal hh, h.2.2.2.2.2.1.there hal hh, h.2.2.2.2.2.2⟩) (fun r U U' V V' h1 hal h2 h => Got.mv r U U' V V' h1 hal h2 h) ?_
  intro p e s m args below meth c s₁ X0 hexec hbytes hml hret hlk hnm hown hh0 W hP
  obtain ⟨rfl, hB, f1, f2, hA, s1, hz, l0, l1, l2, hp⟩ := hP
  have a31 := hA.1.2.2.2
  have c1 : Steps p.tables e below (s₁.setTop (entryFrame m #[.ref a, .ref b, .int (Int32.ofNat o), .int (Int32.ofNat len), .null] 6)) (s₁.setTop (mkF m 0 #[.val (.ref a), .val (.ref b), .val (.int (Int32.ofNat o)), .val (.int (Int32.ofNat len)), .val .null, .unset] [])) := entry rfl
  have c2 : Steps p.tables e below (s₁.setTop (entryFrame m #[.ref a, .ref b, .int (Int32.ofNat o), .int (Int32.ofNat len), .null] 6)) (s₁.setTop (mkF m 1 #[.val (.ref a), .val (.ref b), .val (.int (Int32.ofNat o)), .val (.int (Int32.ofNat len)), .val .null, .unset] [.ref a])) := c1.trans (by
    refine XS.aloadN X0.here hexec rfl (hb hbytes d0) rfl rfl ?_
    exact Steps.refl _)
  obtain ⟨T3, X3, q3, st3⟩ := X0.oinit hexec hown (wks W (objW "java/lang/String" 1)) (g := (mkF m 1 #[.val (.ref a), .val (.ref b), .val (.int (Int32.ofNat o)), .val (.int (Int32.ofNat len)), .val .null, .unset] [.ref a])) rfl (by rw [hml]; rfl) (rest := []) rfl (hb hbytes d1) (W := 0) (by show 2 * 0 + 0 ≤ _; decide) (Nat.le_of_ble_eq_true rfl) (Nat.le_of_ble_eq_true rfl)
  have hh3 := q3.trans hh0
  have c4 : Steps p.tables e below (s₁.setTop (entryFrame m #[.ref a, .ref b, .int (Int32.ofNat o), .int (Int32.ofNat len), .null] 6)) (T3.setTop (mkF m 27 #[.val (.ref a), .val (.ref b), .val (.int (Int32.ofNat o)), .val (.int (Int32.ofNat len)), .val .null, .unset] [])) := (c2.trans (st3 _ (Steps.refl _))).trans (by
    refine XS.iloadN X3.here hexec rfl (hb hbytes d4) rfl ?_
    refine XS.ifYes X3.here hexec rfl (pc0 := 5) rfl (hb hbytes d5) rfl (i0_ne_t (nz32 (by omega) l0)) (by decide) rfl ?_
    exact Steps.refl _)
  obtain ⟨T5, X5, q5, st5⟩ := X3.sget hexec hown (wk W (.fieldLink "java/lang/String" 38 "java/lang/String" "COMPACT_STRINGS" "Z")) s1 (fun _ _ h => by rw [hh3]; exact h) (g := (mkF m 27 #[.val (.ref a), .val (.ref b), .val (.int (Int32.ofNat o)), .val (.int (Int32.ofNat len)), .val .null, .unset] [])) rfl (hb hbytes d27)
  have hh5 := q5.trans hh3
  have c6 : Steps p.tables e below (s₁.setTop (entryFrame m #[.ref a, .ref b, .int (Int32.ofNat o), .int (Int32.ofNat len), .null] 6)) (T5.setTop (mkF m 30 #[.val (.ref a), .val (.ref b), .val (.int (Int32.ofNat o)), .val (.int (Int32.ofNat len)), .val .null, .unset] [.int z])) := c4.trans (st5 _ (Steps.refl _))
  have c7 : Steps p.tables e below (s₁.setTop (entryFrame m #[.ref a, .ref b, .int (Int32.ofNat o), .int (Int32.ofNat len), .null] 6)) (T5.setTop (mkF m 36 #[.val (.ref a), .val (.ref b), .val (.int (Int32.ofNat o)), .val (.int (Int32.ofNat len)), .val .null, .unset] [.int (Int32.ofNat len), .int (Int32.ofNat o), .ref b])) := c6.trans (by
    refine XS.ifNo X5.here hexec rfl (hb hbytes d30) rfl (i0_eq_f hz) ?_
    refine XS.aloadN X5.here hexec rfl (hb hbytes d33) rfl rfl ?_
    refine XS.iloadN X5.here hexec rfl (hb hbytes d34) rfl ?_
    refine XS.iloadN X5.here hexec rfl (hb hbytes d35) rfl ?_
    exact Steps.refl _)
  obtain ⟨v8, T8, X8, E8, g8⟩ := X5.callS hexec (Cmp3.law l b A o len) hown (wks W (staticW "java/lang/String" 177 Cmp3.yN)) (wk W Cmp3.tab) (W := 0) (Nat.le_of_ble_eq_true rfl) (Nat.le_of_ble_eq_true rfl) (Nat.le_refl _) (by show 0 + len ≤ len; omega) (g := (mkF m 36 #[.val (.ref a), .val (.ref b), .val (.int (Int32.ofNat o)), .val (.int (Int32.ofNat len)), .val .null, .unset] [.int (Int32.ofNat len), .int (Int32.ofNat o), .ref b])) rfl (by rw [hml]; rfl) c7 (argsL := [.ref b, .int (Int32.ofNat o), .int (Int32.ofNat len)]) (rest := []) rfl rfl (by show 2 * 0 + 0 ≤ _; decide) (hb hbytes d36) (⟨rfl, hA.mv X5.warmed.alike hh5, l1, l2, hp⟩)
  obtain ⟨e8, z8⟩ := E8
  obtain ⟨rfl, N, n1, n2, n3, n4, n5, n6⟩ := NewArr.mv _ T5 s _ _ hh5.symm (Vm.Alike.refl _) rfl e8
  rw [hh5] at z8
  have hB1 := hB.keep X8.warmed.alike (n6 _ _ hB.1)
  have hne : s.heap.size ≠ a := (Nat.ne_of_lt (Array.getElem?_eq_some_iff.mp hB.1).1).symm
  have c9 : Steps p.tables e below (s₁.setTop (entryFrame m #[.ref a, .ref b, .int (Int32.ofNat o), .int (Int32.ofNat len), .null] 6)) (T8.setTop (mkF m 39 #[.val (.ref a), .val (.ref b), .val (.int (Int32.ofNat o)), .val (.int (Int32.ofNat len)), .val .null, .unset] [.ref s.heap.size])) := g8
  have c10 : Steps p.tables e below (s₁.setTop (entryFrame m #[.ref a, .ref b, .int (Int32.ofNat o), .int (Int32.ofNat len), .null] 6)) (T8.setTop (mkF m 45 #[.val (.ref a), .val (.ref b), .val (.int (Int32.ofNat o)), .val (.int (Int32.ofNat len)), .val .null, .val (.ref s.heap.size)] [.int (Int32.ofNat N.slots.size), .ref s.heap.size, .ref a])) := by
    have hc : Steps p.tables e below (s₁.setTop (entryFrame m #[.ref a, .ref b, .int (Int32.ofNat o), .int (Int32.ofNat len), .null] 6)) (T8.setTop (mkF m 45 #[.val (.ref a), .val (.ref b), .val (.int (Int32.ofNat o)), .val (.int (Int32.ofNat len)), .val .null, .val (.ref s.heap.size)] [.int (Int32.ofNat len), .ref s.heap.size, .ref a])) := c9.trans (by
      refine XS.astore X8.here hexec rfl (hb hbytes d39) rfl rfl rfl ?_
      refine XS.aloadN X8.here hexec rfl (hb hbytes d41) rfl rfl ?_
      refine XS.aload X8.here hexec rfl (hb hbytes d42) rfl rfl ?_
      refine XS.iloadN X8.here hexec rfl (hb hbytes d44) rfl ?_
      exact Steps.refl _)
    rw [n4]; exact hc
  obtain ⟨v11, T11, X11, E11, g11⟩ := X8.callS hexec (CodL.law l s.heap.size N) hown (wks W (staticW "java/lang/String" 47 CodL.yN)) (wk W CodL.tab) (W := 1) (Nat.le_of_ble_eq_true rfl) (Nat.le_of_ble_eq_true rfl) (Nat.le_refl _) (by show 0 + len + 0 ≤ len; omega) (g := (mkF m 45 #[.val (.ref a), .val (.ref b), .val (.int (Int32.ofNat o)), .val (.int (Int32.ofNat len)), .val .null, .val (.ref s.heap.size)] [.int (Int32.ofNat N.slots.size), .ref s.heap.size, .ref a])) rfl (by rw [hml]; rfl) c10 (argsL := [.ref s.heap.size, .int (Int32.ofNat N.slots.size)]) (rest := [.ref a]) rfl rfl (by show 2 * 0 + (1 + 0) ≤ _; decide) (hb hbytes d45) (⟨rfl, n1⟩)
  obtain ⟨rfl, q11⟩ := E11
  have hB11 := hB1.mv (X8.warmed.alike.symm.trans X11.warmed.alike) q11
  have c12 : Steps p.tables e below (s₁.setTop (entryFrame m #[.ref a, .ref b, .int (Int32.ofNat o), .int (Int32.ofNat len), .null] 6)) (T11.setTop (mkF m 48 #[.val (.ref a), .val (.ref b), .val (.int (Int32.ofNat o)), .val (.int (Int32.ofNat len)), .val .null, .val (.ref s.heap.size)] [.int 0, .ref a])) := g11
  obtain ⟨T13, X13, p13, bl13, sl13, st13⟩ := X11.finit hexec hown (wk W (.fieldLink "java/lang/String" 15 "java/lang/String" "coder" "B")) (Or.inr ⟨_, (wk W (.laysFinal "java/lang/String" "java/lang/String" "coder" "B"))⟩) (Or.inl ⟨rfl, hnm⟩) f2 (Or.inl rfl) hB11 (t := .byte) (by decide +kernel) rfl (g := (mkF m 48 #[.val (.ref a), .val (.ref b), .val (.int (Int32.ofNat o)), .val (.int (Int32.ofNat len)), .val .null, .val (.ref s.heap.size)] [.int 0, .ref a])) rfl (rest := []) rfl (hb hbytes d48)
  have c14 : Steps p.tables e below (s₁.setTop (entryFrame m #[.ref a, .ref b, .int (Int32.ofNat o), .int (Int32.ofNat len), .null] 6)) (T13.setTop (mkF m 54 #[.val (.ref a), .val (.ref b), .val (.int (Int32.ofNat o)), .val (.int (Int32.ofNat len)), .val .null, .val (.ref s.heap.size)] [.ref s.heap.size, .ref a])) := (c12.trans (st13 _ (Steps.refl _))).trans (by
    refine XS.aloadN X13.here hexec rfl (hb hbytes d51) rfl rfl ?_
    refine XS.aload X13.here hexec rfl (hb hbytes d52) rfl rfl ?_
    exact Steps.refl _)
  obtain ⟨T15, X15, p15, bl15, sl15, st15⟩ := X13.finit hexec hown (wk W (.fieldLink "java/lang/String" 9 "java/lang/String" "value" "[B")) (Or.inr ⟨_, (wk W (.laysFinal "java/lang/String" "java/lang/String" "value" "[B"))⟩) (Or.inl ⟨rfl, hnm⟩) f1 (Or.inl rfl) bl13 (t := (.array .byte)) (by decide +kernel) rfl (g := (mkF m 54 #[.val (.ref a), .val (.ref b), .val (.int (Int32.ofNat o)), .val (.int (Int32.ofNat len)), .val .null, .val (.ref s.heap.size)] [.ref s.heap.size, .ref a])) rfl (rest := []) rfl (hb hbytes d54)
  have c16 : Steps p.tables e below (s₁.setTop (entryFrame m #[.ref a, .ref b, .int (Int32.ofNat o), .int (Int32.ofNat len), .null] 6)) (T15.setTop (mkF m 57 #[.val (.ref a), .val (.ref b), .val (.int (Int32.ofNat o)), .val (.int (Int32.ofNat len)), .val .null, .val (.ref s.heap.size)] [])) := c14.trans (st15 _ (Steps.refl _))
  have ap := apart (Or.inr ⟨_, (wk W (.laysFinal "java/lang/String" "java/lang/String" "value" "[B"))⟩) (Or.inr ⟨_, (wk W (.laysFinal "java/lang/String" "java/lang/String" "coder" "B"))⟩) f1 f2 (t₁ := .array .byte) (t₂ := .byte) (by decide +kernel) (by decide +kernel) (by decide)
  have al := X8.warmed.alike.symm.trans X15.warmed.alike
  have n7 : T11.heap[s.heap.size]? = some N := by rw [q11]; exact n1.1
  exact ⟨T15, none, _, _, _, X15, by simp, rfl, by omega, (fun _ => rfl), ⟨rfl, _, N, bl15, ((Same.refl D _).set _ (by simp)).set _ (by simp), sl15, (Cell.slots_setSlot_ne _ ap).trans sl13, n1.keep al (p15.other hne (p13.other hne n7)), n2, by rw [al.findClass]; exact n3, n4, n5, fun y c h1 h2 => p15.other h1 (p13.other h1 (by rw [q11]; exact n6 y c h2)), by rw [p15.2.2, p13.2.2, q11]; exact z8⟩, fun fs hl => c16.trans (X15.returnOut hexec hret (hb hbytes d57) hl)⟩
end New4
namespace New1
def yN : MethodName := ⟨"java/lang/String", "<init>", "([C)V"⟩
abbrev yB : ByteArray := jdk_42_method_3_code
theorem d0 : decode yB 0 = .ok (.aload_n 0, 1) := by decide +kernel
theorem d1 : decode yB 1 = .ok (.aload_n 1, 1) := by decide +kernel
theorem d2 : decode yB 2 = .ok (.iconst 0, 1) := by decide +kernel
theorem d3 : decode yB 3 = .ok (.aload_n 1, 1) := by decide +kernel
theorem d4 : decode yB 4 = .ok (.arraylength, 1) := by decide +kernel
theorem d5 : decode yB 5 = .ok (.aconst_null, 1) := by decide +kernel
theorem d6 : decode yB 6 = .ok (.invokespecial 27, 3) := by decide +kernel
theorem d9 : decode yB 9 = .ok (.return_, 1) := by decide +kernel
def site : List Cond := [New4.tab] ++ initW "java/lang/String" 27 New4.yN
def tab : Cond := tabOf yN yB 2 none site
def P (a : Addr) (D : Cell) (fV fC : Field) (b : Addr) (A : Cell) (z : Int32) (args : Array Value) (s : State) : Prop := args = #[.ref a, .ref b] ∧ Blank "java/lang/String" a D s ∧ Found "java/lang/String" "value" "[B" fV s ∧ Found "java/lang/String" "coder" "B" fC s ∧ Ch b A s ∧ StaticIs s "java/lang/String" "COMPACT_STRINGS" "Z" (.int z) ∧ ¬ z = 0 ∧ 0 < A.slots.size ∧ A.slots.size ≤ 536870912 ∧ ∀ i, i < A.slots.size → ¬ 255 < cv A i
def E (a : Addr) (D : Cell) (fV fC : Field) (A : Cell) (r : Option Value) (s u : State) : Prop := Got a D fV fC A 0 A.slots.size r s u
theorem law (l : Launch) (a : Addr) (D : Cell) (fV fC : Field) (b : Addr) (A : Cell) (z : Int32) : Law l yN 2 1 3 52 yB 2 none site (P a D fV fC b A z) (E a D fV fC A) [⟨a, fC.slot⟩, ⟨a, fV.slot⟩] 1 A.slots.size := by
  refine Law.of_walk (plainFor_of_name (by decide +kernel)) (by decide +kernel) (by decide +kernel) (by decide) (fun _ _ h => by rw [h.1]; rfl) (fun _ U U' hal hh h => ⟨h.1, h.2.1.mv hal hh, h.2.2.1.al hal, h.2.2.2.1.al hal, h.2.2.2.2.1.mv hal hh, h.2.2.2.2.2.1.there hal hh, h.2.2.2.2.2.2⟩) (fun r U U' V V' h1 hal h2 h => Got.mv r U U' V V' h1 hal h2 h) ?_
  intro p e s m args below meth c s₁ X0 hexec hbytes hml hret hlk hnm hown hh0 W hP
  obtain ⟨rfl, hB, f1, f2, hA, s1, hz, l0, l2, hp⟩ := hP
  have c1 : Steps p.tables e below (s₁.setTop (entryFrame m #[.ref a, .ref b] 2)) (s₁.setTop (mkF m 0 #[.val (.ref a), .val (.ref b)] [])) := entry rfl
  have c2 : Steps p.tables e below (s₁.setTop (entryFrame m #[.ref a, .ref b] 2)) (s₁.setTop (mkF m 6 #[.val (.ref a), .val (.ref b)] [.null, .int (Int32.ofNat A.slots.size), .int 0, .ref b, .ref a])) := c1.trans (by
    refine XS.aloadN X0.here hexec rfl (hb hbytes d0) rfl rfl ?_
    refine XS.aloadN X0.here hexec rfl (hb hbytes d1) rfl rfl ?_
    refine iconstV X0.here hexec rfl 0 (hb hbytes d2) (by decide) ?_
    refine XS.aloadN X0.here hexec rfl (hb hbytes d3) rfl rfl ?_
    refine X0.alen hexec (hA.1.mv X0.warmed.alike hh0) rfl rfl (hb hbytes d4) ?_
    refine XS.aconstNull X0.here hexec rfl (hb hbytes d5) ?_
    exact Steps.refl _)
  obtain ⟨v3, T3, X3, E3, g3⟩ := X0.callN hexec (New4.law l a D fV fC b A z 0 A.slots.size) rfl hown (wks W (initW "java/lang/String" 27 New4.yN)) (W New4.tab (by simp only [site, List.mem_cons, List.mem_append, true_or, or_true])) (W := 0) (Nat.le_of_ble_eq_true rfl) (Nat.le_of_ble_eq_true rfl) (Nat.le_refl _) (by show 0 + A.slots.size ≤ A.slots.size; omega) (g := (mkF m 6 #[.val (.ref a), .val (.ref b)] [.null, .int (Int32.ofNat A.slots.size), .int (Int32.ofNat 0), .ref b, .ref a])) rfl (by rw [hml]; rfl) c2 (argsL := [.ref b, .int (Int32.ofNat 0), .int (Int32.ofNat A.slots.size), .null]) (rest := []) rfl rfl (by show 2 * 0 + 0 ≤ _; decide) (hb hbytes d6) (⟨rfl, hB.mv X0.warmed.alike hh0, f1.al X0.warmed.alike, f2.al X0.warmed.alike, hA.mv X0.warmed.alike hh0, s1.there X0.warmed.alike hh0, hz, l0, by omega, l2, fun i hi => by rw [Nat.zero_add]; exact hp i hi⟩)
  have e0 := Got.mv _ s₁ s _ _ hh0.symm (Vm.Alike.refl _) rfl E3
  obtain rfl := e0.1
  have c4 : Steps p.tables e below (s₁.setTop (entryFrame m #[.ref a, .ref b] 2)) (T3.setTop (mkF m 9 #[.val (.ref a), .val (.ref b)] [])) := g3
  exact ⟨T3, none, _, _, _, X3, by simp, rfl, by omega, (fun _ => rfl), e0, fun fs hl => c4.trans (X3.returnOut hexec hret (hb hbytes d9) hl)⟩
theorem pays {l : Launch} {R : Room} {p : Program} {e : Env} {below : List Frame} {s : State} {sargs : Array Value} {len W : Nat} (a : Addr) (D : Cell) (fV fC : Field) (b : Addr) (A : Cell) (z : Int32) (htab : tab.before sargs s = true) (hfr : 4 ≤ R.frames) (hlo : W + 65 ≤ R.locals) :
    Back l R p e below s sargs yN len W (fun A₁ a₁ => A₁.cells + 1 ≤ R.cells ∧ A₁.slots + A.slots.size ≤ R.slots ∧ P a D fV fC b A z a₁ A₁.U) (fun A₁ _ v₁ B₁ => E a D fV fC A v₁ A₁.U B₁.U ∧ B₁.locs = A₁.locs ++ [⟨a, fC.slot⟩, ⟨a, fV.slot⟩] ∧ B₁.cells = A₁.cells + 1 ∧ B₁.slots = A₁.slots + A.slots.size) :=
  (law l a D fV fC b A z).pays htab hfr (by omega)
end New1
end StrChars
namespace StrChars.Road
open Jvm Sem ClassFile Op Lib Jvm.Stand Jvm.Free Jvm.Free.XT
open Jvm.Lib.Cold (StaticIs)
abbrev ST : String := "java/lang/String"
abbrev words : List Jvm.Cond := [.code New1.yN New1.yB 2 none, .initialized ST, .methodLink ST 27 New4.yN, .instanceMethod New4.yN,
  .code New4.yN New4.yB 6 none, .fieldLink ST 38 ST "COMPACT_STRINGS" "Z", .laysFinal ST ST "value" "[B", .fieldLink ST 9 ST "value" "[B", .laysFinal ST ST "coder" "B", .fieldLink ST 15 ST "coder" "B",
  .methodLink ST 1 Lib.objectInit, .instanceMethod Lib.objectInit, .code Lib.objectInit ⟨#[0xb1]⟩ 1 none, .methodLink ST 177 Cmp3.yN, .static Cmp3.yN, .methodLink ST 47 CodL.yN, .static CodL.yN,
  .code Cmp3.yN Cmp3.yB 6 (some (.array .byte)), .initialized U16, .arrayClass .byte, .methodLink U16 115 Cmp5.yN, .static Cmp5.yN, .code Cmp5.yN Cmp5.yB 7 (some .int), .code CodL.yN CodL.yB 2 (some .byte)]
theorem tab_of {a : Array Value} {s : State} (h : ∀ w ∈ words, w.before a s = true) : New1.tab.before a s = true := by
  have h5 : Cmp5.tab.before a s = true := unparts (wk h (.code Cmp5.yN Cmp5.yB 7 (some .int))) (wks h (.initialized Cmp5.yN.cls :: Cmp5.site))
  have hc : CodL.tab.before a s = true := unparts (wk h (.code CodL.yN CodL.yB 2 (some .byte))) (wks h (.initialized CodL.yN.cls :: CodL.site))
  have q5 : ∀ w ∈ Cmp5.tab :: words, w.before a s = true := fun w hw => (List.mem_cons.mp hw).elim (fun e => e ▸ h5) (h w)
  have h3 : Cmp3.tab.before a s = true := unparts (wk q5 (.code Cmp3.yN Cmp3.yB 6 (some (.array .byte)))) (wks q5 (.initialized Cmp3.yN.cls :: Cmp3.site))
  have q3 : ∀ w ∈ Cmp3.tab :: CodL.tab :: words, w.before a s = true := fun w hw => (List.mem_cons.mp hw).elim (fun e => e ▸ h3) fun hw => (List.mem_cons.mp hw).elim (fun e => e ▸ hc) (h w)
  have h4 : New4.tab.before a s = true := unparts (wk q3 (.code New4.yN New4.yB 6 none)) (wks q3 (.initialized New4.yN.cls :: New4.site))
  have q4 : ∀ w ∈ New4.tab :: words, w.before a s = true := fun w hw => (List.mem_cons.mp hw).elim (fun e => e ▸ h4) (h w)
  exact unparts (wk q4 (.code New1.yN New1.yB 2 none)) (wks q4 (.initialized New1.yN.cls :: New1.site))
theorem moved {Z s : State} {a0 args : Array Value} (hZ : Z.Warmed39 s.vm) (hw : ∀ d ∈ words, d.before a0 Z = true) : ∀ d ∈ words, d.before args s = true := fun d hd => by
  have q := hw d hd
  have t : ∀ d ∈ words, d = .arrayClass .byte ∨ (d.onTables && d.keepsFace) = true := by decide +kernel
  rcases t d hd with rfl | t
  · exact RoadKit.mvA hZ q
  · exact RoadKit.mv hZ q t
def Q (Z : State) (x : Addr) (A : Cell) (h : Heap) (v : Option Value) (h' : Heap) (L : List Loc) : Prop := v = none ∧ (∀ y ∈ L, y.base = x) ∧ RoadKit.Keep h h' [x] ∧ h'.size = h.size + 1 ∧ RoadKit.Exa Z h' x ST ∧ RoadKit.Fld Z h' x ST "value" "[B" (.ref h.size) ∧ RoadKit.Fld Z h' x ST "coder" "B" (.int 0) ∧
  (∃ V : Cell, RoadKit.Arr Z h' h.size V .byte ∧ V.vm = .none ∧ Z.vm.findClass "[B" = some V.cls ∧ V.slots.size = A.slots.size ∧ ∀ j, j < A.slots.size → V.slots[j]? = some (.int (lo8 (cv A j)))) ∧
  ∀ (O n d : String) (w : Value), RoadKit.Fld Z h x O n d w → RoadKit.slotOf Z O n d ≠ RoadKit.slotOf Z ST "value" "[B" → RoadKit.slotOf Z O n d ≠ RoadKit.slotOf Z ST "coder" "B" → RoadKit.Fld Z h' x O n d w
theorem back {p : Program} {l : Launch} {e : Env} {R : Room} {s : State} {args : Array Value} {below : List Frame} {len W : Nat} {Z : State} {a0 : Array Value} {h : Heap} (hZ : Z.Warmed39 s.vm) (hw : ∀ d ∈ words, d.before a0 Z = true) {kI : Nat} (wi : (Jvm.Cond.instantiable ST kI).before a0 Z = true)
    {x b : Addr} {A : Cell} {z : Int32} {v0 c0 : Value} (E : RoadKit.Exa Z h x ST) (V : RoadKit.Fld Z h x ST "value" "[B" v0) (C : RoadKit.Fld Z h x ST "coder" "B" c0) (K : RoadKit.Arr Z h b A .char) (hty : Typed .char A) (S : RoadKit.Sta Z h ST "COMPACT_STRINGS" "Z" (.int z)) (hz : ¬ z = 0)
    (l0 : 0 < A.slots.size) (l2 : A.slots.size ≤ 536870912) (hp : ∀ i, i < A.slots.size → ¬ 255 < cv A i) (hfr : 4 ≤ R.frames) (hlo : W + 65 ≤ R.locals) :
    Back l R p e below s args New1.yN len W (fun P a => a = #[.ref x, .ref b] ∧ P.U.heap = h ∧ P.cells + 1 ≤ R.cells ∧ P.slots + A.slots.size ≤ R.slots)
      (fun P _ v B => ∃ L, Q Z x A h v B.U.heap L ∧ B.locs = P.locs ++ L ∧ B.cells = P.cells + 1 ∧ B.slots = P.slots + A.slots.size) := by
  intro m meth c P g ig mk a X hg hsize hdg hW hn hp'
  obtain ⟨rfl, rfl, r1, r2⟩ := hp'
  have al : Z.vm.Alike P.U.vm := hZ.alike.trans X.warmed.alike
  obtain ⟨D, cfV, kV, iV, fV, hD, gV, stV, knV, obV, asV, slV⟩ := id V
  obtain ⟨D', cfC, kC, iC, fC, hD', gC, stC, -, -, asC, slC⟩ := id C
  cases hD.symm.trans hD'
  obtain ⟨D2, kD, e1, e2, e3, e4, e5⟩ := id E
  cases hD.symm.trans e1
  obtain ⟨c2, k2, i1, i2, i3, -⟩ := Cond.instantiable_spec wi
  cases e2.symm.trans i1
  cases e3.symm.trans i2
  obtain ⟨kU, u1, u2⟩ := al.2.2 _ _ e3
  have hB : Blank ST x D P.U := ⟨hD, ⟨knV, fun q hq => by rw [hq] at obV; cases obV⟩, by rw [al.findClass]; exact e2, kU, u1, by rw [u2]; exact i3, by rw [u2]; exact e5 i3⟩
  have F1 : Found ST "value" "[B" fV P.U := ⟨SBG.found_only al ⟨cfV, kV, iV, gV⟩, stV⟩
  have F2 : Found ST "coder" "B" fC P.U := ⟨SBG.found_only al ⟨cfC, kC, iC, gC⟩, stC⟩
  have hA : Ch b A P.U := ⟨⟨K.1, State.isArrayOf_alike al K.2.1, K.2.2, by omega⟩, hty⟩
  have hS : StaticIs P.U ST "COMPACT_STRINGS" "Z" (.int z) := by
    obtain ⟨cfS, iS, kS, fS, st, cS, t1, t2, t3, t4, t5, t6, t7⟩ := S
    exact StaticIs.there (s := { Z with heap := P.U.heap }) ⟨cfS, iS, kS, fS, st, cS, t1, t2, t3, t4, t5, (fun q => by rw [q] at t6; cases t6), t7⟩ al rfl
  obtain ⟨v, B, X', ⟨⟨hv, E', V', q1, q2, q3, q4, q5, q6, q7, q8, q9, q10, q11⟩, hl, hc, hs⟩, st⟩ := New1.pays x D fV fC b A z (tab_of (moved hZ hw)) hfr hlo m meth c P g ig mk _ X hg hsize hdg hW hn ⟨r1, r2, rfl, hB, F1, F2, hA, hS, hz, l0, l2, hp⟩
  have al' : Z.vm.Alike B.U.vm := hZ.alike.trans X'.warmed.alike
  have hsz : E'.slots.size = D.slots.size := by
    obtain ⟨-, -, -, kB, w1, w2, w3⟩ := q1
    obtain ⟨kB', y1, y2⟩ := al'.2.2 _ _ e3
    rw [q2.2.1] at w1
    cases w1.symm.trans y1
    rw [w3, e5 i3, y2]
  refine ⟨v, B, X', ⟨_, ⟨hv, ?_, ⟨by omega, fun y cy hy hn' => q10 y cy (by simpa using hn') hy, fun y cy hy => ?_⟩, q11, ⟨E', _, q1.1, by rw [q2.2.1]; exact e2, by rw [q2.2.1]; exact e3, by rw [q2.1]; exact obV, fun _ => by rw [hsz]; exact e5 i3⟩,
    ⟨E', cfV, kV, iV, fV, q1.1, gV, stV, by rw [q2.1]; exact knV, by rw [q2.1]; exact obV, by rw [q2.2.1]; exact asV, q3⟩, ⟨E', cfC, kC, iC, fC, q1.1, gC, stC, by rw [q2.1]; exact knV, by rw [q2.1]; exact obV, by rw [q2.2.1]; exact asC, q4⟩,
    ⟨V', ⟨q5.1, State.isArrayOf_alike al'.symm q5.2.1, q5.2.2.1⟩, q6, by rw [← al'.findClass]; exact q7, q8, fun j hj => by have := q9 j hj; rwa [Nat.zero_add] at this⟩, fun O n d w F n1 n2 => ?_⟩, hl, hc, hs⟩, st⟩
  · intro y hy
    simp only [List.mem_cons, List.not_mem_nil, or_false] at hy
    rcases hy with rfl | rfl <;> rfl
  · by_cases q : y = x
    · subst q
      cases hD.symm.trans hy
      exact ⟨E', q1.1, q2.2.1, q2.1, hsz⟩
    · exact ⟨cy, q10 y cy q hy, rfl, rfl, rfl⟩
  · obtain ⟨D3, cf, k, i, f, g1, g2, g3, g4, g5, g6, g7⟩ := F
    cases hD.symm.trans g1
    simp only [RoadKit.slotOf, g2, gV, gC, Option.map_some, Option.getD_some] at n1 n2
    exact ⟨E', cf, k, i, f, q1.1, g2, g3, by rw [q2.1]; exact g4, by rw [q2.1]; exact g5, by rw [q2.2.1]; exact g6, by rw [q2.2.2 f.slot (by simp [n1, n2])]; exact g7⟩
end StrChars.Road
namespace StrChars.Road
open Jvm Sem ClassFile Op Lib Jvm.Stand Jvm.Free Jvm.Free.XT
def QA (Z : State) (x : Addr) (zn : Int32) (cs : List Int32) (h : Heap) (v : Option Value) (h' : Heap) (L : List Loc) : Prop := v = none ∧ (∀ y ∈ L, y.base = x) ∧ RoadKit.Keep h h' [x] ∧ h'.size = h.size + 1 ∧ RoadKit.Exa Z h' x ST ∧ RoadKit.Fld Z h' x ST "value" "[B" (.ref h.size) ∧ RoadKit.Fld Z h' x ST "coder" "B" (.int 0) ∧
  (∃ kb, Z.vm.findClass "[B" = some kb ∧ RoadKit.Arv Z h' h.size kb .byte zn (cs.map fun c => .int (lo8 c)) (.int 0)) ∧
  ∀ (O n d : String) (w : Value), RoadKit.Fld Z h x O n d w → RoadKit.slotOf Z O n d ≠ RoadKit.slotOf Z ST "value" "[B" → RoadKit.slotOf Z O n d ≠ RoadKit.slotOf Z ST "coder" "B" → RoadKit.Fld Z h' x O n d w
theorem backArv {p : Program} {l : Launch} {e : Env} {R : Room} {s : State} {args : Array Value} {below : List Frame} {len W : Nat} {Z : State} {a0 : Array Value} {h : Heap} (hZ : Z.Warmed39 s.vm) (hw : ∀ d ∈ words, d.before a0 Z = true) {kI : Nat} (wi : (Jvm.Cond.instantiable ST kI).before a0 Z = true)
    {x b : Addr} {k : ClassId} {zn z : Int32} {cs : List Int32} {dv v0 c0 : Value} (E : RoadKit.Exa Z h x ST) (V : RoadKit.Fld Z h x ST "value" "[B" v0) (C : RoadKit.Fld Z h x ST "coder" "B" c0) (K : RoadKit.Arv Z h b k .char zn (cs.map Value.int) dv) (S : RoadKit.Sta Z h ST "COMPACT_STRINGS" "Z" (.int z)) (hz : ¬ z = 0)
    (hlen : zn.toNatClampNeg = cs.length) (h0 : 0 < cs.length) (hbig : cs.length ≤ 536870912) (hall : ∀ c ∈ cs, ¬ 255 < c) (hfr : 4 ≤ R.frames) (hlo : W + 65 ≤ R.locals) :
    Back l R p e below s args New1.yN len W (fun P a => a = #[.ref x, .ref b] ∧ P.U.heap = h ∧ P.cells + 1 ≤ R.cells ∧ P.slots + cs.length ≤ R.slots)
      (fun P _ v B => ∃ L, QA Z x zn cs h v B.U.heap L ∧ B.locs = P.locs ++ L ∧ B.cells = P.cells + 1 ∧ B.slots = P.slots + cs.length) := by
  obtain ⟨A, K1, K2, K3, K4, K5, K6⟩ := K
  have e : A.slots.size = cs.length := K3.trans hlen
  have hat : ∀ (i : Nat) (hi : i < cs.length), A.slots[i]? = some (.int cs[i]) := fun i hi => by rw [K5 i (by omega)]; simp [List.getD_eq_getElem?_getD, hi]
  have hcv : ∀ (i : Nat) (hi : i < cs.length), cv A i = cs[i] := fun i hi => by unfold cv; rw [hat i hi]
  have hty : Typed .char A := fun i v hv => by
    have hi : i < A.slots.size := (Array.getElem?_eq_some_iff.mp hv).1
    have q := K5 i hi
    rw [hv] at q
    rw [Option.some.inj q]
    exact K6 i hi
  refine Back.mono (back hZ hw wi E V C K1 hty S hz (by omega) (by omega) (fun i hi => by rw [hcv i (by omega)]; exact hall _ (List.getElem_mem _)) hfr hlo) (fun P a hp => ⟨hp.1, hp.2.1, hp.2.2.1, by rw [e]; exact hp.2.2.2⟩) (fun P a v B hp hq => ?_)
  obtain ⟨L, ⟨q1, q2, q3, q4, q5, q6, q7, ⟨V', v1, v2, v3, v4, v5⟩, q9⟩, hl, hc, hs⟩ := hq
  refine ⟨L, ⟨q1, q2, q3, q4, q5, q6, q7, ⟨V'.cls, v3, V', v1, rfl, by rw [v4, e, hlen], K4, fun i hi => ?_, fun i hi => ?_⟩, q9⟩, hl, hc, by rw [hs, e]⟩
  · have hi' : i < cs.length := by omega
    rw [v5 i (by omega), hcv i hi']; simp [List.getD_eq_getElem?_getD, hi']
  · have hi' : i < cs.length := by omega
    simp only [List.getD_eq_getElem?_getD, List.getElem?_map, List.getElem?_eq_getElem hi', Option.map_some, Option.getD_some]
    exact fits_lo8 _
end StrChars.Road
namespace StrChars.Road
open Jvm Sem ClassFile Op Lib Jvm.Stand Jvm.Free Jvm.Free.XT
def QV (Z : State) (x : Addr) (N : Int32) (bs : List Int32) (h : Heap) (n0 : Nat) (v : Option Value) (h' : Heap) (L : List Loc) : Prop := v = none ∧ RoadKit.Fr n0 L ∧ RoadKit.Keep h h' [x] ∧ RoadKit.Exa Z h' x ST ∧ RoadKit.Fld Z h' x ST "coder" "B" (.int 0) ∧
  ∃ (t : Addr) (kb : ClassId), n0 ≤ t ∧ h.size ≤ t ∧ ¬ t = x ∧ RoadKit.Fld Z h' x ST "value" "[B" (.ref t) ∧ RoadKit.Arv Z h' t kb .byte N (bs.map Value.int) (.int 0)
theorem backV {p : Program} {l : Launch} {e : Env} {R : Room} {s : State} {args : Array Value} {below : List Frame} {len W : Nat} {Z : State} {a0 : Array Value} {h : Heap} (hZ : Z.Warmed39 s.vm) (hw : ∀ d ∈ words, d.before a0 Z = true) {kI : Nat} (wi : (Jvm.Cond.instantiable ST kI).before a0 Z = true)
    {x b : Addr} {kC : ClassId} {cs bs : List Int32} {d v0 c0 : Value} {z N : Int32} {n n0 : Nat} (hx0 : n0 ≤ x) (hh0 : n0 ≤ h.size) (E : RoadKit.Exa Z h x ST) (V : RoadKit.Fld Z h x ST "value" "[B" v0) (C : RoadKit.Fld Z h x ST "coder" "B" c0) (K : RoadKit.Arv Z h b kC .char N (cs.map Value.int) d) (S : RoadKit.Sta Z h ST "COMPACT_STRINGS" "Z" (.int z)) (hz : ¬ z = 0)
    (hn : cs.length = n) (hN : N = Int32.ofNat n) (l0 : 0 < n) (l2 : n ≤ 4000) (hp : ∀ c ∈ cs, ¬ c < 0 ∧ ¬ (255 : Int32) < c) (hb : bs = cs.map (fun c => c.toInt8.toInt32)) (hfr : 4 ≤ R.frames) (hlo : W + 65 ≤ R.locals) :
    Back l R p e below s args (⟨"java/lang/String", "<init>", "([C)V"⟩ : MethodName) len W (fun P a => a = #[.ref x, .ref b] ∧ P.U.heap = h ∧ P.cells + 1 ≤ R.cells ∧ P.slots + n ≤ R.slots)
      (fun P _ v B => ∃ L, QV Z x N bs h n0 v B.U.heap L ∧ B.locs = P.locs ++ L ∧ B.cells = P.cells + 1 ∧ B.slots = P.slots + n) := by
  subst hn hN hb
  refine Back.mono (backArv hZ hw wi E V C K S hz (n32 (by omega)) l0 (by omega) (fun c hc => (hp c hc).2) hfr hlo) (fun P a hp => hp) (fun P a v B hp hq => ?_)
  obtain ⟨L, ⟨q1, q2, q3, q4, q5, q6, q7, ⟨kb, v1, v2⟩, q9⟩, hl, hc, hs⟩ := hq
  exact ⟨L, ⟨q1, fun y hy => by rw [q2 y hy]; exact hx0, q3, q5, q7, h.size, kb, hh0, Nat.le_refl _, Nat.ne_of_gt E.lt, q6, by rw [List.map_map]; exact v2⟩, hl, hc, hs⟩
end StrChars.Road
end Jvm.Pilot.@@N@@
namespace Jvm.Pilot.@@N@@
open Jvm Jvm.ClassFile Sem Op Lib Jvm.Free Jvm.Stand Jvm.LawKit Jvm.RoadKit Bundle Jvm.Pilot.@@N@@.Jvm.D
set_option maxRecDepth 65536
set_option maxHeartbeats 40000000
abbrev kc0 : String := "java/lang/String"
abbrev kc1 : String := "java/lang/AbstractStringBuilder"
abbrev kc2 : String := "com/example/seshat/seshat/IdempotencyKey"
abbrev kc3 : String := "jdk/internal/util/Preconditions"
abbrev kc4 : String := "java/lang/StringBuilder"
abbrev EL : List (String × Nat) := [("com/example/seshat/seshat/IdempotencyKey", 7), ("com/example/seshat/seshat/IdempotencyKey", 57), ("com/example/seshat/seshat/IdempotencyKey", 63)]
theorem own_and255 (x : Int32) : ¬ ((x &&& (255 : Int32)).toUInt32.toUInt16.toUInt32.toInt32) < 0 ∧ ¬ (255 : Int32) < ((x &&& (255 : Int32)).toUInt32.toUInt16.toUInt32.toInt32) := by
  have t : ∀ k : Fin 256, ¬ ((Int32.ofNat k.val).toUInt32.toUInt16.toUInt32.toInt32) < 0 ∧ ¬ (255 : Int32) < ((Int32.ofNat k.val).toUInt32.toUInt16.toUInt32.toInt32) := by decide +kernel
  have h : (x &&& 255).toBitVec.toNat < 256 := by
    rw [Int32.toBitVec_and, BitVec.toNat_and]
    exact Nat.lt_succ_of_le Nat.and_le_right
  have e : (x &&& 255) = Int32.ofNat (x &&& 255).toBitVec.toNat := by
    apply Int32.toBitVec_inj.mp
    show _ = BitVec.ofNat 32 _
    rw [BitVec.ofNat_toNat]; simp
  rw [e]
  exact t ⟨_, h⟩
theorem own_lat (x : Int32) : (((((x &&& (255 : Int32)).toUInt32.toUInt16.toUInt32.toInt32).toInt8.toInt32) &&& (255 : Int32)).toUInt32.toUInt16.toUInt32.toInt32) = ((x &&& (255 : Int32)).toUInt32.toUInt16.toUInt32.toInt32) := by
  have t : ∀ k : Fin 256, (((((Int32.ofNat k.val).toUInt32.toUInt16.toUInt32.toInt32).toInt8.toInt32) &&& (255 : Int32)).toUInt32.toUInt16.toUInt32.toInt32) = ((Int32.ofNat k.val).toUInt32.toUInt16.toUInt32.toInt32) := by decide +kernel
  have h : (x &&& 255).toBitVec.toNat < 256 := by
    rw [Int32.toBitVec_and, BitVec.toNat_and]
    exact Nat.lt_succ_of_le Nat.and_le_right
  have e : (x &&& 255) = Int32.ofNat (x &&& 255).toBitVec.toNat := by
    apply Int32.toBitVec_inj.mp
    show _ = BitVec.ofNat 32 _
    rw [BitVec.ofNat_toNat]; simp
  rw [e]
  exact t ⟨_, h⟩
theorem own_ch0 (x : Int32) : ¬ (x.toUInt32.toUInt16.toUInt32.toInt32) < 0 := by
  have q := (c_i2c x).2.1
  rw [Int32.lt_iff_toInt_lt]
  have e0 : (0 : Int32).toInt = 0 := rfl
  omega
theorem own_le127 {x : Int32} (h : ¬ (127 : Int32) < x) : x < (128 : Int32) := by
  rw [Int32.lt_iff_toInt_lt] at h ⊢
  have e1 : (127 : Int32).toInt = 127 := rfl
  have e2 : (128 : Int32).toInt = 128 := rfl
  omega
def gI (l : List Int32) (j : Int32) : Int32 := l.getD j.toNatClampNeg 0
def mI (l : List Int32) : List Value := l.map Value.int
def lowL (l : List Int32) : List Int32 := l.map fun c => (c.toInt8.toInt32)
def utfL : List Int32 → List Int32
  | [] => []
  | c :: l => ((c >>> ((0 : Int32) &&& 31)).toInt8.toInt32) :: ((c >>> ((8 : Int32) &&& 31)).toInt8.toInt32) :: utfL l
def cl4 (n a b c d : Int32) : List Int32 := if n = 0 then [] else if n = 1 then [a] else if n = 2 then [a, b] else if n = 3 then [a, b, c] else [a, b, c, d]
theorem own_gI (l : List Int32) (j : Int32) : (mI l).getD j.toNatClampNeg (.int 0) = .int (gI l j) := by
  unfold gI mI
  generalize j.toNatClampNeg = i
  induction l generalizing i with
  | nil => rfl
  | cons a l ih => cases i with
    | zero => rfl
    | succ i => exact ih i
theorem own_cl4_0 {a b c d : Int32} : cl4 0 a b c d = [] := rfl
theorem own_cl4_1 {a b c d : Int32} : cl4 1 a b c d = [a] := rfl
theorem own_cl4_2 {a b c d : Int32} : cl4 2 a b c d = [a, b] := rfl
theorem own_cl4_3 {a b c d : Int32} : cl4 3 a b c d = [a, b, c] := rfl
theorem own_cl4_4 {a b c d : Int32} : cl4 4 a b c d = [a, b, c, d] := rfl
theorem own_is4 {n : Int32} (h5 : n < 5) (hz : ¬ n < 0) (h0 : ¬ n = 0) (h1 : ¬ n = 1) (h2 : ¬ n = 2) (h3 : ¬ n = 3) : n = 4 := by
  rw [Int32.lt_iff_toInt_lt] at h5 hz
  rw [← Int32.toInt_inj] at h0 h1 h2 h3 ⊢
  have e0 : (0 : Int32).toInt = 0 := rfl
  have e1 : (1 : Int32).toInt = 1 := rfl
  have e2 : (2 : Int32).toInt = 2 := rfl
  have e3 : (3 : Int32).toInt = 3 := rfl
  have e4 : (4 : Int32).toInt = 4 := rfl
  have e5 : (5 : Int32).toInt = 5 := rfl
  omega
theorem own_5 {n : Int32} (h5 : n < 5) (hz : ¬ n < 0) : n = 0 ∨ n = 1 ∨ n = 2 ∨ n = 3 ∨ n = 4 := by
  by_cases h0 : n = 0
  · exact Or.inl h0
  by_cases h1 : n = 1
  · exact Or.inr (Or.inl h1)
  by_cases h2 : n = 2
  · exact Or.inr (Or.inr (Or.inl h2))
  by_cases h3 : n = 3
  · exact Or.inr (Or.inr (Or.inr (Or.inl h3)))
  exact Or.inr (Or.inr (Or.inr (Or.inr (own_is4 h5 hz h0 h1 h2 h3))))
theorem own_shr0 (x : Int32) : x >>> ((0 : Int32) &&& 31) = x := by
  have a1 := c_ishr x 0 0 (by decide)
  exact Int32.toInt_inj.mp (by have e : ((2 ^ 0 : Nat) : Int) = 1 := rfl; omega)
theorem own_hws {Z : State} {a0 : Array Value} (hw : ∀ d ∈ tables_1, d.before a0 Z = true) : ∀ d ∈ StrChars.Road.words, d.before a0 Z = true := fun d hd => hw d ((by decide +kernel : ∀ d ∈ StrChars.Road.words, d ∈ tables_1) d hd)
def setI (l : List Int32) (j v : Int32) : List Int32 := l.set j.toNatClampNeg v
def plF (c : Int32) : Int32 := if c = 32 then 0 else if c = 44 then 0 else if c = 34 then 0 else 1
def escF (c : Int32) : Int32 := if c = 34 then 1 else if c = 92 then 1 else 0
def wsF (c : Int32) : Int32 := if c = 32 then 1 else if c = 9 then 1 else 0
def wdF (c q p : Int32) : Int32 := if p = 0 then 0 else if q = 0 then 1 else if escF c = 0 then 1 else 2
def putF (l : List Int32) (i c q p : Int32) : List Int32 := if p = 0 then l else if q = 0 then setI l i c else if escF c = 0 then setI l i c else setI (setI l i 92) (i + 1) c
def minF (a b : Int32) : Int32 := if b < a then b else a
def WSP (c : Int32) : Prop := c = 9 ∨ c = 32
def KC (c : Int32) : Prop := ¬ c < 32 ∧ ¬ (126 : Int32) < c
def PB (i w : Int32) : Prop := ¬ i < 0 ∧ i.toInt + w.toInt ≤ 12
def PLs (nn k0 k1 k2 k3 : Int32) : Prop := ¬ plF k0 = 0 ∧ (nn < 2 ∨ ¬ plF k1 = 0) ∧ (nn < 3 ∨ ¬ plF k2 = 0) ∧ (nn < 4 ∨ ¬ plF k3 = 0)
def eK (c : Int32) : List Int32 := if escF c = 0 then [c] else [92, c]
def encK (qq nn k0 k1 k2 k3 : Int32) : List Int32 := if qq = 0 then cl4 nn k0 k1 k2 k3 else 34 :: ((cl4 nn k0 k1 k2 k3).flatMap eK ++ [34])
def lenK (qq nn k0 k1 k2 k3 : Int32) : Int32 := Int32.ofNat (encK qq nn k0 k1 k2 k3).length
def ENC (qq nn k0 k1 k2 k3 : Int32) : Prop := ¬ nn < 1 ∧ nn < 5 ∧ KC k0 ∧ KC k1 ∧ KC k2 ∧ KC k3 ∧ (qq = 0 → PLs nn k0 k1 k2 k3)
def CPR (n p q : Int32) : Prop := ¬ p < 0 ∧ ¬ q < p ∧ ¬ n < q ∧ ¬ (12 : Int32) < n
def NB (n : Int32) : Prop := ¬ n < 0 ∧ ¬ (12 : Int32) < n
def zeroL (n : Int32) : List Int32 := List.replicate n.toNatClampNeg 0
def cprL (l : List Int32) (p q : Int32) : List Int32 := (l.drop p.toNatClampNeg).take (q - p).toNatClampNeg
def UN (nn k0 k1 k2 k3 : Int32) : Nat := (cl4 nn k0 k1 k2 k3).length
def UI (nn k0 k1 k2 k3 : Int32) (d : Nat) : Int32 := Int32.ofNat (1 + (((cl4 nn k0 k1 k2 k3).take (UN nn k0 k1 k2 k3 - d)).flatMap eK).length)
def UC (nn k0 k1 k2 k3 : Int32) (d : Nat) : Int32 := Int32.ofNat (UN nn k0 k1 k2 k3 - d)
def UB (qq nn k0 k1 k2 k3 : Int32) (d : Nat) : List Int32 := lowL ((cl4 nn k0 k1 k2 k3).take (UN nn k0 k1 k2 k3 - d)) ++ List.replicate ((encK qq nn k0 k1 k2 k3).length - (UN nn k0 k1 k2 k3 - d)) 0
def TRM (F : List Int32) (na nb : Nat) (E : List Int32) : Prop :=
  (na < nb) ∧
  (nb ≤ 12) ∧
  (nb - na ≤ 10) ∧
  (∀ i, i < na → ¬ wsF (((gI F (Int32.ofNat i)) &&& (255 : Int32)).toUInt32.toUInt16.toUInt32.toInt32) = 0) ∧
  (∀ i, nb ≤ i → i < 12 → ¬ wsF (((gI F (Int32.ofNat i)) &&& (255 : Int32)).toUInt32.toUInt16.toUInt32.toInt32) = 0) ∧
  (wsF (((gI F (Int32.ofNat na)) &&& (255 : Int32)).toUInt32.toUInt16.toUInt32.toInt32) = 0) ∧
  (wsF (((gI F (Int32.ofNat (nb - 1))) &&& (255 : Int32)).toUInt32.toUInt16.toUInt32.toInt32) = 0) ∧
  ((F.drop na).take (nb - na) = lowL E) ∧
  (E.length = nb - na)
theorem TRM.lt {F : List Int32} {na nb : Nat} {E : List Int32} (own_h : TRM F na nb E) : na < nb := own_h.1
theorem TRM.le {F : List Int32} {na nb : Nat} {E : List Int32} (own_h : TRM F na nb E) : nb ≤ 12 := own_h.2.1
theorem TRM.sm {F : List Int32} {na nb : Nat} {E : List Int32} (own_h : TRM F na nb E) : nb - na ≤ 10 := own_h.2.2.1
theorem TRM.ws1 {F : List Int32} {na nb : Nat} {E : List Int32} (own_h : TRM F na nb E) : ∀ i, i < na → ¬ wsF (((gI F (Int32.ofNat i)) &&& (255 : Int32)).toUInt32.toUInt16.toUInt32.toInt32) = 0 := own_h.2.2.2.1
theorem TRM.ws2 {F : List Int32} {na nb : Nat} {E : List Int32} (own_h : TRM F na nb E) : ∀ i, nb ≤ i → i < 12 → ¬ wsF (((gI F (Int32.ofNat i)) &&& (255 : Int32)).toUInt32.toUInt16.toUInt32.toInt32) = 0 := own_h.2.2.2.2.1
theorem TRM.h1 {F : List Int32} {na nb : Nat} {E : List Int32} (own_h : TRM F na nb E) : wsF (((gI F (Int32.ofNat na)) &&& (255 : Int32)).toUInt32.toUInt16.toUInt32.toInt32) = 0 := own_h.2.2.2.2.2.1
theorem TRM.h2 {F : List Int32} {na nb : Nat} {E : List Int32} (own_h : TRM F na nb E) : wsF (((gI F (Int32.ofNat (nb - 1))) &&& (255 : Int32)).toUInt32.toUInt16.toUInt32.toInt32) = 0 := own_h.2.2.2.2.2.2.1
theorem TRM.tk {F : List Int32} {na nb : Nat} {E : List Int32} (own_h : TRM F na nb E) : (F.drop na).take (nb - na) = lowL E := own_h.2.2.2.2.2.2.2.1
theorem TRM.ln {F : List Int32} {na nb : Nat} {E : List Int32} (own_h : TRM F na nb E) : E.length = nb - na := own_h.2.2.2.2.2.2.2.2
def TRI (F E : List Int32) : Prop := ∃ na nb, TRM F na nb E
theorem own_i0 : (0 : Int32).toInt = 0 := rfl
theorem own_i1 : (1 : Int32).toInt = 1 := rfl
theorem own_i2 : (2 : Int32).toInt = 2 := rfl
theorem own_i3 : (3 : Int32).toInt = 3 := rfl
theorem own_i4 : (4 : Int32).toInt = 4 := rfl
theorem own_i5 : (5 : Int32).toInt = 5 := rfl
theorem own_i9 : (9 : Int32).toInt = 9 := rfl
theorem own_i10 : (10 : Int32).toInt = 10 := rfl
theorem own_i11 : (11 : Int32).toInt = 11 := rfl
theorem own_i12 : (12 : Int32).toInt = 12 := rfl
theorem own_i13 : (13 : Int32).toInt = 13 := rfl
theorem own_i32 : (32 : Int32).toInt = 32 := rfl
theorem own_i34 : (34 : Int32).toInt = 34 := rfl
theorem own_i92 : (92 : Int32).toInt = 92 := rfl
theorem own_i95 : (95 : Int32).toInt = 95 := rfl
theorem own_i126 : (126 : Int32).toInt = 126 := rfl
theorem own_i255 : (255 : Int32).toInt = 255 := rfl
theorem own_im1 : (-1 : Int32).toInt = -1 := rfl
theorem own_on {n : Nat} (h : n < 100) : (Int32.ofNat n).toInt = n := Int32.toInt_ofNat_of_lt (by omega)
theorem own_onc {n : Nat} (h : n < 100) : (Int32.ofNat n).toNatClampNeg = n := by
  unfold Int32.toNatClampNeg
  rw [own_on h]
  rfl
theorem own_smallP (n : Nat) (hn : n ≤ 2 ^ 31) (P : Int32 → Prop) (t : ∀ k : Fin n, P (Int32.ofNat k.val)) {c : Int32} (h0 : 0 ≤ c.toInt) (h1 : c.toInt < (n : Int)) : P c := by
  have hk : c.toInt.toNat < n := by omega
  have e : Int32.ofNat c.toInt.toNat = c := Int32.toInt_inj.mp (by rw [Int32.toInt_ofNat_of_lt (by omega)]; omega)
  have z := t ⟨c.toInt.toNat, hk⟩
  simp only [e] at z
  exact z
theorem own_andle (x m : Int32) (hm : 0 ≤ m.toInt) : 0 ≤ (x &&& m).toInt ∧ (x &&& m).toInt ≤ m.toInt := by
  have h4 : ∀ y : Int32, y.toInt = if 2 * y.toBitVec.toNat < 2 ^ 32 then (y.toBitVec.toNat : Int) else (y.toBitVec.toNat : Int) - ((2 ^ 32 : Nat) : Int) := fun y => BitVec.toInt_eq_toNat_cond _
  have a : (x &&& m).toBitVec.toNat ≤ m.toBitVec.toNat := by
    rw [Int32.toBitVec_and, BitVec.toNat_and]
    exact Nat.and_le_right
  have b := h4 m
  have c := h4 (x &&& m)
  have d := m.toBitVec.isLt
  split at b
  · split at c
    · omega
    · omega
  · omega
theorem own_narc {c : Int32} (h0 : 0 ≤ c.toInt) (h1 : c.toInt < 128) : c.toUInt32.toUInt16.toUInt32.toInt32 = c := own_smallP 128 (by decide) (fun c => c.toUInt32.toUInt16.toUInt32.toInt32 = c) (by decide) h0 (by omega)
theorem own_chs {c : Int32} (h0 : 0 ≤ c.toInt) (h1 : c.toInt < 128) : (((c.toInt8.toInt32) &&& (255 : Int32)).toUInt32.toUInt16.toUInt32.toInt32) = c := own_smallP 128 (by decide) (fun c => (((c.toInt8.toInt32) &&& (255 : Int32)).toUInt32.toUInt16.toUInt32.toInt32) = c) (by decide) h0 (by omega)
theorem own_lows {c : Int32} (h0 : 0 ≤ c.toInt) (h1 : c.toInt < 128) : c.toInt8.toInt32 = c := own_smallP 128 (by decide) (fun c => c.toInt8.toInt32 = c) (by decide) h0 (by omega)
theorem own_kcI {c : Int32} (h : KC c) : 32 ≤ c.toInt ∧ c.toInt ≤ 126 := by
  obtain ⟨a, b⟩ := h
  rw [Int32.lt_iff_toInt_lt] at a b
  rw [own_i32] at a
  rw [own_i126] at b
  omega
theorem own_kc (p : Int32) : KC (((32 : Int32) + ((p &&& (2147483647 : Int32)) % (95 : Int32))).toUInt32.toUInt16.toUInt32.toInt32) := by
  have a := (own_andle p 2147483647 (by decide)).1
  have b := (c_iremV (p &&& 2147483647) 95).1 a (by decide)
  have c := c_iadd 32 ((p &&& 2147483647) % 95)
  have r := rng32 (32 + ((p &&& 2147483647) % 95))
  rw [own_i95] at b
  rw [own_i32] at c
  rw [own_narc (by omega) (by omega)]
  unfold KC
  rw [Int32.lt_iff_toInt_lt, Int32.lt_iff_toInt_lt, own_i32, own_i126]
  omega
theorem own_kc255 {c : Int32} (h : KC c) : ¬ c < 0 ∧ ¬ (255 : Int32) < c := by
  have a := own_kcI h
  rw [Int32.lt_iff_toInt_lt, Int32.lt_iff_toInt_lt, own_i0, own_i255]
  omega
theorem own_k255 {c : Int32} (h : KC c) : ¬ (255 : Int32) < c := (own_kc255 h).2
theorem own_k126 {c : Int32} (h : KC c) : ¬ (126 : Int32) < c := h.2
theorem own_n4 (p : Int32) : ¬ ((1 : Int32) + (p &&& (3 : Int32))) < 1 ∧ ((1 : Int32) + (p &&& (3 : Int32))) < 5 := by
  have a := own_andle p 3 (by decide)
  have c := c_iadd 1 (p &&& 3)
  have r := rng32 (1 + (p &&& 3))
  rw [own_i3] at a
  rw [own_i1] at c
  rw [Int32.lt_iff_toInt_lt, Int32.lt_iff_toInt_lt, own_i1, own_i5]
  omega
theorem own_pb0 {i w : Int32} (h : PB i w) : ¬ i < 0 := h.1
theorem own_pb1 {i w : Int32} (h : PB i w) (q : (0 : Int32) < w) : i < 12 := by
  have a := h.2
  rw [Int32.lt_iff_toInt_lt] at q ⊢
  rw [own_i0] at q
  rw [own_i12]
  omega
theorem own_pb2 {i w : Int32} (h : PB i w) (q : w = 2) : ¬ (i + (1 : Int32)) < 0 ∧ (i + (1 : Int32)) < 12 := by
  obtain ⟨a, b⟩ := h
  have c := c_iadd i 1
  have r := rng32 (i + 1)
  have r2 := rng32 i
  rw [q, own_i2] at b
  rw [own_i1] at c
  rw [Int32.lt_iff_toInt_lt, own_i0] at a
  rw [Int32.lt_iff_toInt_lt, Int32.lt_iff_toInt_lt, own_i0, own_i12]
  omega
theorem own_ltm {x i j : Int32} (h : x < i) (q : i < j) : x < j := Int32.lt_trans h q
theorem own_nltm {x i j : Int32} (h : ¬ x < j) (q : i < j) : ¬ x < i := fun z => h (Int32.lt_trans z q)
theorem own_bk {g nn k0 k1 k2 k3 : Int32} (h : g = 0 ∨ (g = 1 ∧ PLs nn k0 k1 k2 k3)) (q : ¬ g = 0) : PLs nn k0 k1 k2 k3 := (Or.resolve_left h q).2
theorem own_bq {g nn k0 k1 k2 k3 : Int32} (h : g = 0 ∨ (g = 1 ∧ PLs nn k0 k1 k2 k3)) : (if g = (0 : Int32) then (1 : Int32) else (0 : Int32)) = 1 ∨ ((if g = (0 : Int32) then (1 : Int32) else (0 : Int32)) = 0 ∧ PLs nn k0 k1 k2 k3) := by
  by_cases q : g = 0
  · exact Or.inl (if_pos q)
  · exact Or.inr ⟨if_neg q, own_bk h q⟩
theorem own_bkm {nn k0 k1 k2 k3 : Int32} (h0 : ¬ plF k0 = 0) (h1 : nn < 2 ∨ ¬ plF k1 = 0) (h2 : nn < 3 ∨ ¬ plF k2 = 0) : (if (plF k3) = (0 : Int32) then (0 : Int32) else (1 : Int32)) = 0 ∨ ((if (plF k3) = (0 : Int32) then (0 : Int32) else (1 : Int32)) = 1 ∧ PLs nn k0 k1 k2 k3) := by
  by_cases q : plF k3 = 0
  · exact Or.inl (if_pos q)
  · exact Or.inr ⟨if_neg q, h0, h1, h2, Or.inr q⟩
theorem own_wdI (c q p : Int32) : 0 ≤ (wdF c q p).toInt ∧ (wdF c q p).toInt ≤ 2 := by
  unfold wdF
  split
  · decide
  · split
    · decide
    · split
      · decide
      · decide
theorem own_wd1 (c q : Int32) : 1 ≤ (wdF c q 1).toInt := by
  unfold wdF
  rw [if_neg (by decide)]
  split
  · decide
  · split
    · decide
    · decide
theorem own_usI {us g k0 k1 k2 k3 p1 p2 p3 : Int32} (h : us = (((((if g = (0 : Int32) then (0 : Int32) else (2 : Int32)) + (wdF k0 g (1 : Int32))) + (wdF k1 g p1)) + (wdF k2 g p2)) + (wdF k3 g p3))) :
    us.toInt = (if g = (0 : Int32) then 0 else 2) + (wdF k0 g 1).toInt + (wdF k1 g p1).toInt + (wdF k2 g p2).toInt + (wdF k3 g p3).toInt := by
  have w0 := own_wdI k0 g 1
  have w1 := own_wdI k1 g p1
  have w2 := own_wdI k2 g p2
  have w3 := own_wdI k3 g p3
  rw [h]
  generalize wdF k0 g 1 = a at *
  generalize wdF k1 g p1 = b at *
  generalize wdF k2 g p2 = c at *
  generalize wdF k3 g p3 = d at *
  have e : (if g = (0 : Int32) then (0 : Int32) else (2 : Int32)).toInt = (if g = (0 : Int32) then 0 else 2) := by split <;> rfl
  have e2 : 0 ≤ (if g = (0 : Int32) then (0 : Int32) else (2 : Int32)).toInt ∧ (if g = (0 : Int32) then (0 : Int32) else (2 : Int32)).toInt ≤ 2 := by split <;> decide
  rw [← e]
  generalize (if g = (0 : Int32) then (0 : Int32) else (2 : Int32)) = x at *
  have s1 := c_iadd x a
  have s2 := c_iadd (x + a) b
  have s3 := c_iadd (x + a + b) c
  have s4 := c_iadd (x + a + b + c) d
  have r1 := rng32 (x + a)
  have r2 := rng32 (x + a + b)
  have r3 := rng32 (x + a + b + c)
  have r4 := rng32 (x + a + b + c + d)
  clear e h
  omega
theorem own_us {us g k0 k1 k2 k3 p1 p2 p3 : Int32} (h : us = (((((if g = (0 : Int32) then (0 : Int32) else (2 : Int32)) + (wdF k0 g (1 : Int32))) + (wdF k1 g p1)) + (wdF k2 g p2)) + (wdF k3 g p3))) : ¬ us < 1 ∧ us < 11 := by
  have a := own_usI h
  have w0 := own_wdI k0 g 1
  have w1 := own_wdI k1 g p1
  have w2 := own_wdI k2 g p2
  have w3 := own_wdI k3 g p3
  have w4 := own_wd1 k0 g
  have e2 : 0 ≤ (if g = (0 : Int32) then (0 : Int) else 2) ∧ (if g = (0 : Int32) then (0 : Int) else 2) ≤ 2 := by split <;> decide
  rw [Int32.lt_iff_toInt_lt, Int32.lt_iff_toInt_lt, own_i1, own_i11]
  omega
theorem own_s13 {us : Int32} (h1 : ¬ us < 1) (h2 : us < 11) : ((13 : Int32) - us).toInt = 13 - us.toInt := by
  have c := c_isub 13 us
  have r := rng32 (13 - us)
  rw [Int32.lt_iff_toInt_lt] at h1 h2
  rw [own_i1] at h1
  rw [own_i11] at h2
  rw [own_i13] at c
  omega
theorem own_nz {us : Int32} (h1 : ¬ us < 1) (h2 : us < 11) : ¬ ((13 : Int32) - us) = 0 := by
  have a := own_s13 h1 h2
  rw [Int32.lt_iff_toInt_lt, own_i11] at h2
  intro q
  rw [q, own_i0] at a
  omega
theorem own_ld {ld us x : Int32} (h : ld = ((x &&& (255 : Int32)) % ((13 : Int32) - us))) (h1 : ¬ us < 1) (h2 : us < 11) : ¬ ld < 0 ∧ ld < ((13 : Int32) - us) := by
  have a := own_s13 h1 h2
  have b := own_andle x 255 (by decide)
  rw [Int32.lt_iff_toInt_lt, own_i11] at h2
  have c := (c_iremV (x &&& 255) (13 - us)).1 b.1 (by omega)
  rw [h, Int32.lt_iff_toInt_lt, Int32.lt_iff_toInt_lt, own_i0]
  omega
theorem own_k8 {k : Int32} (h : KC k) : ((k.toUInt32 >>> ((8 : Int32) &&& 31).toUInt32).toInt32) = 0 := by
  have a := own_kcI h
  exact own_smallP 128 (by decide) (fun c => ((c.toUInt32 >>> ((8 : Int32) &&& 31).toUInt32).toInt32) = 0) (by decide) (by omega) (by omega)
theorem own_esc34 {k : Int32} (h : escF k = 0) : ¬ k = 34 := by
  intro q
  rw [q] at h
  exact absurd h (by decide)
theorem own_esc92 {k : Int32} (h : escF k = 0) : ¬ k = 92 := by
  intro q
  rw [q] at h
  exact absurd h (by decide)
theorem own_pl32 {k : Int32} (h : ¬ plF k = 0) : ¬ k = 32 := by
  intro q
  rw [q] at h
  exact absurd h (by decide)
theorem own_pl44 {k : Int32} (h : ¬ plF k = 0) : ¬ k = 44 := by
  intro q
  rw [q] at h
  exact absurd h (by decide)
theorem own_pl34 {k : Int32} (h : ¬ plF k = 0) : ¬ k = 34 := by
  intro q
  rw [q] at h
  exact absurd h (by decide)
theorem own_setlen (l : List Int32) (j v : Int32) : (setI l j v).length = l.length := by
  unfold setI
  exact List.length_set
theorem own_putlen (l : List Int32) (i c q p : Int32) : (putF l i c q p).length = l.length := by
  unfold putF
  split
  · rfl
  · split
    · exact own_setlen _ _ _
    · split
      · exact own_setlen _ _ _
      · rw [own_setlen, own_setlen]
theorem own_lowlen {l : List Int32} (h : l.length = 12) : (lowL l).length = ((12 : Int32)).toNatClampNeg := by
  unfold lowL
  rw [List.length_map, h]
  rfl
theorem own_lowlen' (l : List Int32) : (lowL l).length = l.length := by
  unfold lowL
  exact List.length_map _
theorem own_zlen (n : Int32) : (zeroL n).length = n.toNatClampNeg := by
  unfold zeroL
  exact List.length_replicate
theorem own_zpad (n : Int32) : ∀ i, (mI (zeroL n)).getD i (.int (0 : Int32)) = ([] : List Value).getD i (.int (0 : Int32)) := by
  intro i
  unfold mI zeroL
  rw [List.map_replicate, List.getD_eq_getElem?_getD, List.getElem?_replicate]
  split <;> rfl
theorem own_glow (l : List Int32) (i : Int32) : gI (lowL l) i = (l.getD i.toNatClampNeg 0).toInt8.toInt32 := by
  unfold gI lowL
  generalize i.toNatClampNeg = j
  simp only [List.getD_eq_getElem?_getD, List.getElem?_map]
  cases l[j]? with
  | none => rfl
  | some x => rfl
def own_AS (l : List Int32) : Prop := ∀ x ∈ l, 0 ≤ x.toInt ∧ x.toInt < 128
theorem own_ASg {l : List Int32} (h : own_AS l) (j : Nat) : 0 ≤ (l.getD j 0).toInt ∧ (l.getD j 0).toInt < 128 := by
  rw [List.getD_eq_getElem?_getD]
  cases q : l[j]? with
  | none => decide
  | some x => exact h x (List.mem_of_getElem? q)
theorem own_chg {l : List Int32} (h : own_AS l) (i : Int32) : (((gI (lowL l) i) &&& (255 : Int32)).toUInt32.toUInt16.toUInt32.toInt32) = l.getD i.toNatClampNeg 0 := by
  rw [own_glow]
  have a := own_ASg h i.toNatClampNeg
  exact own_chs a.1 a.2
theorem own_n14 {nn : Int32} (h1 : ¬ nn < 1) (h5 : nn < 5) : nn = 1 ∨ nn = 2 ∨ nn = 3 ∨ nn = 4 := by
  have h0 : ¬ nn < 0 := fun q => h1 (Int32.lt_trans q (by decide))
  rcases own_5 h5 h0 with q | q
  · exact absurd (by rw [q]; decide) h1
  · exact q
theorem own_n4d {nn : Int32} (h5 : nn < 5) (h1 : ¬ nn < 1) (q1 : ¬ nn = 1) (q2 : ¬ nn = 2) (q3 : ¬ nn = 3) : nn = 4 := by
  rcases own_n14 h1 h5 with q | q | q | q
  · exact absurd q q1
  · exact absurd q q2
  · exact absurd q q3
  · exact q
theorem own_KC {q nn k0 k1 k2 k3 : Int32} (h : ENC q nn k0 k1 k2 k3) : ∀ x ∈ cl4 nn k0 k1 k2 k3, KC x := by
  obtain ⟨h1, h5, c0, c1, c2, c3, -⟩ := h
  rcases own_n14 h1 h5 with rfl | rfl | rfl | rfl
  · rw [own_cl4_1]; simp [c0]
  · rw [own_cl4_2]; simp [c0, c1]
  · rw [own_cl4_3]; simp [c0, c1, c2]
  · rw [own_cl4_4]; simp [c0, c1, c2, c3]
theorem own_UN {q nn k0 k1 k2 k3 : Int32} (h : ENC q nn k0 k1 k2 k3) : Int32.ofNat (UN nn k0 k1 k2 k3) = nn ∧ 1 ≤ UN nn k0 k1 k2 k3 ∧ UN nn k0 k1 k2 k3 ≤ 4 := by
  obtain ⟨h1, h5, -⟩ := h
  unfold UN
  rcases own_n14 h1 h5 with rfl | rfl | rfl | rfl
  · rw [own_cl4_1]; exact ⟨rfl, by simp, by simp⟩
  · rw [own_cl4_2]; exact ⟨rfl, by simp, by simp⟩
  · rw [own_cl4_3]; exact ⟨rfl, by simp, by simp⟩
  · rw [own_cl4_4]; exact ⟨rfl, by simp, by simp⟩
theorem own_UNI {q nn k0 k1 k2 k3 : Int32} (h : ENC q nn k0 k1 k2 k3) : nn.toInt = (UN nn k0 k1 k2 k3 : Int) := by
  have a := own_UN h
  have b : (Int32.ofNat (UN nn k0 k1 k2 k3)).toInt = (UN nn k0 k1 k2 k3 : Int) := own_on (by omega)
  rw [a.1] at b
  exact b
theorem own_eKl (c : Int32) : 1 ≤ (eK c).length ∧ (eK c).length ≤ 2 := by
  unfold eK
  split
  · exact ⟨by simp, by simp⟩
  · exact ⟨by simp, by simp⟩
theorem own_fl (l : List Int32) : l.length ≤ (l.flatMap eK).length ∧ (l.flatMap eK).length ≤ 2 * l.length := by
  induction l with
  | nil => exact ⟨Nat.le_refl _, Nat.le_refl _⟩
  | cons a l ih =>
    have e := own_eKl a
    rw [List.flatMap_cons, List.length_append, List.length_cons]
    omega
theorem own_EL {q nn k0 k1 k2 k3 : Int32} (h : ENC q nn k0 k1 k2 k3) : UN nn k0 k1 k2 k3 ≤ (encK q nn k0 k1 k2 k3).length ∧ (encK q nn k0 k1 k2 k3).length ≤ 10 := by
  have a := own_UN h
  unfold encK
  split
  · unfold UN at *
    omega
  · have b := own_fl (cl4 nn k0 k1 k2 k3)
    unfold UN at *
    rw [List.length_cons, List.length_append]
    simp only [List.length_cons, List.length_nil]
    omega
theorem own_LI {q nn k0 k1 k2 k3 : Int32} (h : ENC q nn k0 k1 k2 k3) : (lenK q nn k0 k1 k2 k3).toInt = ((encK q nn k0 k1 k2 k3).length : Int) := by
  have a := own_EL h
  unfold lenK
  exact own_on (by omega)
theorem own_LC {q nn k0 k1 k2 k3 : Int32} (h : ENC q nn k0 k1 k2 k3) : (lenK q nn k0 k1 k2 k3).toNatClampNeg = (encK q nn k0 k1 k2 k3).length := by
  have a := own_EL h
  unfold lenK
  exact own_onc (by omega)
theorem own_kcA {x : Int32} (h : KC x) : 0 ≤ x.toInt ∧ x.toInt < 128 := by
  have a := own_kcI h
  omega
theorem own_ASK {q nn k0 k1 k2 k3 : Int32} (h : ENC q nn k0 k1 k2 k3) : own_AS (cl4 nn k0 k1 k2 k3) := fun x hx => own_kcA (own_KC h x hx)
theorem own_ASe {l : List Int32} (h : own_AS l) : own_AS (l.flatMap eK) := by
  intro x hx
  rw [List.mem_flatMap] at hx
  obtain ⟨a, ha, hx⟩ := hx
  unfold eK at hx
  split at hx
  · rw [List.mem_singleton] at hx
    rw [hx]
    exact h a ha
  · rcases List.mem_cons.mp hx with e | e
    · rw [e]; decide
    · rw [List.mem_singleton] at e
      rw [e]
      exact h a ha
theorem own_ASE {q nn k0 k1 k2 k3 : Int32} (h : ENC q nn k0 k1 k2 k3) : own_AS (encK q nn k0 k1 k2 k3) := by
  unfold encK
  split
  · exact own_ASK h
  · intro x hx
    rcases List.mem_cons.mp hx with e | e
    · rw [e]; decide
    · rcases List.mem_append.mp e with e | e
      · exact own_ASe (own_ASK h) x e
      · rw [List.mem_singleton] at e
        rw [e]; decide
theorem own_encB {q nn k0 k1 k2 k3 : Int32} (h : q = 0) : encK q nn k0 k1 k2 k3 = cl4 nn k0 k1 k2 k3 := by
  unfold encK
  exact if_pos h
theorem own_encQ {q nn k0 k1 k2 k3 : Int32} (h : ¬ q = 0) : encK q nn k0 k1 k2 k3 = 34 :: ((cl4 nn k0 k1 k2 k3).flatMap eK ++ [34]) := by
  unfold encK
  exact if_neg h
theorem own_lenB {q nn k0 k1 k2 k3 : Int32} (h : ENC q nn k0 k1 k2 k3) (z : q = 0) : lenK q nn k0 k1 k2 k3 = nn := by
  unfold lenK
  rw [own_encB z]
  exact (own_UN h).1
theorem own_ln0 {q nn k0 k1 k2 k3 : Int32} (h : ENC q nn k0 k1 k2 k3) : (0 : Int32) < lenK q nn k0 k1 k2 k3 := by
  rw [Int32.lt_iff_toInt_lt, own_i0, own_LI h]
  have a := own_EL h
  have b := own_UN h
  omega
theorem own_nbK {q nn k0 k1 k2 k3 : Int32} (h : ENC q nn k0 k1 k2 k3) : NB (lenK q nn k0 k1 k2 k3) := by
  unfold NB
  rw [Int32.lt_iff_toInt_lt, Int32.lt_iff_toInt_lt, own_i0, own_i12, own_LI h]
  have a := own_EL h
  omega
theorem own_nb {n : Int32} (h : NB n) : n.toNatClampNeg ≤ 12 ∧ ¬ n < 0 := by
  refine ⟨?_, h.1⟩
  have a := h.2
  rw [Int32.lt_iff_toInt_lt, own_i12] at a
  unfold Int32.toNatClampNeg
  omega
theorem own_lb {q nn k0 k1 k2 k3 i : Int32} (h : ENC q nn k0 k1 k2 k3) (z : q = 0) (hi : i < nn) : i < lenK q nn k0 k1 k2 k3 := by
  rw [own_lenB h z]
  exact hi
theorem own_ge1 {nn : Int32} (h : ¬ nn < 2) : (1 : Int32) < nn := by
  rw [Int32.lt_iff_toInt_lt] at h ⊢
  rw [own_i2] at h
  rw [own_i1]
  omega
theorem own_ge2 {nn : Int32} (h : ¬ nn < 3) : (2 : Int32) < nn := by
  rw [Int32.lt_iff_toInt_lt] at h ⊢
  rw [own_i3] at h
  rw [own_i2]
  omega
theorem own_ge3 {nn : Int32} (h : ¬ nn < 4) : (3 : Int32) < nn := by
  rw [Int32.lt_iff_toInt_lt] at h ⊢
  rw [own_i4] at h
  rw [own_i3]
  omega
theorem own_gen {i j nn : Int32} (h : ¬ nn < j) (q : i < j) : i < nn := by
  rw [Int32.lt_iff_toInt_lt] at h q ⊢
  omega
theorem own_ltn {i j nn : Int32} (h : nn < j) (q : j.toInt ≤ i.toInt + 1) : ¬ i < nn := by
  rw [Int32.lt_iff_toInt_lt] at h ⊢
  omega
theorem own_lbn1 {q nn k0 k1 k2 k3 : Int32} (h : ENC q nn k0 k1 k2 k3) (z : q = 0) (hi : nn < 2) : ¬ (1 : Int32) < lenK q nn k0 k1 k2 k3 := by
  rw [own_lenB h z]
  exact own_ltn hi (by decide)
theorem own_lbn2 {q nn k0 k1 k2 k3 : Int32} (h : ENC q nn k0 k1 k2 k3) (z : q = 0) (hi : nn < 3) : ¬ (2 : Int32) < lenK q nn k0 k1 k2 k3 := by
  rw [own_lenB h z]
  exact own_ltn hi (by decide)
theorem own_lbn3 {q nn k0 k1 k2 k3 : Int32} (h : ENC q nn k0 k1 k2 k3) (z : q = 0) (hi : nn < 4) : ¬ (3 : Int32) < lenK q nn k0 k1 k2 k3 := by
  rw [own_lenB h z]
  exact own_ltn hi (by decide)
theorem own_lbn4 {q nn k0 k1 k2 k3 : Int32} (h : ENC q nn k0 k1 k2 k3) (z : q = 0) : ¬ (4 : Int32) < lenK q nn k0 k1 k2 k3 := by
  rw [own_lenB h z]
  exact own_ltn h.2.1 (by decide)
theorem own_0nn {q nn k0 k1 k2 k3 : Int32} (h : ENC q nn k0 k1 k2 k3) : (0 : Int32) < nn := own_gen h.1 (by decide)
theorem own_nn4x {q nn k0 k1 k2 k3 i : Int32} (h : ENC q nn k0 k1 k2 k3) (a : (5 : Int32).toInt ≤ i.toInt + 1) (b : (3 : Int32) < i) : ¬ i < nn := own_ltn h.2.1 a
theorem own_nn0 {q nn k0 k1 k2 k3 : Int32} (h : ENC q nn k0 k1 k2 k3) : ¬ nn = 0 := fun e => absurd (own_0nn h) (by rw [e]; decide)
theorem own_sw1 {q nn k0 k1 k2 k3 : Int32} (h : ENC q nn k0 k1 k2 k3) : ¬ (((lenK q nn k0 k1 k2 k3) >>> ((0 : Int32) &&& 31)) - (1 : Int32)) < 0 := by
  rw [own_shr0]
  have a := own_LI h
  have b := own_EL h
  have d := own_UN h
  have c := c_isub (lenK q nn k0 k1 k2 k3) 1
  have r := rng32 (lenK q nn k0 k1 k2 k3 - 1)
  rw [own_i1] at c
  rw [Int32.lt_iff_toInt_lt, own_i0]
  omega
theorem own_clx0 {q nn k0 k1 k2 k3 : Int32} (h : ENC q nn k0 k1 k2 k3) : (((gI (lowL (cl4 nn k0 k1 k2 k3)) (0 : Int32)) &&& (255 : Int32)).toUInt32.toUInt16.toUInt32.toInt32) = k0 := by
  rw [own_chg (own_ASK h)]
  rcases own_n14 h.1 h.2.1 with rfl | rfl | rfl | rfl <;> rfl
theorem own_clx1 {q nn k0 k1 k2 k3 : Int32} (h : ENC q nn k0 k1 k2 k3) (z : ¬ nn < 2) : (((gI (lowL (cl4 nn k0 k1 k2 k3)) (1 : Int32)) &&& (255 : Int32)).toUInt32.toUInt16.toUInt32.toInt32) = k1 := by
  rw [own_chg (own_ASK h)]
  rcases own_n14 h.1 h.2.1 with rfl | rfl | rfl | rfl <;> first | exact absurd (by decide) z | rfl
theorem own_clx2 {q nn k0 k1 k2 k3 : Int32} (h : ENC q nn k0 k1 k2 k3) (z : ¬ nn < 3) : (((gI (lowL (cl4 nn k0 k1 k2 k3)) (2 : Int32)) &&& (255 : Int32)).toUInt32.toUInt16.toUInt32.toInt32) = k2 := by
  rw [own_chg (own_ASK h)]
  rcases own_n14 h.1 h.2.1 with rfl | rfl | rfl | rfl <;> first | exact absurd (by decide) z | rfl
theorem own_clx3 {q nn k0 k1 k2 k3 : Int32} (h : ENC q nn k0 k1 k2 k3) (z : ¬ nn < 4) : (((gI (lowL (cl4 nn k0 k1 k2 k3)) (3 : Int32)) &&& (255 : Int32)).toUInt32.toUInt16.toUInt32.toInt32) = k3 := by
  rw [own_chg (own_ASK h)]
  rcases own_n14 h.1 h.2.1 with rfl | rfl | rfl | rfl <;> first | exact absurd (by decide) z | rfl
theorem own_eK0 {q nn k0 k1 k2 k3 : Int32} (h : ENC q nn k0 k1 k2 k3) : KC k0 := h.2.2.1
theorem own_eK1 {q nn k0 k1 k2 k3 : Int32} (h : ENC q nn k0 k1 k2 k3) : KC k1 := h.2.2.2.1
theorem own_eK2 {q nn k0 k1 k2 k3 : Int32} (h : ENC q nn k0 k1 k2 k3) : KC k2 := h.2.2.2.2.1
theorem own_eK3 {q nn k0 k1 k2 k3 : Int32} (h : ENC q nn k0 k1 k2 k3) : KC k3 := h.2.2.2.2.2.1
theorem own_plk0 {q nn k0 k1 k2 k3 : Int32} (h : ENC q nn k0 k1 k2 k3) (z : q = 0) : ¬ plF k0 = 0 := (h.2.2.2.2.2.2 z).1
theorem own_plk1 {q nn k0 k1 k2 k3 : Int32} (h : ENC q nn k0 k1 k2 k3) (z : q = 0) (a : ¬ nn < 2) : ¬ plF k1 = 0 := Or.resolve_left (h.2.2.2.2.2.2 z).2.1 a
theorem own_plk2 {q nn k0 k1 k2 k3 : Int32} (h : ENC q nn k0 k1 k2 k3) (z : q = 0) (a : ¬ nn < 3) : ¬ plF k2 = 0 := Or.resolve_left (h.2.2.2.2.2.2 z).2.2.1 a
theorem own_plk3 {q nn k0 k1 k2 k3 : Int32} (h : ENC q nn k0 k1 k2 k3) (z : q = 0) (a : ¬ nn < 4) : ¬ plF k3 = 0 := Or.resolve_left (h.2.2.2.2.2.2 z).2.2.2 a
theorem own_swQ {q nn k0 k1 k2 k3 : Int32} (h : ENC q nn k0 k1 k2 k3) (z : ¬ q = 0) : (gI (lowL (encK q nn k0 k1 k2 k3)) (0 : Int32)) = 34 := by
  rw [own_encQ z]
  rfl
theorem own_swB {q nn k0 k1 k2 k3 : Int32} (h : ENC q nn k0 k1 k2 k3) (z : q = 0) : ¬ (gI (lowL (encK q nn k0 k1 k2 k3)) (0 : Int32)) = 34 := by
  rw [own_encB z, own_glow]
  have e : (cl4 nn k0 k1 k2 k3).getD (0 : Int32).toNatClampNeg 0 = k0 := by
    rcases own_n14 h.1 h.2.1 with rfl | rfl | rfl | rfl <;> rfl
  have k := own_kcA (own_eK0 h)
  rw [e, own_lows k.1 k.2]
  exact own_pl34 (own_plk0 h z)
theorem own_sub0 (x : Int32) : (x - (0 : Int32)) = x := Int32.sub_zero _
theorem own_uc0 {nn k0 k1 k2 k3 : Int32} : UC nn k0 k1 k2 k3 (UN nn k0 k1 k2 k3) = 0 := by
  unfold UC
  rw [Nat.sub_self]
  rfl
theorem own_ui0 {nn k0 k1 k2 k3 : Int32} : UI nn k0 k1 k2 k3 (UN nn k0 k1 k2 k3) = 1 := by
  unfold UI
  rw [Nat.sub_self]
  rfl
theorem own_ub0 {q nn k0 k1 k2 k3 : Int32} : UB q nn k0 k1 k2 k3 (UN nn k0 k1 k2 k3) = zeroL (lenK q nn k0 k1 k2 k3) := by
  unfold UB zeroL lenK
  rw [Nat.sub_self]
  have e : (encK q nn k0 k1 k2 k3).length < 100 := by
    have l4 : (cl4 nn k0 k1 k2 k3).length ≤ 4 := by
      unfold cl4
      split
      · simp
      · split
        · simp
        · split
          · simp
          · split <;> simp
    have f := own_fl (cl4 nn k0 k1 k2 k3)
    unfold encK
    split
    · omega
    · rw [List.length_cons, List.length_append]
      simp only [List.length_cons, List.length_nil]
      omega
  rw [own_onc e]
  rfl
theorem own_ucz {q nn k0 k1 k2 k3 : Int32} (h : ENC q nn k0 k1 k2 k3) : UC nn k0 k1 k2 k3 0 = nn := (own_UN h).1
theorem own_ublen {q nn k0 k1 k2 k3 : Int32} (h : ENC q nn k0 k1 k2 k3) (z : ¬ q = 0) (d : Nat) : (UB q nn k0 k1 k2 k3 d).length = (lenK q nn k0 k1 k2 k3).toNatClampNeg := by
  rw [own_LC h]
  unfold UB
  have a := own_EL h
  rw [List.length_append, own_lowlen', List.length_take, List.length_replicate]
  unfold UN at *
  omega
theorem own_mid (P R : List Int32) (i : Nat) : (34 :: (P ++ R)).getD (1 + P.length + i) 0 = R.getD i 0 := by
  rw [show 1 + P.length + i = (P.length + i) + 1 from by omega]
  rw [List.getD_eq_getElem?_getD, List.getD_eq_getElem?_getD, List.getElem?_cons_succ, List.getElem?_append_right (by omega)]
  rw [show P.length + i - P.length = i from by omega]
def UZ (q nn k0 k1 k2 k3 iz : Int32) : Prop :=
  (UI nn k0 k1 k2 k3 0 = iz) ∧
  (¬ iz < 0) ∧
  (iz < lenK q nn k0 k1 k2 k3) ∧
  (¬ (iz + (1 : Int32)) < lenK q nn k0 k1 k2 k3) ∧
  (iz = (lenK q nn k0 k1 k2 k3 - (1 : Int32))) ∧
  (¬ nn = lenK q nn k0 k1 k2 k3) ∧
  ((((gI (lowL (encK q nn k0 k1 k2 k3)) iz) &&& (255 : Int32)).toUInt32.toUInt16.toUInt32.toInt32) = 34)
theorem UZ.ui {q nn k0 k1 k2 k3 iz : Int32} (own_h : UZ q nn k0 k1 k2 k3 iz) : UI nn k0 k1 k2 k3 0 = iz := own_h.1
theorem UZ.i0 {q nn k0 k1 k2 k3 iz : Int32} (own_h : UZ q nn k0 k1 k2 k3 iz) : ¬ iz < 0 := own_h.2.1
theorem UZ.iL {q nn k0 k1 k2 k3 iz : Int32} (own_h : UZ q nn k0 k1 k2 k3 iz) : iz < lenK q nn k0 k1 k2 k3 := own_h.2.2.1
theorem UZ.iE {q nn k0 k1 k2 k3 iz : Int32} (own_h : UZ q nn k0 k1 k2 k3 iz) : ¬ (iz + (1 : Int32)) < lenK q nn k0 k1 k2 k3 := own_h.2.2.2.1
theorem UZ.iM {q nn k0 k1 k2 k3 iz : Int32} (own_h : UZ q nn k0 k1 k2 k3 iz) : iz = (lenK q nn k0 k1 k2 k3 - (1 : Int32)) := own_h.2.2.2.2.1
theorem UZ.nl {q nn k0 k1 k2 k3 iz : Int32} (own_h : UZ q nn k0 k1 k2 k3 iz) : ¬ nn = lenK q nn k0 k1 k2 k3 := own_h.2.2.2.2.2.1
theorem UZ.ch {q nn k0 k1 k2 k3 iz : Int32} (own_h : UZ q nn k0 k1 k2 k3 iz) : (((gI (lowL (encK q nn k0 k1 k2 k3)) iz) &&& (255 : Int32)).toUInt32.toUInt16.toUInt32.toInt32) = 34 := own_h.2.2.2.2.2.2
theorem own_uz {q nn k0 k1 k2 k3 : Int32} (h : ENC q nn k0 k1 k2 k3) (z : ¬ q = 0) : ∃ iz, UZ q nn k0 k1 k2 k3 iz := by
  have a := own_EL h
  have u := own_UN h
  have un := own_UNI h
  have li := own_LI h
  have f := own_fl (cl4 nn k0 k1 k2 k3)
  have e1 : UI nn k0 k1 k2 k3 0 = Int32.ofNat (1 + ((cl4 nn k0 k1 k2 k3).flatMap eK).length) := by
    unfold UI UN
    rw [Nat.sub_zero, List.take_length]
  have e2 : (encK q nn k0 k1 k2 k3).length = ((cl4 nn k0 k1 k2 k3).flatMap eK).length + 2 := by
    rw [own_encQ z, List.length_cons, List.length_append]
    rfl
  have e3 : (Int32.ofNat (1 + ((cl4 nn k0 k1 k2 k3).flatMap eK).length)).toInt = ((1 + ((cl4 nn k0 k1 k2 k3).flatMap eK).length : Nat) : Int) := own_on (by omega)
  have e4 : (Int32.ofNat (1 + ((cl4 nn k0 k1 k2 k3).flatMap eK).length)).toNatClampNeg = (1 + ((cl4 nn k0 k1 k2 k3).flatMap eK).length) := own_onc (by omega)
  have hun : UN nn k0 k1 k2 k3 = (cl4 nn k0 k1 k2 k3).length := rfl
  refine ⟨_, e1, ?_, ?_, ?_, ?_, ?_, ?_⟩
  · rw [Int32.lt_iff_toInt_lt, own_i0]
    omega
  · rw [Int32.lt_iff_toInt_lt]
    omega
  · generalize Int32.ofNat (1 + ((cl4 nn k0 k1 k2 k3).flatMap eK).length) = x at *
    have c := c_iadd x 1
    have r := rng32 (x + 1)
    rw [own_i1] at c
    rw [Int32.lt_iff_toInt_lt]
    omega
  · apply Int32.toInt_inj.mp
    have c := c_isub (lenK q nn k0 k1 k2 k3) 1
    have r := rng32 (lenK q nn k0 k1 k2 k3 - 1)
    rw [own_i1] at c
    omega
  · intro e
    rw [← e] at li
    omega
  · rw [own_chg (own_ASE h), e4, own_encQ z]
    exact own_mid ((cl4 nn k0 k1 k2 k3).flatMap eK) [34] 0
def UQ (q nn k0 k1 k2 k3 : Int32) (d : Nat) (ii kx cj : Int32) (bl : List Int32) : Prop :=
  (UI nn k0 k1 k2 k3 (d + 1) = ii) ∧
  (UC nn k0 k1 k2 k3 (d + 1) = cj) ∧
  (UB q nn k0 k1 k2 k3 (d + 1) = bl) ∧
  (¬ ii < 0) ∧
  (ii < lenK q nn k0 k1 k2 k3) ∧
  (¬ cj < 0) ∧
  (cj < lenK q nn k0 k1 k2 k3) ∧
  (¬ (0 : Int32) < ((cj + (1 : Int32)) - ((lenK q nn k0 k1 k2 k3) >>> ((0 : Int32) &&& 31)))) ∧
  (KC kx) ∧
  (bl.length = (lenK q nn k0 k1 k2 k3).toNatClampNeg) ∧
  (escF kx = 0 → (((gI (lowL (encK q nn k0 k1 k2 k3)) ii) &&& (255 : Int32)).toUInt32.toUInt16.toUInt32.toInt32) = kx ∧ (ii + (1 : Int32)) = UI nn k0 k1 k2 k3 d) ∧
  (¬ escF kx = 0 → (((gI (lowL (encK q nn k0 k1 k2 k3)) ii) &&& (255 : Int32)).toUInt32.toUInt16.toUInt32.toInt32) = 92 ∧ ¬ (ii + (1 : Int32)) = lenK q nn k0 k1 k2 k3 ∧ ¬ (ii + (1 : Int32)) < 0 ∧ (ii + (1 : Int32)) < lenK q nn k0 k1 k2 k3 ∧ (((gI (lowL (encK q nn k0 k1 k2 k3)) (ii + (1 : Int32))) &&& (255 : Int32)).toUInt32.toUInt16.toUInt32.toInt32) = kx ∧ ((ii + (1 : Int32)) + (1 : Int32)) = UI nn k0 k1 k2 k3 d) ∧
  ((cj + (1 : Int32)) = UC nn k0 k1 k2 k3 d) ∧
  (setI bl cj (kx.toInt8.toInt32) = UB q nn k0 k1 k2 k3 d)
theorem UQ.ui {q nn k0 k1 k2 k3 : Int32} {d : Nat} {ii kx cj : Int32} {bl : List Int32} (own_h : UQ q nn k0 k1 k2 k3 d ii kx cj bl) : UI nn k0 k1 k2 k3 (d + 1) = ii := own_h.1
theorem UQ.uc {q nn k0 k1 k2 k3 : Int32} {d : Nat} {ii kx cj : Int32} {bl : List Int32} (own_h : UQ q nn k0 k1 k2 k3 d ii kx cj bl) : UC nn k0 k1 k2 k3 (d + 1) = cj := own_h.2.1
theorem UQ.ub {q nn k0 k1 k2 k3 : Int32} {d : Nat} {ii kx cj : Int32} {bl : List Int32} (own_h : UQ q nn k0 k1 k2 k3 d ii kx cj bl) : UB q nn k0 k1 k2 k3 (d + 1) = bl := own_h.2.2.1
theorem UQ.i0 {q nn k0 k1 k2 k3 : Int32} {d : Nat} {ii kx cj : Int32} {bl : List Int32} (own_h : UQ q nn k0 k1 k2 k3 d ii kx cj bl) : ¬ ii < 0 := own_h.2.2.2.1
theorem UQ.iL {q nn k0 k1 k2 k3 : Int32} {d : Nat} {ii kx cj : Int32} {bl : List Int32} (own_h : UQ q nn k0 k1 k2 k3 d ii kx cj bl) : ii < lenK q nn k0 k1 k2 k3 := own_h.2.2.2.2.1
theorem UQ.c0 {q nn k0 k1 k2 k3 : Int32} {d : Nat} {ii kx cj : Int32} {bl : List Int32} (own_h : UQ q nn k0 k1 k2 k3 d ii kx cj bl) : ¬ cj < 0 := own_h.2.2.2.2.2.1
theorem UQ.cL {q nn k0 k1 k2 k3 : Int32} {d : Nat} {ii kx cj : Int32} {bl : List Int32} (own_h : UQ q nn k0 k1 k2 k3 d ii kx cj bl) : cj < lenK q nn k0 k1 k2 k3 := own_h.2.2.2.2.2.2.1
theorem UQ.cap {q nn k0 k1 k2 k3 : Int32} {d : Nat} {ii kx cj : Int32} {bl : List Int32} (own_h : UQ q nn k0 k1 k2 k3 d ii kx cj bl) : ¬ (0 : Int32) < ((cj + (1 : Int32)) - ((lenK q nn k0 k1 k2 k3) >>> ((0 : Int32) &&& 31))) := own_h.2.2.2.2.2.2.2.1
theorem UQ.kc {q nn k0 k1 k2 k3 : Int32} {d : Nat} {ii kx cj : Int32} {bl : List Int32} (own_h : UQ q nn k0 k1 k2 k3 d ii kx cj bl) : KC kx := own_h.2.2.2.2.2.2.2.2.1
theorem UQ.bll {q nn k0 k1 k2 k3 : Int32} {d : Nat} {ii kx cj : Int32} {bl : List Int32} (own_h : UQ q nn k0 k1 k2 k3 d ii kx cj bl) : bl.length = (lenK q nn k0 k1 k2 k3).toNatClampNeg := own_h.2.2.2.2.2.2.2.2.2.1
theorem UQ.ch0 {q nn k0 k1 k2 k3 : Int32} {d : Nat} {ii kx cj : Int32} {bl : List Int32} (own_h : UQ q nn k0 k1 k2 k3 d ii kx cj bl) : escF kx = 0 → (((gI (lowL (encK q nn k0 k1 k2 k3)) ii) &&& (255 : Int32)).toUInt32.toUInt16.toUInt32.toInt32) = kx ∧ (ii + (1 : Int32)) = UI nn k0 k1 k2 k3 d := own_h.2.2.2.2.2.2.2.2.2.2.1
theorem UQ.ch1 {q nn k0 k1 k2 k3 : Int32} {d : Nat} {ii kx cj : Int32} {bl : List Int32} (own_h : UQ q nn k0 k1 k2 k3 d ii kx cj bl) : ¬ escF kx = 0 → (((gI (lowL (encK q nn k0 k1 k2 k3)) ii) &&& (255 : Int32)).toUInt32.toUInt16.toUInt32.toInt32) = 92 ∧ ¬ (ii + (1 : Int32)) = lenK q nn k0 k1 k2 k3 ∧ ¬ (ii + (1 : Int32)) < 0 ∧ (ii + (1 : Int32)) < lenK q nn k0 k1 k2 k3 ∧ (((gI (lowL (encK q nn k0 k1 k2 k3)) (ii + (1 : Int32))) &&& (255 : Int32)).toUInt32.toUInt16.toUInt32.toInt32) = kx ∧ ((ii + (1 : Int32)) + (1 : Int32)) = UI nn k0 k1 k2 k3 d := own_h.2.2.2.2.2.2.2.2.2.2.2.1
theorem UQ.cn {q nn k0 k1 k2 k3 : Int32} {d : Nat} {ii kx cj : Int32} {bl : List Int32} (own_h : UQ q nn k0 k1 k2 k3 d ii kx cj bl) : (cj + (1 : Int32)) = UC nn k0 k1 k2 k3 d := own_h.2.2.2.2.2.2.2.2.2.2.2.2.1
theorem UQ.bn {q nn k0 k1 k2 k3 : Int32} {d : Nat} {ii kx cj : Int32} {bl : List Int32} (own_h : UQ q nn k0 k1 k2 k3 d ii kx cj bl) : setI bl cj (kx.toInt8.toInt32) = UB q nn k0 k1 k2 k3 d := own_h.2.2.2.2.2.2.2.2.2.2.2.2.2
theorem own_add1 {n : Nat} (h : n < 90) : (Int32.ofNat n + (1 : Int32)) = Int32.ofNat (n + 1) := by
  apply Int32.toInt_inj.mp
  have c := c_iadd (Int32.ofNat n) 1
  have r := rng32 (Int32.ofNat n + 1)
  have a : (Int32.ofNat n).toInt = (n : Int) := own_on (by omega)
  have b : (Int32.ofNat (n + 1)).toInt = ((n + 1 : Nat) : Int) := own_on (by omega)
  rw [own_i1] at c
  omega
theorem own_onlt {n m : Nat} (a : n < 100) (b : m < 100) : Int32.ofNat n < Int32.ofNat m ↔ n < m := by
  rw [Int32.lt_iff_toInt_lt, own_on a, own_on b]
  omega
theorem own_on0 {n : Nat} (a : n < 100) : ¬ Int32.ofNat n < 0 := by
  rw [Int32.lt_iff_toInt_lt, own_on a, own_i0]
  omega
theorem own_onne {n m : Nat} (a : n < 100) (b : m < 100) (h : ¬ n = m) : ¬ Int32.ofNat n = Int32.ofNat m := by
  intro e
  have z := congrArg Int32.toInt e
  rw [own_on a, own_on b] at z
  omega
theorem own_uq {q nn k0 k1 k2 k3 : Int32} {d : Nat} (h : ENC q nn k0 k1 k2 k3) (z : ¬ q = 0) (hd : d + 1 ≤ UN nn k0 k1 k2 k3) : ∃ ii kx cj bl, UQ q nn k0 k1 k2 k3 d ii kx cj bl := by
  have el := own_EL h
  have u := own_UN h
  have hlen : lenK q nn k0 k1 k2 k3 = Int32.ofNat (encK q nn k0 k1 k2 k3).length := rfl
  have hbl := own_ublen h z (d + 1)
  have hun : UN nn k0 k1 k2 k3 = (cl4 nn k0 k1 k2 k3).length := rfl
  have hkc := own_KC h
  have hE := own_ASE h
  have hlc := own_LC h
  have eQ := own_encQ (nn := nn) (k0 := k0) (k1 := k1) (k2 := k2) (k3 := k3) z
  obtain ⟨j, hj⟩ : ∃ j, j = UN nn k0 k1 k2 k3 - (d + 1) := ⟨_, rfl⟩
  have hj1 : UN nn k0 k1 k2 k3 - d = j + 1 := by omega
  have hjl : j < (cl4 nn k0 k1 k2 k3).length := by omega
  obtain ⟨K, hK⟩ : ∃ K, K = cl4 nn k0 k1 k2 k3 := ⟨_, rfl⟩
  obtain ⟨kx, hkx⟩ : ∃ kx, kx = K[j]'(by rw [hK]; exact hjl) := ⟨_, rfl⟩
  have sp : K = K.take j ++ kx :: K.drop (j + 1) := by
    rw [hkx, List.getElem_cons_drop, List.take_append_drop]
  have tk : K.take (j + 1) = K.take j ++ [kx] := by
    rw [hkx]
    exact (List.take_append_getElem (by rw [hK]; exact hjl)).symm
  have hkk : KC kx := hkc kx (by rw [← hK, hkx]; exact List.getElem_mem _)
  have eE : encK q nn k0 k1 k2 k3 = 34 :: ((K.take j).flatMap eK ++ (eK kx ++ ((K.drop (j + 1)).flatMap eK ++ [34]))) := by
    rw [eQ, ← hK]
    conv => lhs; rw [sp]
    rw [List.flatMap_append, List.flatMap_cons, List.append_assoc, List.append_assoc]
  have lE : (encK q nn k0 k1 k2 k3).length = ((K.take j).flatMap eK).length + (eK kx).length + ((K.drop (j + 1)).flatMap eK).length + 2 := by
    rw [eE, List.length_cons, List.length_append, List.length_append, List.length_append]
    simp only [List.length_cons, List.length_nil]
    omega
  have fl := own_fl (K.take j)
  have ftl : (K.take j).length = j := by
    rw [List.length_take, hK]
    omega
  have hui : UI nn k0 k1 k2 k3 (d + 1) = Int32.ofNat (1 + ((K.take j).flatMap eK).length) := by
    unfold UI
    rw [← hj, ← hK]
  have huin : UI nn k0 k1 k2 k3 d = Int32.ofNat (1 + (((K.take j).flatMap eK).length + (eK kx).length)) := by
    unfold UI
    rw [hj1, ← hK, tk, List.flatMap_append, List.length_append]
    simp
  have huc : UC nn k0 k1 k2 k3 (d + 1) = Int32.ofNat j := by
    unfold UC
    rw [hj]
  have hucn : UC nn k0 k1 k2 k3 d = Int32.ofNat (j + 1) := by
    unfold UC
    rw [hj1]
  obtain ⟨P, hP⟩ : ∃ P, P = (K.take j).flatMap eK := ⟨_, rfl⟩
  obtain ⟨R, hR⟩ : ∃ R, R = (K.drop (j + 1)).flatMap eK ++ [34] := ⟨_, rfl⟩
  rw [← hP] at eE lE fl hui huin
  rw [← hR] at eE
  have ek := own_eKl kx
  refine ⟨Int32.ofNat (1 + P.length), kx, Int32.ofNat j, UB q nn k0 k1 k2 k3 (d + 1), hui, huc, rfl, own_on0 (by omega), ?_, own_on0 (by omega), ?_, ?_, hkk, hbl, ?_, ?_, ?_, ?_⟩
  · rw [hlen]
    exact (own_onlt (by omega) (by omega)).mpr (by omega)
  · rw [hlen]
    exact (own_onlt (by omega) (by omega)).mpr (by omega)
  · rw [own_shr0, own_add1 (by omega)]
    have a := own_LI h
    have b : (Int32.ofNat (j + 1)).toInt = ((j + 1 : Nat) : Int) := own_on (by omega)
    have c := c_isub (Int32.ofNat (j + 1)) (lenK q nn k0 k1 k2 k3)
    have r := rng32 (Int32.ofNat (j + 1) - lenK q nn k0 k1 k2 k3)
    rw [Int32.lt_iff_toInt_lt, own_i0]
    omega
  · intro e
    have e1 : eK kx = [kx] := if_pos e
    rw [e1] at eE huin
    refine ⟨?_, ?_⟩
    · rw [own_chg hE, own_onc (by omega), eE]
      exact own_mid P ([kx] ++ R) 0
    · rw [own_add1 (by omega), huin]
      rfl
  · intro e
    have e1 : eK kx = [92, kx] := if_neg e
    rw [e1] at eE huin lE
    have l2 : ([92, kx] : List Int32).length = 2 := rfl
    rw [l2] at huin lE
    rw [own_add1 (by omega), hlen]
    refine ⟨?_, own_onne (by omega) (by omega) (by omega), own_on0 (by omega), (own_onlt (by omega) (by omega)).mpr (by omega), ?_, ?_⟩
    · rw [own_chg hE, own_onc (by omega), eE]
      exact own_mid P ([92, kx] ++ R) 0
    · rw [own_chg hE, own_onc (by omega), eE]
      exact own_mid P ([92, kx] ++ R) 1
    · rw [own_add1 (by omega), huin]
      exact congrArg Int32.ofNat (by omega)
  · rw [own_add1 (by omega), hucn]
  · unfold setI UB
    rw [own_onc (by omega), hj1, ← hj, ← hK, tk]
    have e1 : (encK q nn k0 k1 k2 k3).length - j = ((encK q nn k0 k1 k2 k3).length - (j + 1)) + 1 := by omega
    rw [e1, List.replicate_succ]
    have e2 : (lowL (K.take j)).length = j := by
      rw [own_lowlen']
      exact ftl
    rw [List.set_append_right _ _ (by omega), e2, Nat.sub_self, List.set_cons_zero]
    unfold lowL
    rw [List.map_append, List.append_assoc]
    rfl
theorem own_cprU {q nn k0 k1 k2 k3 : Int32} (h : ENC q nn k0 k1 k2 k3) (z : ¬ q = 0) : CPR (lenK q nn k0 k1 k2 k3) 0 nn := by
  have a := own_LI h
  have b := own_EL h
  have c := own_UNI h
  unfold CPR
  simp only [Int32.lt_iff_toInt_lt, own_i0, own_i12]
  omega
theorem own_cprUB {q nn k0 k1 k2 k3 : Int32} (h : ENC q nn k0 k1 k2 k3) (z : ¬ q = 0) : cprL (UB q nn k0 k1 k2 k3 0) (0 : Int32) nn = lowL (cl4 nn k0 k1 k2 k3) := by
  have c := own_UN h
  have hn : nn.toNatClampNeg = (cl4 nn k0 k1 k2 k3).length := by
    have e := own_onc (n := UN nn k0 k1 k2 k3) (by omega)
    rw [c.1] at e
    exact e
  unfold cprL UB
  rw [own_sub0, hn, Nat.sub_zero]
  show (List.drop 0 _).take _ = _
  rw [List.drop_zero]
  unfold UN
  rw [List.take_length]
  have e2 : (lowL (cl4 nn k0 k1 k2 k3)).length = (cl4 nn k0 k1 k2 k3).length := own_lowlen' _
  rw [← e2]
  exact List.take_left
theorem own_cprL {n p q : Int32} (h : CPR n p q) : ¬ q < p := h.2.1
theorem own_cprI {n p q : Int32} (h : CPR n p q) : 0 ≤ p.toInt ∧ p.toInt ≤ q.toInt ∧ q.toInt ≤ n.toInt ∧ n.toInt ≤ 12 ∧ (q - p).toInt = q.toInt - p.toInt ∧ (n - p).toInt = n.toInt - p.toInt := by
  obtain ⟨a, b, c, d⟩ := h
  simp only [Int32.lt_iff_toInt_lt, own_i0, own_i12] at a b c d
  have e := c_isub q p
  have f := c_isub n p
  have r := rng32 (q - p)
  have s := rng32 (n - p)
  omega
theorem own_cprN {n p q : Int32} (h : CPR n p q) : (q - p).toNatClampNeg ≤ 12 ∧ ¬ (q - p) < 0 := by
  have a := own_cprI h
  rw [Int32.lt_iff_toInt_lt, own_i0]
  unfold Int32.toNatClampNeg
  omega
theorem own_minI {n p q : Int32} (h : CPR n p q) : minF (n - p) (q - p) = q - p := by
  have a := own_cprI h
  unfold minF
  by_cases e : (q - p) < (n - p)
  · exact if_pos e
  · rw [if_neg e]
    rw [Int32.lt_iff_toInt_lt] at e
    apply Int32.toInt_inj.mp
    omega
theorem own_cp1 {n p q : Int32} {l : List Int32} (h : CPR n p q) (hl : l.length = n.toNatClampNeg) : ¬ p < 0 := h.1
theorem own_cp2 {n p q : Int32} {l : List Int32} (h : CPR n p q) (hl : l.length = n.toNatClampNeg) : ¬ (0 : Int32) < 0 := by decide
theorem own_cp3 {n p q : Int32} {l : List Int32} (h : CPR n p q) (hl : l.length = n.toNatClampNeg) : ¬ minF (n - p) (q - p) < 0 := by
  rw [own_minI h]
  exact (own_cprN h).2
theorem own_cp4 {n p q : Int32} {l : List Int32} (h : CPR n p q) (hl : l.length = n.toNatClampNeg) : p.toNatClampNeg + (minF (n - p) (q - p)).toNatClampNeg ≤ n.toNatClampNeg := by
  rw [own_minI h]
  have a := own_cprI h
  unfold Int32.toNatClampNeg
  omega
theorem own_cp5 {n p q : Int32} {l : List Int32} (h : CPR n p q) (hl : l.length = n.toNatClampNeg) : (0 : Int32).toNatClampNeg + (minF (n - p) (q - p)).toNatClampNeg ≤ (q - p).toNatClampNeg := by
  rw [own_minI h]
  exact Nat.le_of_eq (Nat.zero_add _)
theorem own_rng {l : List Int32} (a b : Nat) (h : a + b ≤ l.length) : mI ((l.drop a).take b) = (List.range b).map fun i => (mI l).getD (a + i) (.int (0 : Int32)) := by
  apply List.ext_getElem?
  intro i
  unfold mI
  simp only [List.getElem?_map, List.getElem?_take, List.getElem?_drop, List.getElem?_range, List.getD_eq_getElem?_getD]
  by_cases q : i < b
  · rw [if_pos q, List.getElem?_range q]
    rw [List.getElem?_eq_getElem (show a + i < l.length by omega)]
    simp [List.getElem?_eq_getElem (show a + i < l.length by omega)]
  · rw [if_neg q]
    simp [q]
theorem own_cp6 {n p q : Int32} {l : List Int32} (h : CPR n p q) (hl : l.length = n.toNatClampNeg) : mI (cprL l p q) = (List.range (minF (n - p) (q - p)).toNatClampNeg).map fun i => (mI l).getD (p.toNatClampNeg + i) (.int (0 : Int32)) := by
  have a := own_cp4 h hl
  rw [own_minI h] at a ⊢
  exact own_rng _ _ (by omega)
theorem own_cp7 {n p q : Int32} {l : List Int32} (h : CPR n p q) (hl : l.length = n.toNatClampNeg) : (0 : Int32).toNatClampNeg + (minF (n - p) (q - p)).toNatClampNeg ≤ (mI (zeroL (q - p))).length := by
  rw [own_minI h]
  unfold mI
  rw [List.length_map, own_zlen]
  exact Nat.le_of_eq (Nat.zero_add _)
theorem own_cp8 {n p q : Int32} {l : List Int32} (h : CPR n p q) (hl : l.length = n.toNatClampNeg) : (mI (zeroL (q - p))).take (0 : Int32).toNatClampNeg ++ mI (cprL l p q) ++ (mI (zeroL (q - p))).drop ((0 : Int32).toNatClampNeg + (minF (n - p) (q - p)).toNatClampNeg) = mI (cprL l p q) := by
  rw [own_minI h]
  have e : (0 : Int32).toNatClampNeg = 0 := rfl
  rw [e, List.take_zero, List.nil_append, Nat.zero_add, List.drop_eq_nil_of_le, List.append_nil]
  unfold mI
  rw [List.length_map, own_zlen]
  exact Nat.le_refl _
theorem own_b12 {F E : List Int32} {na nb : Nat} (h : TRM F na nb E) : nb + (12 - nb) = 12 := by
  have a := h.le
  omega
theorem own_on12 {n : Nat} (a : n < 100) : Int32.ofNat n < 12 ↔ n < 12 := own_onlt (m := 12) a (by decide)
theorem own_sub1 {n : Nat} (a : n < 100) (b : 1 ≤ n) : (Int32.ofNat n - (1 : Int32)) = Int32.ofNat (n - 1) := by
  apply Int32.toInt_inj.mp
  have c := c_isub (Int32.ofNat n) 1
  have r := rng32 (Int32.ofNat n - 1)
  have d : (Int32.ofNat n).toInt = (n : Int) := own_on (by omega)
  have e : (Int32.ofNat (n - 1)).toInt = ((n - 1 : Nat) : Int) := own_on (by omega)
  rw [own_i1] at c
  omega
theorem own_subN {n m : Nat} (a : n < 100) (b : m ≤ n) : (Int32.ofNat n - Int32.ofNat m) = Int32.ofNat (n - m) := by
  apply Int32.toInt_inj.mp
  have c := c_isub (Int32.ofNat n) (Int32.ofNat m)
  have r := rng32 (Int32.ofNat n - Int32.ofNat m)
  have d : (Int32.ofNat n).toInt = (n : Int) := own_on (by omega)
  have d2 : (Int32.ofNat m).toInt = (m : Int) := own_on (by omega)
  have e : (Int32.ofNat (n - m)).toInt = ((n - m : Nat) : Int) := own_on (by omega)
  omega
theorem own_addN {n m : Nat} (a : n + m < 100) : (Int32.ofNat n + Int32.ofNat m) = Int32.ofNat (n + m) := by
  apply Int32.toInt_inj.mp
  have c := c_iadd (Int32.ofNat n) (Int32.ofNat m)
  have r := rng32 (Int32.ofNat n + Int32.ofNat m)
  have d : (Int32.ofNat n).toInt = (n : Int) := own_on (by omega)
  have d2 : (Int32.ofNat m).toInt = (m : Int) := own_on (by omega)
  have e : (Int32.ofNat (n + m)).toInt = ((n + m : Nat) : Int) := own_on (by omega)
  omega
theorem own_trA {F E : List Int32} {na nb : Nat} (h : TRM F na nb E) : ¬ Int32.ofNat na < 0 ∧ Int32.ofNat na < 12 ∧ wsF (((gI F (Int32.ofNat na)) &&& (255 : Int32)).toUInt32.toUInt16.toUInt32.toInt32) = 0 := by
  have a := h.le
  have b := h.lt
  exact ⟨own_on0 (by omega), (own_on12 (by omega)).mpr (by omega), h.h1⟩
theorem own_trS {F E : List Int32} {na nb d : Nat} (h : TRM F na nb E) (hd : d + 1 ≤ na) : ∃ ii : Int32, Int32.ofNat (na - (d + 1)) = ii ∧ ¬ ii < 0 ∧ ii < 12 ∧ ¬ wsF (((gI F ii) &&& (255 : Int32)).toUInt32.toUInt16.toUInt32.toInt32) = 0 ∧ (ii + (1 : Int32)) = Int32.ofNat (na - d) := by
  have a := h.le
  have b := h.lt
  refine ⟨_, rfl, own_on0 (by omega), (own_on12 (by omega)).mpr (by omega), h.ws1 _ (by omega), ?_⟩
  rw [own_add1 (by omega)]
  exact congrArg Int32.ofNat (by omega)
theorem own_trB {F E : List Int32} {na nb : Nat} (h : TRM F na nb E) : Int32.ofNat na < Int32.ofNat nb ∧ ¬ (Int32.ofNat nb - (1 : Int32)) < 0 ∧ (Int32.ofNat nb - (1 : Int32)) < 12 ∧ wsF (((gI F (Int32.ofNat nb - (1 : Int32))) &&& (255 : Int32)).toUInt32.toUInt16.toUInt32.toInt32) = 0 ∧ ¬ Int32.ofNat nb < Int32.ofNat na ∧ ¬ (12 : Int32) < Int32.ofNat nb ∧ ¬ (Int32.ofNat nb - Int32.ofNat na) = 0 := by
  have a := h.le
  have b := h.lt
  rw [own_sub1 (by omega) (by omega), own_subN (by omega) (by omega)]
  refine ⟨(own_onlt (by omega) (by omega)).mpr b, own_on0 (by omega), (own_on12 (by omega)).mpr (by omega), h.h2, ?_, ?_, own_onne (m := 0) (by omega) (by decide) (by omega)⟩
  · rw [own_onlt (by omega) (by omega)]
    omega
  · have z := own_onlt (n := 12) (m := nb) (by decide) (by omega)
    exact fun q => absurd (z.mp q) (by omega)
theorem own_trT {F E : List Int32} {na nb d : Nat} (h : TRM F na nb E) (hd : d + 1 ≤ 12 - nb) : ∃ j : Int32, Int32.ofNat (nb + (d + 1)) = j ∧ Int32.ofNat na < j ∧ ¬ (j - (1 : Int32)) < 0 ∧ (j - (1 : Int32)) < 12 ∧ ¬ wsF (((gI F (j - (1 : Int32))) &&& (255 : Int32)).toUInt32.toUInt16.toUInt32.toInt32) = 0 ∧ (j + (-1 : Int32)) = Int32.ofNat (nb + d) := by
  have a := h.le
  have b := h.lt
  refine ⟨_, rfl, (own_onlt (by omega) (by omega)).mpr (by omega), ?_⟩
  have e : (Int32.ofNat (nb + (d + 1)) + (-1 : Int32)) = Int32.ofNat (nb + d) := by
    apply Int32.toInt_inj.mp
    have c := c_iadd (Int32.ofNat (nb + (d + 1))) (-1)
    have r := rng32 (Int32.ofNat (nb + (d + 1)) + (-1))
    have d1 : (Int32.ofNat (nb + (d + 1))).toInt = ((nb + (d + 1) : Nat) : Int) := own_on (by omega)
    have d2 : (Int32.ofNat (nb + d)).toInt = ((nb + d : Nat) : Int) := own_on (by omega)
    rw [own_im1] at c
    omega
  rw [own_sub1 (by omega) (by omega)]
  exact ⟨own_on0 (by omega), (own_on12 (by omega)).mpr (by omega), h.ws2 _ (by omega) (by omega), e⟩
theorem own_trTO {F E : List Int32} {na nb : Nat} (h : TRM F na nb E) : (Int32.ofNat na + (Int32.ofNat nb - Int32.ofNat na)) = Int32.ofNat nb := by
  have a := h.le
  have b := h.lt
  rw [own_subN (by omega) (by omega), own_addN (by omega)]
  exact congrArg Int32.ofNat (by omega)
theorem own_trC {F E : List Int32} {na nb : Nat} (h : TRM F na nb E) : CPR (12 : Int32) (Int32.ofNat na) (Int32.ofNat na + (Int32.ofNat nb - Int32.ofNat na)) := by
  rw [own_trTO h]
  have a := own_trB h
  exact ⟨(own_trA h).1, a.2.2.2.2.1, a.2.2.2.2.2.1, by decide⟩
theorem own_trN {F E : List Int32} {na nb : Nat} (h : TRM F na nb E) (z : Int32.ofNat na = 0) : ¬ Int32.ofNat nb = 12 := by
  have a := h.le
  have b := h.lt
  have c := h.sm
  have e : na = 0 := Decidable.byContradiction fun q => own_onne (n := na) (m := 0) (by omega) (by decide) q z
  exact own_onne (m := 12) (by omega) (by decide) (by omega)
theorem own_trN2 {F E : List Int32} {na nb : Nat} (h : TRM F na nb E) (z : Int32.ofNat na = 0) : ¬ (Int32.ofNat na + (Int32.ofNat nb - Int32.ofNat na)) = 12 := by
  rw [own_trTO h]
  exact own_trN h z
theorem own_trE {F E : List Int32} {na nb : Nat} (h : TRM F na nb E) : cprL F (Int32.ofNat na) (Int32.ofNat na + (Int32.ofNat nb - Int32.ofNat na)) = lowL E := by
  have a := h.le
  have b := h.lt
  rw [own_trTO h]
  unfold cprL
  rw [own_subN (by omega) (by omega), own_onc (by omega), own_onc (by omega)]
  exact h.tk
theorem own_trn {F : List Int32} {na nb : Nat} {q nn k0 k1 k2 k3 : Int32} (h : TRM F na nb (encK q nn k0 k1 k2 k3)) : ((Int32.ofNat na + (Int32.ofNat nb - Int32.ofNat na)) - Int32.ofNat na) = lenK q nn k0 k1 k2 k3 := by
  have a := h.le
  have b := h.lt
  rw [own_trTO h, own_subN (by omega) (by omega)]
  unfold lenK
  rw [h.ln]
def own_eW (c q p : Int32) : List Int32 := if p = 0 then [] else if q = 0 then [c] else eK c
theorem own_eWl (c q p : Int32) : ((own_eW c q p).length : Int) = (wdF c q p).toInt := by
  unfold own_eW wdF eK
  split
  · rfl
  · split
    · rfl
    · split
      · rfl
      · rfl
def own_PS (wl : List Int32) (a : Nat) (E l : List Int32) : Prop := l = wl.take a ++ (E ++ wl.drop (a + E.length)) ∧ a + E.length ≤ 12
theorem own_PS0 {wl : List Int32} {a : Nat} (h : a ≤ 12) : own_PS wl a [] wl := by
  refine ⟨?_, h⟩
  rw [List.nil_append, List.length_nil, Nat.add_zero, List.take_append_drop]
theorem own_PSs {wl E l : List Int32} {a : Nat} {i c : Int32} (h : own_PS wl a E l) (hw : wl.length = 12) (hi : i.toInt = ((a + E.length : Nat) : Int)) (hb : a + E.length < 12) : own_PS wl a (E ++ [c]) (setI l i c) := by
  obtain ⟨h1, h2⟩ := h
  refine ⟨?_, by rw [List.length_append]; exact hb⟩
  unfold setI
  have e : i.toNatClampNeg = a + E.length := by
    unfold Int32.toNatClampNeg
    omega
  have e2 : (wl.take a ++ E).length = a + E.length := by
    rw [List.length_append, List.length_take]
    omega
  rw [h1, e, ← List.append_assoc, List.set_append_right _ _ (by omega), e2, Nat.sub_self]
  rw [List.drop_eq_getElem_cons (show a + E.length < wl.length by omega), List.set_cons_zero]
  rw [List.length_append, List.append_assoc, List.append_assoc]
  rfl
theorem own_PSp {wl E l : List Int32} {a : Nat} {i c q p : Int32} (h : own_PS wl a E l) (hw : wl.length = 12) (hi : i.toInt = ((a + E.length : Nat) : Int)) (hb : ((a + E.length : Nat) : Int) + (wdF c q p).toInt ≤ 12) :
    PB i (wdF c q p) ∧ own_PS wl a (E ++ own_eW c q p) (putF l i c q p) ∧ (i + wdF c q p).toInt = ((a + (E ++ own_eW c q p).length : Nat) : Int) := by
  have w := own_wdI c q p
  have wl2 := own_eWl c q p
  have ad := c_iadd i (wdF c q p)
  have r := rng32 (i + wdF c q p)
  refine ⟨⟨by rw [Int32.lt_iff_toInt_lt, own_i0]; omega, by omega⟩, ?_, by rw [List.length_append]; omega⟩
  clear ad r
  unfold putF own_eW
  unfold wdF at hb
  by_cases z1 : p = 0
  · rw [if_pos z1, if_pos z1, List.append_nil]
    exact h
  · rw [if_neg z1] at hb
    rw [if_neg z1, if_neg z1]
    by_cases z2 : q = 0
    · rw [if_pos z2, own_i1] at hb
      rw [if_pos z2, if_pos z2]
      exact own_PSs h hw hi (by omega)
    · rw [if_neg z2] at hb
      rw [if_neg z2, if_neg z2]
      unfold eK
      by_cases z3 : escF c = 0
      · rw [if_pos z3, own_i1] at hb
        rw [if_pos z3, if_pos z3]
        exact own_PSs h hw hi (by omega)
      · rw [if_neg z3, own_i2] at hb
        rw [if_neg z3, if_neg z3]
        have s := own_PSs (c := 92) h hw hi (by omega)
        have ad := c_iadd i 1
        have r := rng32 (i + 1)
        rw [own_i1] at ad
        have t := own_PSs (c := c) (i := i + 1) s hw (by rw [List.length_append]; simp only [List.length_cons, List.length_nil]; omega) (by rw [List.length_append]; simp only [List.length_cons, List.length_nil]; omega)
        rw [List.append_assoc] at t
        exact t
theorem own_wsW {c : Int32} (h : WSP c) : ¬ wsF c = 0 ∧ 0 ≤ c.toInt ∧ c.toInt < 128 := by
  rcases h with rfl | rfl <;> decide
theorem own_fin {wl E l : List Int32} {a : Nat} (h : own_PS wl a E l) (hw : wl.length = 12) (hs : ∀ x ∈ wl, WSP x) (hE : own_AS E) (h10 : E.length ≤ 10) (h1 : 1 ≤ E.length) (f0 : wsF (E.getD 0 0) = 0) (f9 : wsF (E.getD (E.length - 1) 0) = 0) : (∀ x ∈ l, ¬ x < 0 ∧ ¬ (255 : Int32) < x) ∧ TRI (lowL l) E := by
  obtain ⟨e, le⟩ := h
  have hA : own_AS l := by
    intro x hx
    rw [e] at hx
    rcases List.mem_append.mp hx with q | q
    · exact (own_wsW (hs x (List.mem_of_mem_take q))).2
    · rcases List.mem_append.mp q with q | q
      · exact hE x q
      · exact (own_wsW (hs x (List.mem_of_mem_drop q))).2
  refine ⟨fun x hx => ?_, a, a + E.length, ?_⟩
  · have z := hA x hx
    rw [Int32.lt_iff_toInt_lt, Int32.lt_iff_toInt_lt, own_i0, own_i255]
    omega
  have tl : (wl.take a).length = a := by
    rw [List.length_take]
    omega
  have g1 : ∀ i, i < a → ¬ wsF (l.getD i 0) = 0 := by
    intro i hi
    have z : l.getD i 0 = wl[i]'(by omega) := by
      rw [e, List.getD_eq_getElem?_getD, List.getElem?_append_left (by omega), List.getElem?_take_of_lt hi, List.getElem?_eq_getElem (by omega)]
      rfl
    rw [z]
    exact (own_wsW (hs _ (List.getElem_mem _))).1
  have g2 : ∀ i, i < E.length → l.getD (a + i) 0 = E.getD i 0 := by
    intro i hi
    rw [e, List.getD_eq_getElem?_getD, List.getElem?_append_right (by omega), tl, show a + i - a = i from by omega, List.getElem?_append_left hi, List.getD_eq_getElem?_getD]
  have g3 : ∀ i, a + E.length ≤ i → i < 12 → ¬ wsF (l.getD i 0) = 0 := by
    intro i hi hi2
    have z : l.getD i 0 = wl[i]'(by omega) := by
      rw [e, List.getD_eq_getElem?_getD, List.getElem?_append_right (by omega), tl, List.getElem?_append_right (by omega), List.getElem?_drop, show a + E.length + (i - a - E.length) = i from by omega, List.getElem?_eq_getElem (by omega)]
      rfl
    rw [z]
    exact (own_wsW (hs _ (List.getElem_mem _))).1
  have cc : ∀ i, i < 100 → (((gI (lowL l) (Int32.ofNat i)) &&& (255 : Int32)).toUInt32.toUInt16.toUInt32.toInt32) = l.getD i 0 := by
    intro i hi
    rw [own_chg hA, own_onc hi]
  refine ⟨by omega, le, by omega, ?_, ?_, ?_, ?_, ?_, by omega⟩
  · intro i hi
    rw [cc i (by omega)]
    exact g1 i hi
  · intro i hi hi2
    rw [cc i (by omega)]
    exact g3 i hi hi2
  · rw [cc a (by omega)]
    have z := g2 0 (by omega)
    rw [Nat.add_zero] at z
    rw [z]
    exact f0
  · rw [cc _ (by omega), show a + E.length - 1 = a + (E.length - 1) from by omega, g2 _ (by omega)]
    exact f9
  · rw [show a + E.length - a = E.length from by omega]
    unfold lowL
    rw [e, List.map_append, List.map_append]
    have t2 : (List.map (fun c : Int32 => c.toInt8.toInt32) (wl.take a)).length = a := by
      rw [List.length_map]
      exact tl
    rw [List.drop_left' t2]
    exact List.take_left' (List.length_map _)
theorem own_ENC {g nn k0 k1 k2 k3 : Int32} (h1 : ¬ nn < 1) (h5 : nn < 5) (c0 : KC k0) (c1 : KC k1) (c2 : KC k2) (c3 : KC k3) (hg : g = 1 ∨ (g = 0 ∧ PLs nn k0 k1 k2 k3)) : ENC g nn k0 k1 k2 k3 := by
  refine ⟨h1, h5, c0, c1, c2, c3, fun z => ?_⟩
  rcases hg with q | q
  · exact absurd (q.symm.trans z) (by decide)
  · exact q.2
theorem own_wsP {k : Int32} (h : KC k) (p : ¬ plF k = 0) : wsF k = 0 := by
  have a := own_pl32 p
  have b : ¬ k = 9 := by
    intro q
    rw [q] at h
    exact absurd h.1 (by decide)
  unfold wsF
  rw [if_neg a, if_neg b]
theorem own_plA {q nn k0 k1 k2 k3 : Int32} (h : ENC q nn k0 k1 k2 k3) (z : q = 0) : ∀ x ∈ cl4 nn k0 k1 k2 k3, wsF x = 0 := by
  have p0 := own_plk0 h z
  have p1 := own_plk1 h z
  have p2 := own_plk2 h z
  have p3 := own_plk3 h z
  have c0 := own_eK0 h
  have c1 := own_eK1 h
  have c2 := own_eK2 h
  have c3 := own_eK3 h
  rcases own_n14 h.1 h.2.1 with e | e | e | e
  · rw [e, own_cl4_1]
    simp [own_wsP c0 p0]
  · rw [e, own_cl4_2]
    simp [own_wsP c0 p0, own_wsP c1 (p1 (by rw [e]; decide))]
  · rw [e, own_cl4_3]
    simp [own_wsP c0 p0, own_wsP c1 (p1 (by rw [e]; decide)), own_wsP c2 (p2 (by rw [e]; decide))]
  · rw [e, own_cl4_4]
    simp [own_wsP c0 p0, own_wsP c1 (p1 (by rw [e]; decide)), own_wsP c2 (p2 (by rw [e]; decide)), own_wsP c3 (p3 (by rw [e]; decide))]
theorem own_eWs {q nn k0 k1 k2 k3 : Int32} (h : ENC q nn k0 k1 k2 k3) (f : Int32 → List Int32) (hf : ∀ k, own_eW k q 1 = f k) :
    (((own_eW k0 q 1 ++ own_eW k1 q (if nn < (2 : Int32) then (0 : Int32) else (1 : Int32))) ++ own_eW k2 q (if nn < (3 : Int32) then (0 : Int32) else (1 : Int32))) ++ own_eW k3 q (if nn < (4 : Int32) then (0 : Int32) else (1 : Int32))) = (cl4 nn k0 k1 k2 k3).flatMap f := by
  have z : ∀ k, own_eW k q 0 = [] := fun k => rfl
  rcases own_n14 h.1 h.2.1 with e | e | e | e
  · rw [e, own_cl4_1, if_pos (by decide), if_pos (by decide), if_pos (by decide), hf, z, z, z]
    simp
  · rw [e, own_cl4_2, if_neg (by decide), if_pos (by decide), if_pos (by decide), hf, hf, z, z]
    simp
  · rw [e, own_cl4_3, if_neg (by decide), if_neg (by decide), if_pos (by decide), hf, hf, hf, z]
    simp
  · rw [e, own_cl4_4, if_neg (by decide), if_neg (by decide), if_neg (by decide), hf, hf, hf, hf]
    simp
theorem own_bare {g nn k0 k1 k2 k3 : Int32} (h : ENC g nn k0 k1 k2 k3) (z : g = 0) : (((own_eW k0 g 1 ++ own_eW k1 g (if nn < (2 : Int32) then (0 : Int32) else (1 : Int32))) ++ own_eW k2 g (if nn < (3 : Int32) then (0 : Int32) else (1 : Int32))) ++ own_eW k3 g (if nn < (4 : Int32) then (0 : Int32) else (1 : Int32))) = encK g nn k0 k1 k2 k3 := by
  rw [own_eWs h (fun k => [k]) (fun k => by unfold own_eW; rw [if_neg (by decide), if_pos z]), own_encB z]
  rw [List.flatMap_singleton']
theorem own_quot {g nn k0 k1 k2 k3 : Int32} (h : ENC g nn k0 k1 k2 k3) (z : ¬ g = 0) : (([34] ++ own_eW k0 g 1 ++ own_eW k1 g (if nn < (2 : Int32) then (0 : Int32) else (1 : Int32)) ++ own_eW k2 g (if nn < (3 : Int32) then (0 : Int32) else (1 : Int32)) ++ own_eW k3 g (if nn < (4 : Int32) then (0 : Int32) else (1 : Int32))) ++ [34]) = encK g nn k0 k1 k2 k3 := by
  have a := own_eWs h eK (fun k => by unfold own_eW; rw [if_neg (by decide), if_neg z])
  rw [own_encQ z, ← a]
  simp only [List.append_assoc, List.cons_append, List.nil_append]
theorem own_roadB {ld us g nn k0 k1 k2 k3 : Int32} {wl : List Int32} (hus : us = (((((if g = (0 : Int32) then (0 : Int32) else (2 : Int32)) + (wdF k0 g (1 : Int32))) + (wdF k1 g (if nn < (2 : Int32) then (0 : Int32) else (1 : Int32)))) + (wdF k2 g (if nn < (3 : Int32) then (0 : Int32) else (1 : Int32)))) + (wdF k3 g (if nn < (4 : Int32) then (0 : Int32) else (1 : Int32))))) (hl0 : ¬ ld < 0) (hl1 : ld < ((13 : Int32) - us)) (hw : wl.length = 12) (hs : ∀ x ∈ wl, WSP x) (h : ENC g nn k0 k1 k2 k3) (z : g = 0) :
    PB ld (wdF k0 g 1) ∧ PB (ld + (wdF k0 g 1)) (wdF k1 g (if nn < (2 : Int32) then (0 : Int32) else (1 : Int32))) ∧ PB ((ld + (wdF k0 g 1)) + (wdF k1 g (if nn < (2 : Int32) then (0 : Int32) else (1 : Int32)))) (wdF k2 g (if nn < (3 : Int32) then (0 : Int32) else (1 : Int32))) ∧ PB (((ld + (wdF k0 g 1)) + (wdF k1 g (if nn < (2 : Int32) then (0 : Int32) else (1 : Int32)))) + (wdF k2 g (if nn < (3 : Int32) then (0 : Int32) else (1 : Int32)))) (wdF k3 g (if nn < (4 : Int32) then (0 : Int32) else (1 : Int32))) ∧
    (∀ x ∈ putF (putF (putF (putF wl ld k0 g 1) (ld + (wdF k0 g 1)) k1 g (if nn < (2 : Int32) then (0 : Int32) else (1 : Int32))) ((ld + (wdF k0 g 1)) + (wdF k1 g (if nn < (2 : Int32) then (0 : Int32) else (1 : Int32)))) k2 g (if nn < (3 : Int32) then (0 : Int32) else (1 : Int32))) (((ld + (wdF k0 g 1)) + (wdF k1 g (if nn < (2 : Int32) then (0 : Int32) else (1 : Int32)))) + (wdF k2 g (if nn < (3 : Int32) then (0 : Int32) else (1 : Int32)))) k3 g (if nn < (4 : Int32) then (0 : Int32) else (1 : Int32)), ¬ x < 0 ∧ ¬ (255 : Int32) < x) ∧
    TRI (lowL (putF (putF (putF (putF wl ld k0 g 1) (ld + (wdF k0 g 1)) k1 g (if nn < (2 : Int32) then (0 : Int32) else (1 : Int32))) ((ld + (wdF k0 g 1)) + (wdF k1 g (if nn < (2 : Int32) then (0 : Int32) else (1 : Int32)))) k2 g (if nn < (3 : Int32) then (0 : Int32) else (1 : Int32))) (((ld + (wdF k0 g 1)) + (wdF k1 g (if nn < (2 : Int32) then (0 : Int32) else (1 : Int32)))) + (wdF k2 g (if nn < (3 : Int32) then (0 : Int32) else (1 : Int32)))) k3 g (if nn < (4 : Int32) then (0 : Int32) else (1 : Int32)))) (encK g nn k0 k1 k2 k3) := by
  have u := own_us hus
  have s13 := own_s13 u.1 u.2
  have ui := own_usI hus
  rw [if_pos z] at ui
  have bare := own_bare h z
  have el := own_EL h
  have un := own_UN h
  have pa := own_plA h z
  have ae := own_ASE h
  have eB := own_encB (nn := nn) (k0 := k0) (k1 := k1) (k2 := k2) (k3 := k3) z
  rw [Int32.lt_iff_toInt_lt, own_i0] at hl0
  rw [Int32.lt_iff_toInt_lt, s13] at hl1
  generalize (if nn < (2 : Int32) then (0 : Int32) else (1 : Int32)) = p1 at *
  generalize (if nn < (3 : Int32) then (0 : Int32) else (1 : Int32)) = p2 at *
  generalize (if nn < (4 : Int32) then (0 : Int32) else (1 : Int32)) = p3 at *
  have w0 := own_wdI k0 g 1
  have w1 := own_wdI k1 g p1
  have w2 := own_wdI k2 g p2
  have w3 := own_wdI k3 g p3
  have v0 := own_eWl k0 g 1
  have v1 := own_eWl k1 g p1
  have v2 := own_eWl k2 g p2
  have v3 := own_eWl k3 g p3
  have a0 := own_PS0 (wl := wl) (a := ld.toInt.toNat) (by omega)
  have a1 := own_PSp (i := ld) (c := k0) (q := g) (p := 1) a0 hw (by rw [List.length_nil]; omega) (by rw [List.length_nil]; omega)
  have a2 := own_PSp (c := k1) (q := g) (p := p1) a1.2.1 hw a1.2.2 (by rw [List.length_append, List.length_nil]; omega)
  have a3 := own_PSp (c := k2) (q := g) (p := p2) a2.2.1 hw a2.2.2 (by rw [List.length_append, List.length_append, List.length_nil]; omega)
  have a4 := own_PSp (c := k3) (q := g) (p := p3) a3.2.1 hw a3.2.2 (by rw [List.length_append, List.length_append, List.length_append, List.length_nil]; omega)
  have b4 := a4.2.1
  rw [List.nil_append, bare] at b4
  refine ⟨a1.1, a2.1, a3.1, a4.1, ?_⟩
  have hm : ∀ i, i < (encK g nn k0 k1 k2 k3).length → wsF ((encK g nn k0 k1 k2 k3).getD i 0) = 0 := by
    intro i hi
    have e : (encK g nn k0 k1 k2 k3).getD i 0 = (encK g nn k0 k1 k2 k3)[i] := by
      rw [List.getD_eq_getElem?_getD, List.getElem?_eq_getElem hi]
      rfl
    rw [e]
    exact pa _ (by rw [← eB]; exact List.getElem_mem _)
  exact own_fin b4 hw hs ae el.2 (by omega) (hm 0 (by omega)) (hm _ (by omega))
theorem own_roadQ {ld us g nn k0 k1 k2 k3 : Int32} {wl : List Int32} (hus : us = (((((if g = (0 : Int32) then (0 : Int32) else (2 : Int32)) + (wdF k0 g (1 : Int32))) + (wdF k1 g (if nn < (2 : Int32) then (0 : Int32) else (1 : Int32)))) + (wdF k2 g (if nn < (3 : Int32) then (0 : Int32) else (1 : Int32)))) + (wdF k3 g (if nn < (4 : Int32) then (0 : Int32) else (1 : Int32))))) (hl0 : ¬ ld < 0) (hl1 : ld < ((13 : Int32) - us)) (hw : wl.length = 12) (hs : ∀ x ∈ wl, WSP x) (h : ENC g nn k0 k1 k2 k3) (z : ¬ g = 0) :
    ld < 12 ∧ PB (ld + 1) (wdF k0 g 1) ∧ PB ((ld + 1) + (wdF k0 g 1)) (wdF k1 g (if nn < (2 : Int32) then (0 : Int32) else (1 : Int32))) ∧ PB (((ld + 1) + (wdF k0 g 1)) + (wdF k1 g (if nn < (2 : Int32) then (0 : Int32) else (1 : Int32)))) (wdF k2 g (if nn < (3 : Int32) then (0 : Int32) else (1 : Int32))) ∧ PB ((((ld + 1) + (wdF k0 g 1)) + (wdF k1 g (if nn < (2 : Int32) then (0 : Int32) else (1 : Int32)))) + (wdF k2 g (if nn < (3 : Int32) then (0 : Int32) else (1 : Int32)))) (wdF k3 g (if nn < (4 : Int32) then (0 : Int32) else (1 : Int32))) ∧
    ¬ (((((ld + 1) + (wdF k0 g 1)) + (wdF k1 g (if nn < (2 : Int32) then (0 : Int32) else (1 : Int32)))) + (wdF k2 g (if nn < (3 : Int32) then (0 : Int32) else (1 : Int32)))) + (wdF k3 g (if nn < (4 : Int32) then (0 : Int32) else (1 : Int32)))) < 0 ∧ (((((ld + 1) + (wdF k0 g 1)) + (wdF k1 g (if nn < (2 : Int32) then (0 : Int32) else (1 : Int32)))) + (wdF k2 g (if nn < (3 : Int32) then (0 : Int32) else (1 : Int32)))) + (wdF k3 g (if nn < (4 : Int32) then (0 : Int32) else (1 : Int32)))) < 12 ∧
    (∀ x ∈ setI (putF (putF (putF (putF (setI wl ld 34) (ld + 1) k0 g 1) ((ld + 1) + (wdF k0 g 1)) k1 g (if nn < (2 : Int32) then (0 : Int32) else (1 : Int32))) (((ld + 1) + (wdF k0 g 1)) + (wdF k1 g (if nn < (2 : Int32) then (0 : Int32) else (1 : Int32)))) k2 g (if nn < (3 : Int32) then (0 : Int32) else (1 : Int32))) ((((ld + 1) + (wdF k0 g 1)) + (wdF k1 g (if nn < (2 : Int32) then (0 : Int32) else (1 : Int32)))) + (wdF k2 g (if nn < (3 : Int32) then (0 : Int32) else (1 : Int32)))) k3 g (if nn < (4 : Int32) then (0 : Int32) else (1 : Int32))) (((((ld + 1) + (wdF k0 g 1)) + (wdF k1 g (if nn < (2 : Int32) then (0 : Int32) else (1 : Int32)))) + (wdF k2 g (if nn < (3 : Int32) then (0 : Int32) else (1 : Int32)))) + (wdF k3 g (if nn < (4 : Int32) then (0 : Int32) else (1 : Int32)))) 34, ¬ x < 0 ∧ ¬ (255 : Int32) < x) ∧
    TRI (lowL (setI (putF (putF (putF (putF (setI wl ld 34) (ld + 1) k0 g 1) ((ld + 1) + (wdF k0 g 1)) k1 g (if nn < (2 : Int32) then (0 : Int32) else (1 : Int32))) (((ld + 1) + (wdF k0 g 1)) + (wdF k1 g (if nn < (2 : Int32) then (0 : Int32) else (1 : Int32)))) k2 g (if nn < (3 : Int32) then (0 : Int32) else (1 : Int32))) ((((ld + 1) + (wdF k0 g 1)) + (wdF k1 g (if nn < (2 : Int32) then (0 : Int32) else (1 : Int32)))) + (wdF k2 g (if nn < (3 : Int32) then (0 : Int32) else (1 : Int32)))) k3 g (if nn < (4 : Int32) then (0 : Int32) else (1 : Int32))) (((((ld + 1) + (wdF k0 g 1)) + (wdF k1 g (if nn < (2 : Int32) then (0 : Int32) else (1 : Int32)))) + (wdF k2 g (if nn < (3 : Int32) then (0 : Int32) else (1 : Int32)))) + (wdF k3 g (if nn < (4 : Int32) then (0 : Int32) else (1 : Int32)))) 34)) (encK g nn k0 k1 k2 k3) := by
  have u := own_us hus
  have s13 := own_s13 u.1 u.2
  have ui := own_usI hus
  rw [if_neg z] at ui
  have quot := own_quot h z
  have el := own_EL h
  have un := own_UN h
  have ae := own_ASE h
  have eQ := own_encQ (nn := nn) (k0 := k0) (k1 := k1) (k2 := k2) (k3 := k3) z
  rw [Int32.lt_iff_toInt_lt, own_i0] at hl0
  rw [Int32.lt_iff_toInt_lt, s13] at hl1
  generalize (if nn < (2 : Int32) then (0 : Int32) else (1 : Int32)) = p1 at *
  generalize (if nn < (3 : Int32) then (0 : Int32) else (1 : Int32)) = p2 at *
  generalize (if nn < (4 : Int32) then (0 : Int32) else (1 : Int32)) = p3 at *
  have w0 := own_wdI k0 g 1
  have w1 := own_wdI k1 g p1
  have w2 := own_wdI k2 g p2
  have w3 := own_wdI k3 g p3
  have v0 := own_eWl k0 g 1
  have v1 := own_eWl k1 g p1
  have v2 := own_eWl k2 g p2
  have v3 := own_eWl k3 g p3
  have ad := c_iadd ld 1
  have ar := rng32 (ld + 1)
  rw [own_i1] at ad
  have l1 : ([34] : List Int32).length = 1 := rfl
  have aa := own_PSs (i := ld) (c := 34) (own_PS0 (wl := wl) (a := ld.toInt.toNat) (by omega)) hw (by rw [List.length_nil]; omega) (by rw [List.length_nil]; omega)
  rw [List.nil_append] at aa
  have a1 := own_PSp (i := ld + 1) (c := k0) (q := g) (p := 1) aa hw (by rw [l1]; omega) (by rw [l1]; omega)
  have a2 := own_PSp (c := k1) (q := g) (p := p1) a1.2.1 hw a1.2.2 (by rw [List.length_append, l1]; omega)
  have a3 := own_PSp (c := k2) (q := g) (p := p2) a2.2.1 hw a2.2.2 (by rw [List.length_append, List.length_append, l1]; omega)
  have a4 := own_PSp (c := k3) (q := g) (p := p3) a3.2.1 hw a3.2.2 (by rw [List.length_append, List.length_append, List.length_append, l1]; omega)
  have e4 := a4.2.2
  have n4 : ld.toInt.toNat + ([34] ++ own_eW k0 g 1 ++ own_eW k1 g p1 ++ own_eW k2 g p2 ++ own_eW k3 g p3).length < 12 := by
    rw [List.length_append, List.length_append, List.length_append, List.length_append, l1]
    omega
  have b4 := own_PSs (c := 34) a4.2.1 hw e4 n4
  rw [quot] at b4
  refine ⟨by rw [Int32.lt_iff_toInt_lt, own_i12]; omega, a1.1, a2.1, a3.1, a4.1, by rw [Int32.lt_iff_toInt_lt, own_i0]; omega, by rw [Int32.lt_iff_toInt_lt, own_i12]; omega, ?_⟩
  have f9 : (encK g nn k0 k1 k2 k3).getD ((encK g nn k0 k1 k2 k3).length - 1) 0 = 34 := by
    rw [eQ]
    have t : (34 :: ((cl4 nn k0 k1 k2 k3).flatMap eK ++ [34])).length - 1 = 1 + ((cl4 nn k0 k1 k2 k3).flatMap eK).length + 0 := by
      rw [List.length_cons, List.length_append, l1]
      omega
    rw [t]
    exact own_mid _ [34] 0
  exact own_fin b4 hw hs ae el.2 (by omega) (by rw [eQ]; rfl) (by rw [f9]; rfl)
theorem own_fitc {x : Int32} (h : nar .char x = x) : fits .char (.int x) = true := by
  rw [← h]
  exact fits_nar_char x
theorem own_fitb {x : Int32} (h : nar .byte x = x) : fits .byte (.int x) = true := by
  rw [← h]
  exact fits_nar_byte x
theorem own_sto {Z : State} {h h' : Heap} {a : Addr} {k : ClassId} {ty : FieldType} {z j v : Int32} {l : List Int32} {dv : Value} {c : Cell} (A : Arr Z h a c ty) (q1 : c.cls = k) (S : c.slots.size = z.toNatClampNeg) (q3 : ¬ z < 0) (H : Has c (mI l) dv) (G : ∀ i, i < c.slots.size → fits ty ((mI l).getD i dv) = true) (hv : fits ty (.int v) = true) (W : Wr h h' a j.toNatClampNeg (.int v)) (hl : l.length = z.toNatClampNeg) (hin : ¬ (j < 0 ∨ c.slots.size ≤ j.toNatClampNeg)) : Arv Z h' a k ty z (mI (setI l j v)) dv := by
  have e : mI (setI l j v) = (mI l).set j.toNatClampNeg (.int v) := by
    unfold mI setI
    exact List.map_set
  rw [e]
  exact Arv.set A q1 S q3 H G hv W j.toNatClampNeg rfl (by
    unfold mI
    rw [List.length_map, hl, ← S]
    exact Nat.lt_of_not_le fun q => hin (Or.inr q))
abbrev DC (b : ByteArray) (p : Nat) (i : Instr) (n : Nat) : Prop := ∀ {c : Code}, c.code = b → decode c.code p = .ok (i, n)
abbrev WD (w : Jvm.Cond) : Prop := ∀ {Z : State} {a0 : Array Value}, (∀ d ∈ tables_1, d.before a0 Z = true) → w.before a0 Z = true
theorem own_wd (i : Nat) {w : Jvm.Cond} (h : tables_1[i]? = some w) {Z : State} {a0 : Array Value} (hw : ∀ d ∈ tables_1, d.before a0 Z = true) : w.before a0 Z = true := hw _ (List.mem_of_getElem? h)
abbrev yn_1 : MethodName := ⟨"com/example/seshat/seshat/IdempotencyKeyParsePinLaw", "keyChar", "(I)C"⟩
abbrev yn_2 : MethodName := ⟨"com/example/seshat/seshat/IdempotencyKeyParsePinLaw", "plain", "(C)Z"⟩
abbrev yn_3 : MethodName := ⟨"com/example/seshat/seshat/IdempotencyKeyParsePinLaw", "width", "(CZZ)I"⟩
abbrev yn_4 : MethodName := ⟨"com/example/seshat/seshat/IdempotencyKeyParsePinLaw", "escaped", "(C)Z"⟩
abbrev yn_5 : MethodName := ⟨"com/example/seshat/seshat/IdempotencyKeyParsePinLaw", "wsChar", "(II)C"⟩
abbrev yn_6 : MethodName := ⟨"com/example/seshat/seshat/IdempotencyKeyParsePinLaw", "put", "([CICZZ)I"⟩
abbrev yn_7 : MethodName := ⟨"java/lang/String", "<init>", "([C)V"⟩
abbrev yn_13 : MethodName := ⟨"com/example/seshat/seshat/IdempotencyKey", "parse", "(Ljava/lang/String;)Lcom/example/seshat/seshat/IdempotencyKey;"⟩
abbrev yn_14 : MethodName := ⟨"java/util/Objects", "requireNonNull", "(Ljava/lang/Object;Ljava/lang/String;)Ljava/lang/Object;"⟩
abbrev yn_15 : MethodName := ⟨"com/example/seshat/seshat/IdempotencyKey", "trimWhitespace", "(Ljava/lang/String;)Ljava/lang/String;"⟩
abbrev yn_16 : MethodName := ⟨"java/lang/String", "length", "()I"⟩
abbrev yn_17 : MethodName := ⟨"java/lang/String", "coder", "()B"⟩
abbrev yn_18 : MethodName := ⟨"java/lang/String", "charAt", "(I)C"⟩
abbrev yn_19 : MethodName := ⟨"java/lang/String", "isLatin1", "()Z"⟩
abbrev yn_20 : MethodName := ⟨"java/lang/StringLatin1", "charAt", "([BI)C"⟩
abbrev yn_21 : MethodName := ⟨"java/lang/String", "checkIndex", "(II)V"⟩
abbrev yn_22 : MethodName := ⟨"jdk/internal/util/Preconditions", "checkIndex", "(IILjava/util/function/BiFunction;)I"⟩
abbrev yn_23 : MethodName := ⟨"com/example/seshat/seshat/IdempotencyKey", "isWhitespace", "(C)Z"⟩
abbrev yn_24 : MethodName := ⟨"java/lang/String", "substring", "(II)Ljava/lang/String;"⟩
abbrev yn_25 : MethodName := ⟨"java/lang/String", "checkBoundsBeginEnd", "(III)V"⟩
abbrev yn_26 : MethodName := ⟨"jdk/internal/util/Preconditions", "checkFromToIndex", "(IIILjava/util/function/BiFunction;)I"⟩
abbrev yn_27 : MethodName := ⟨"java/lang/StringLatin1", "newString", "([BII)Ljava/lang/String;"⟩
abbrev yn_28 : MethodName := ⟨"java/util/Arrays", "copyOfRange", "([BII)[B"⟩
abbrev yn_29 : MethodName := ⟨"java/util/Arrays", "copyOfRangeByte", "([BII)[B"⟩
abbrev yn_30 : MethodName := ⟨"java/util/Arrays", "checkLength", "(II)V"⟩
abbrev yn_31 : MethodName := ⟨"java/lang/Math", "min", "(II)I"⟩
abbrev yn_32 : MethodName := ⟨"java/lang/String", "<init>", "([BB)V"⟩
abbrev yn_33 : MethodName := ⟨"java/lang/String", "startsWith", "(Ljava/lang/String;)Z"⟩
abbrev yn_34 : MethodName := ⟨"java/lang/String", "startsWith", "(Ljava/lang/String;I)Z"⟩
abbrev yn_35 : MethodName := ⟨"jdk/internal/util/ArraysSupport", "mismatch", "([BI[BII)I"⟩
abbrev yn_36 : MethodName := ⟨"com/example/seshat/seshat/IdempotencyKey", "unquote", "(Ljava/lang/String;)Ljava/lang/String;"⟩
abbrev yn_37 : MethodName := ⟨"java/lang/StringBuilder", "<init>", "(I)V"⟩
abbrev yn_38 : MethodName := ⟨"java/lang/AbstractStringBuilder", "<init>", "(I)V"⟩
abbrev yn_39 : MethodName := ⟨"java/lang/StringBuilder", "append", "(C)Ljava/lang/StringBuilder;"⟩
abbrev yn_40 : MethodName := ⟨"java/lang/AbstractStringBuilder", "append", "(C)Ljava/lang/AbstractStringBuilder;"⟩
abbrev yn_41 : MethodName := ⟨"java/lang/AbstractStringBuilder", "ensureCapacityInternal", "(I)V"⟩
abbrev yn_42 : MethodName := ⟨"java/lang/AbstractStringBuilder", "isLatin1", "()Z"⟩
abbrev yn_43 : MethodName := ⟨"java/lang/StringLatin1", "canEncode", "(C)Z"⟩
abbrev yn_44 : MethodName := ⟨"java/lang/StringBuilder", "toString", "()Ljava/lang/String;"⟩
abbrev yn_45 : MethodName := ⟨"java/lang/String", "<init>", "(Ljava/lang/StringBuilder;)V"⟩
abbrev yn_46 : MethodName := ⟨"java/lang/String", "<init>", "(Ljava/lang/AbstractStringBuilder;Ljava/lang/Void;)V"⟩
abbrev yn_47 : MethodName := ⟨"java/lang/AbstractStringBuilder", "getValue", "()[B"⟩
abbrev yn_48 : MethodName := ⟨"java/lang/StringBuilder", "length", "()I"⟩
abbrev yn_49 : MethodName := ⟨"java/lang/AbstractStringBuilder", "length", "()I"⟩
abbrev yn_50 : MethodName := ⟨"com/example/seshat/seshat/IdempotencyKey", "<init>", "(Ljava/lang/String;)V"⟩
abbrev yn_51 : MethodName := ⟨"java/lang/Record", "<init>", "()V"⟩
abbrev yn_52 : MethodName := ⟨"java/lang/String", "isEmpty", "()Z"⟩
abbrev yn_53 : MethodName := ⟨"com/example/seshat/seshat/IdempotencyKey", "value", "()Ljava/lang/String;"⟩
abbrev yn_54 : MethodName := ⟨"java/lang/String", "equals", "(Ljava/lang/Object;)Z"⟩
abbrev yn_55 : MethodName := ⟨"java/lang/StringLatin1", "equals", "([B[B)Z"⟩
abbrev yn_56 : MethodName := ⟨"com/example/seshat/seshat/IdempotencyKey", "checkBare", "(Ljava/lang/String;)Ljava/lang/String;"⟩
abbrev yn_57 : MethodName := ⟨"com/example/seshat/seshat/IdempotencyKey", "isEscapable", "(C)Z"⟩
abbrev D31 := DC jdk_29_method_69_code
theorem d31_0 : D31 0 (.iload_n 0) 1 := fun h => hb h (by decide +kernel)
theorem d31_1 : D31 1 (.iload_n 1) 1 := fun h => hb h (by decide +kernel)
theorem d31_2 : D31 2 (.if_icmp .gt 7) 3 := fun h => hb h (by decide +kernel)
theorem d31_5 : D31 5 (.iload_n 0) 1 := fun h => hb h (by decide +kernel)
theorem d31_6 : D31 6 (.goto 4) 3 := fun h => hb h (by decide +kernel)
theorem d31_9 : D31 9 (.iload_n 1) 1 := fun h => hb h (by decide +kernel)
theorem d31_10 : D31 10 (.ireturn) 1 := fun h => hb h (by decide +kernel)
abbrev D51 := DC jdk_30_method_1_code
theorem d51_0 : D51 0 (.aload_n 0) 1 := fun h => hb h (by decide +kernel)
theorem d51_1 : D51 1 (.invokespecial 1) 3 := fun h => hb h (by decide +kernel)
theorem d51_4 : D51 4 (.return_) 1 := fun h => hb h (by decide +kernel)
abbrev D14 := DC jdk_31_method_11_code
theorem d14_0 : D14 0 (.aload_n 0) 1 := fun h => hb h (by decide +kernel)
theorem d14_1 : D14 1 (.ifnonnull 12) 3 := fun h => hb h (by decide +kernel)
theorem d14_13 : D14 13 (.aload_n 0) 1 := fun h => hb h (by decide +kernel)
theorem d14_14 : D14 14 (.areturn) 1 := fun h => hb h (by decide +kernel)
abbrev D22 := DC jdk_41_method_11_code
theorem d22_0 : D22 0 (.iload_n 0) 1 := fun h => hb h (by decide +kernel)
theorem d22_1 : D22 1 (.ifCond .lt 8) 3 := fun h => hb h (by decide +kernel)
theorem d22_4 : D22 4 (.iload_n 0) 1 := fun h => hb h (by decide +kernel)
theorem d22_5 : D22 5 (.iload_n 1) 1 := fun h => hb h (by decide +kernel)
theorem d22_6 : D22 6 (.if_icmp .lt 10) 3 := fun h => hb h (by decide +kernel)
theorem d22_16 : D22 16 (.iload_n 0) 1 := fun h => hb h (by decide +kernel)
theorem d22_17 : D22 17 (.ireturn) 1 := fun h => hb h (by decide +kernel)
abbrev D26 := DC jdk_41_method_12_code
theorem d26_0 : D26 0 (.iload_n 0) 1 := fun h => hb h (by decide +kernel)
theorem d26_1 : D26 1 (.ifCond .lt 13) 3 := fun h => hb h (by decide +kernel)
theorem d26_4 : D26 4 (.iload_n 0) 1 := fun h => hb h (by decide +kernel)
theorem d26_5 : D26 5 (.iload_n 1) 1 := fun h => hb h (by decide +kernel)
theorem d26_6 : D26 6 (.if_icmp .gt 8) 3 := fun h => hb h (by decide +kernel)
theorem d26_9 : D26 9 (.iload_n 1) 1 := fun h => hb h (by decide +kernel)
theorem d26_10 : D26 10 (.iload_n 2) 1 := fun h => hb h (by decide +kernel)
theorem d26_11 : D26 11 (.if_icmp .le 11) 3 := fun h => hb h (by decide +kernel)
theorem d26_22 : D26 22 (.iload_n 0) 1 := fun h => hb h (by decide +kernel)
theorem d26_23 : D26 23 (.ireturn) 1 := fun h => hb h (by decide +kernel)
abbrev D46 := DC jdk_42_method_150_code
theorem d46_0 : D46 0 (.aload_n 0) 1 := fun h => hb h (by decide +kernel)
theorem d46_1 : D46 1 (.invokespecial 1) 3 := fun h => hb h (by decide +kernel)
theorem d46_4 : D46 4 (.aload_n 1) 1 := fun h => hb h (by decide +kernel)
theorem d46_5 : D46 5 (.invokevirtual 552) 3 := fun h => hb h (by decide +kernel)
theorem d46_8 : D46 8 (.astore_n 3) 1 := fun h => hb h (by decide +kernel)
theorem d46_9 : D46 9 (.aload_n 1) 1 := fun h => hb h (by decide +kernel)
theorem d46_10 : D46 10 (.invokevirtual 549) 3 := fun h => hb h (by decide +kernel)
theorem d46_13 : D46 13 (.istore 4) 2 := fun h => hb h (by decide +kernel)
theorem d46_15 : D46 15 (.aload_n 1) 1 := fun h => hb h (by decide +kernel)
theorem d46_16 : D46 16 (.invokevirtual 1047) 3 := fun h => hb h (by decide +kernel)
theorem d46_19 : D46 19 (.ifCond .eq 22) 3 := fun h => hb h (by decide +kernel)
theorem d46_22 : D46 22 (.aload_n 0) 1 := fun h => hb h (by decide +kernel)
theorem d46_23 : D46 23 (.iconst 0) 1 := fun h => hb h (by decide +kernel)
theorem d46_24 : D46 24 (.putfield 15) 3 := fun h => hb h (by decide +kernel)
theorem d46_27 : D46 27 (.aload_n 0) 1 := fun h => hb h (by decide +kernel)
theorem d46_28 : D46 28 (.aload_n 3) 1 := fun h => hb h (by decide +kernel)
theorem d46_29 : D46 29 (.iconst 0) 1 := fun h => hb h (by decide +kernel)
theorem d46_30 : D46 30 (.iload 4) 2 := fun h => hb h (by decide +kernel)
theorem d46_32 : D46 32 (.invokestatic 54) 3 := fun h => hb h (by decide +kernel)
theorem d46_35 : D46 35 (.putfield 9) 3 := fun h => hb h (by decide +kernel)
theorem d46_38 : D46 38 (.goto 59) 3 := fun h => hb h (by decide +kernel)
theorem d46_97 : D46 97 (.return_) 1 := fun h => hb h (by decide +kernel)
abbrev D32 := DC jdk_42_method_151_code
theorem d32_0 : D32 0 (.aload_n 0) 1 := fun h => hb h (by decide +kernel)
theorem d32_1 : D32 1 (.invokespecial 1) 3 := fun h => hb h (by decide +kernel)
theorem d32_4 : D32 4 (.aload_n 0) 1 := fun h => hb h (by decide +kernel)
theorem d32_5 : D32 5 (.aload_n 1) 1 := fun h => hb h (by decide +kernel)
theorem d32_6 : D32 6 (.putfield 9) 3 := fun h => hb h (by decide +kernel)
theorem d32_9 : D32 9 (.aload_n 0) 1 := fun h => hb h (by decide +kernel)
theorem d32_10 : D32 10 (.iload_n 2) 1 := fun h => hb h (by decide +kernel)
theorem d32_11 : D32 11 (.putfield 15) 3 := fun h => hb h (by decide +kernel)
theorem d32_14 : D32 14 (.return_) 1 := fun h => hb h (by decide +kernel)
abbrev D17 := DC jdk_42_method_152_code
theorem d17_0 : D17 0 (.getstatic 38) 3 := fun h => hb h (by decide +kernel)
theorem d17_3 : D17 3 (.ifCond .eq 10) 3 := fun h => hb h (by decide +kernel)
theorem d17_6 : D17 6 (.aload_n 0) 1 := fun h => hb h (by decide +kernel)
theorem d17_7 : D17 7 (.getfield 15) 3 := fun h => hb h (by decide +kernel)
theorem d17_10 : D17 10 (.goto 4) 3 := fun h => hb h (by decide +kernel)
theorem d17_14 : D17 14 (.ireturn) 1 := fun h => hb h (by decide +kernel)
abbrev D19 := DC jdk_42_method_154_code
theorem d19_0 : D19 0 (.getstatic 38) 3 := fun h => hb h (by decide +kernel)
theorem d19_3 : D19 3 (.ifCond .eq 14) 3 := fun h => hb h (by decide +kernel)
theorem d19_6 : D19 6 (.aload_n 0) 1 := fun h => hb h (by decide +kernel)
theorem d19_7 : D19 7 (.getfield 15) 3 := fun h => hb h (by decide +kernel)
theorem d19_10 : D19 10 (.ifCond .ne 7) 3 := fun h => hb h (by decide +kernel)
theorem d19_13 : D19 13 (.iconst 1) 1 := fun h => hb h (by decide +kernel)
theorem d19_14 : D19 14 (.goto 4) 3 := fun h => hb h (by decide +kernel)
theorem d19_18 : D19 18 (.ireturn) 1 := fun h => hb h (by decide +kernel)
abbrev D21 := DC jdk_42_method_155_code
theorem d21_0 : D21 0 (.iload_n 0) 1 := fun h => hb h (by decide +kernel)
theorem d21_1 : D21 1 (.iload_n 1) 1 := fun h => hb h (by decide +kernel)
theorem d21_2 : D21 2 (.getstatic 1053) 3 := fun h => hb h (by decide +kernel)
theorem d21_5 : D21 5 (.invokestatic 1059) 3 := fun h => hb h (by decide +kernel)
theorem d21_8 : D21 8 (.pop) 1 := fun h => hb h (by decide +kernel)
theorem d21_9 : D21 9 (.return_) 1 := fun h => hb h (by decide +kernel)
abbrev D25 := DC jdk_42_method_158_code
theorem d25_0 : D25 0 (.iload_n 0) 1 := fun h => hb h (by decide +kernel)
theorem d25_1 : D25 1 (.iload_n 1) 1 := fun h => hb h (by decide +kernel)
theorem d25_2 : D25 2 (.iload_n 2) 1 := fun h => hb h (by decide +kernel)
theorem d25_3 : D25 3 (.getstatic 1053) 3 := fun h => hb h (by decide +kernel)
theorem d25_6 : D25 6 (.invokestatic 1062) 3 := fun h => hb h (by decide +kernel)
theorem d25_9 : D25 9 (.pop) 1 := fun h => hb h (by decide +kernel)
theorem d25_10 : D25 10 (.return_) 1 := fun h => hb h (by decide +kernel)
abbrev D45 := DC jdk_42_method_53_code
theorem d45_0 : D45 0 (.aload_n 0) 1 := fun h => hb h (by decide +kernel)
theorem d45_1 : D45 1 (.aload_n 1) 1 := fun h => hb h (by decide +kernel)
theorem d45_2 : D45 2 (.aconst_null) 1 := fun h => hb h (by decide +kernel)
theorem d45_3 : D45 3 (.invokespecial 489) 3 := fun h => hb h (by decide +kernel)
theorem d45_6 : D45 6 (.return_) 1 := fun h => hb h (by decide +kernel)
abbrev D16 := DC jdk_42_method_54_code
theorem d16_0 : D16 0 (.aload_n 0) 1 := fun h => hb h (by decide +kernel)
theorem d16_1 : D16 1 (.getfield 9) 3 := fun h => hb h (by decide +kernel)
theorem d16_4 : D16 4 (.arraylength) 1 := fun h => hb h (by decide +kernel)
theorem d16_5 : D16 5 (.aload_n 0) 1 := fun h => hb h (by decide +kernel)
theorem d16_6 : D16 6 (.invokevirtual 335) 3 := fun h => hb h (by decide +kernel)
theorem d16_9 : D16 9 (.ishr) 1 := fun h => hb h (by decide +kernel)
theorem d16_10 : D16 10 (.ireturn) 1 := fun h => hb h (by decide +kernel)
abbrev D52 := DC jdk_42_method_55_code
theorem d52_0 : D52 0 (.aload_n 0) 1 := fun h => hb h (by decide +kernel)
theorem d52_1 : D52 1 (.getfield 9) 3 := fun h => hb h (by decide +kernel)
theorem d52_4 : D52 4 (.arraylength) 1 := fun h => hb h (by decide +kernel)
theorem d52_5 : D52 5 (.ifCond .ne 7) 3 := fun h => hb h (by decide +kernel)
theorem d52_12 : D52 12 (.iconst 0) 1 := fun h => hb h (by decide +kernel)
theorem d52_13 : D52 13 (.ireturn) 1 := fun h => hb h (by decide +kernel)
abbrev D18 := DC jdk_42_method_56_code
theorem d18_0 : D18 0 (.aload_n 0) 1 := fun h => hb h (by decide +kernel)
theorem d18_1 : D18 1 (.invokevirtual 492) 3 := fun h => hb h (by decide +kernel)
theorem d18_4 : D18 4 (.ifCond .eq 12) 3 := fun h => hb h (by decide +kernel)
theorem d18_7 : D18 7 (.aload_n 0) 1 := fun h => hb h (by decide +kernel)
theorem d18_8 : D18 8 (.getfield 9) 3 := fun h => hb h (by decide +kernel)
theorem d18_11 : D18 11 (.iload_n 1) 1 := fun h => hb h (by decide +kernel)
theorem d18_12 : D18 12 (.invokestatic 495) 3 := fun h => hb h (by decide +kernel)
theorem d18_15 : D18 15 (.ireturn) 1 := fun h => hb h (by decide +kernel)
abbrev D54 := DC jdk_42_method_66_code
theorem d54_0 : D54 0 (.aload_n 0) 1 := fun h => hb h (by decide +kernel)
theorem d54_1 : D54 1 (.aload_n 1) 1 := fun h => hb h (by decide +kernel)
theorem d54_2 : D54 2 (.if_acmp .ne 5) 3 := fun h => hb h (by decide +kernel)
theorem d54_7 : D54 7 (.aload_n 1) 1 := fun h => hb h (by decide +kernel)
theorem d54_8 : D54 8 (.instanceof 10) 3 := fun h => hb h (by decide +kernel)
theorem d54_11 : D54 11 (.ifCond .eq 43) 3 := fun h => hb h (by decide +kernel)
theorem d54_14 : D54 14 (.aload_n 1) 1 := fun h => hb h (by decide +kernel)
theorem d54_15 : D54 15 (.checkcast 10) 3 := fun h => hb h (by decide +kernel)
theorem d54_18 : D54 18 (.astore_n 2) 1 := fun h => hb h (by decide +kernel)
theorem d54_19 : D54 19 (.getstatic 38) 3 := fun h => hb h (by decide +kernel)
theorem d54_22 : D54 22 (.ifCond .eq 14) 3 := fun h => hb h (by decide +kernel)
theorem d54_25 : D54 25 (.aload_n 0) 1 := fun h => hb h (by decide +kernel)
theorem d54_26 : D54 26 (.getfield 15) 3 := fun h => hb h (by decide +kernel)
theorem d54_29 : D54 29 (.aload_n 2) 1 := fun h => hb h (by decide +kernel)
theorem d54_30 : D54 30 (.getfield 15) 3 := fun h => hb h (by decide +kernel)
theorem d54_33 : D54 33 (.if_icmp .ne 21) 3 := fun h => hb h (by decide +kernel)
theorem d54_36 : D54 36 (.aload_n 0) 1 := fun h => hb h (by decide +kernel)
theorem d54_37 : D54 37 (.getfield 9) 3 := fun h => hb h (by decide +kernel)
theorem d54_40 : D54 40 (.aload_n 2) 1 := fun h => hb h (by decide +kernel)
theorem d54_41 : D54 41 (.getfield 9) 3 := fun h => hb h (by decide +kernel)
theorem d54_44 : D54 44 (.invokestatic 541) 3 := fun h => hb h (by decide +kernel)
theorem d54_47 : D54 47 (.ifCond .eq 7) 3 := fun h => hb h (by decide +kernel)
theorem d54_50 : D54 50 (.iconst 1) 1 := fun h => hb h (by decide +kernel)
theorem d54_51 : D54 51 (.goto 4) 3 := fun h => hb h (by decide +kernel)
theorem d54_55 : D54 55 (.ireturn) 1 := fun h => hb h (by decide +kernel)
abbrev D34 := DC jdk_42_method_75_code
theorem d34_0 : D34 0 (.iload_n 2) 1 := fun h => hb h (by decide +kernel)
theorem d34_1 : D34 1 (.ifCond .lt 16) 3 := fun h => hb h (by decide +kernel)
theorem d34_4 : D34 4 (.iload_n 2) 1 := fun h => hb h (by decide +kernel)
theorem d34_5 : D34 5 (.aload_n 0) 1 := fun h => hb h (by decide +kernel)
theorem d34_6 : D34 6 (.invokevirtual 505) 3 := fun h => hb h (by decide +kernel)
theorem d34_9 : D34 9 (.aload_n 1) 1 := fun h => hb h (by decide +kernel)
theorem d34_10 : D34 10 (.invokevirtual 505) 3 := fun h => hb h (by decide +kernel)
theorem d34_13 : D34 13 (.isub) 1 := fun h => hb h (by decide +kernel)
theorem d34_14 : D34 14 (.if_icmp .le 5) 3 := fun h => hb h (by decide +kernel)
theorem d34_19 : D34 19 (.aload_n 0) 1 := fun h => hb h (by decide +kernel)
theorem d34_20 : D34 20 (.getfield 9) 3 := fun h => hb h (by decide +kernel)
theorem d34_23 : D34 23 (.astore_n 3) 1 := fun h => hb h (by decide +kernel)
theorem d34_24 : D34 24 (.aload_n 1) 1 := fun h => hb h (by decide +kernel)
theorem d34_25 : D34 25 (.getfield 9) 3 := fun h => hb h (by decide +kernel)
theorem d34_28 : D34 28 (.astore 4) 2 := fun h => hb h (by decide +kernel)
theorem d34_30 : D34 30 (.iconst 0) 1 := fun h => hb h (by decide +kernel)
theorem d34_31 : D34 31 (.istore 5) 2 := fun h => hb h (by decide +kernel)
theorem d34_33 : D34 33 (.aload 4) 2 := fun h => hb h (by decide +kernel)
theorem d34_35 : D34 35 (.arraylength) 1 := fun h => hb h (by decide +kernel)
theorem d34_36 : D34 36 (.istore 6) 2 := fun h => hb h (by decide +kernel)
theorem d34_38 : D34 38 (.aload_n 0) 1 := fun h => hb h (by decide +kernel)
theorem d34_39 : D34 39 (.invokevirtual 335) 3 := fun h => hb h (by decide +kernel)
theorem d34_42 : D34 42 (.istore 7) 2 := fun h => hb h (by decide +kernel)
theorem d34_44 : D34 44 (.iload 7) 2 := fun h => hb h (by decide +kernel)
theorem d34_46 : D34 46 (.aload_n 1) 1 := fun h => hb h (by decide +kernel)
theorem d34_47 : D34 47 (.invokevirtual 335) 3 := fun h => hb h (by decide +kernel)
theorem d34_50 : D34 50 (.if_icmp .ne 32) 3 := fun h => hb h (by decide +kernel)
theorem d34_53 : D34 53 (.iload 7) 2 := fun h => hb h (by decide +kernel)
theorem d34_55 : D34 55 (.iconst 1) 1 := fun h => hb h (by decide +kernel)
theorem d34_56 : D34 56 (.if_icmp .ne 7) 3 := fun h => hb h (by decide +kernel)
theorem d34_63 : D34 63 (.aload_n 3) 1 := fun h => hb h (by decide +kernel)
theorem d34_64 : D34 64 (.iload_n 2) 1 := fun h => hb h (by decide +kernel)
theorem d34_65 : D34 65 (.aload 4) 2 := fun h => hb h (by decide +kernel)
theorem d34_67 : D34 67 (.iconst 0) 1 := fun h => hb h (by decide +kernel)
theorem d34_68 : D34 68 (.iload 6) 2 := fun h => hb h (by decide +kernel)
theorem d34_70 : D34 70 (.invokestatic 607) 3 := fun h => hb h (by decide +kernel)
theorem d34_73 : D34 73 (.ifCond .ge 7) 3 := fun h => hb h (by decide +kernel)
theorem d34_76 : D34 76 (.iconst 1) 1 := fun h => hb h (by decide +kernel)
theorem d34_77 : D34 77 (.goto 4) 3 := fun h => hb h (by decide +kernel)
theorem d34_80 : D34 80 (.iconst 0) 1 := fun h => hb h (by decide +kernel)
theorem d34_81 : D34 81 (.ireturn) 1 := fun h => hb h (by decide +kernel)
abbrev D33 := DC jdk_42_method_76_code
theorem d33_0 : D33 0 (.aload_n 0) 1 := fun h => hb h (by decide +kernel)
theorem d33_1 : D33 1 (.aload_n 1) 1 := fun h => hb h (by decide +kernel)
theorem d33_2 : D33 2 (.iconst 0) 1 := fun h => hb h (by decide +kernel)
theorem d33_3 : D33 3 (.invokevirtual 624) 3 := fun h => hb h (by decide +kernel)
theorem d33_6 : D33 6 (.ireturn) 1 := fun h => hb h (by decide +kernel)
abbrev D24 := DC jdk_42_method_92_code
theorem d24_0 : D24 0 (.aload_n 0) 1 := fun h => hb h (by decide +kernel)
theorem d24_1 : D24 1 (.invokevirtual 505) 3 := fun h => hb h (by decide +kernel)
theorem d24_4 : D24 4 (.istore_n 3) 1 := fun h => hb h (by decide +kernel)
theorem d24_5 : D24 5 (.iload_n 1) 1 := fun h => hb h (by decide +kernel)
theorem d24_6 : D24 6 (.iload_n 2) 1 := fun h => hb h (by decide +kernel)
theorem d24_7 : D24 7 (.iload_n 3) 1 := fun h => hb h (by decide +kernel)
theorem d24_8 : D24 8 (.invokestatic 521) 3 := fun h => hb h (by decide +kernel)
theorem d24_11 : D24 11 (.iload_n 1) 1 := fun h => hb h (by decide +kernel)
theorem d24_12 : D24 12 (.ifCond .ne 10) 3 := fun h => hb h (by decide +kernel)
theorem d24_15 : D24 15 (.iload_n 2) 1 := fun h => hb h (by decide +kernel)
theorem d24_16 : D24 16 (.iload_n 3) 1 := fun h => hb h (by decide +kernel)
theorem d24_17 : D24 17 (.if_icmp .ne 5) 3 := fun h => hb h (by decide +kernel)
theorem d24_22 : D24 22 (.iload_n 2) 1 := fun h => hb h (by decide +kernel)
theorem d24_23 : D24 23 (.iload_n 1) 1 := fun h => hb h (by decide +kernel)
theorem d24_24 : D24 24 (.isub) 1 := fun h => hb h (by decide +kernel)
theorem d24_25 : D24 25 (.istore 4) 2 := fun h => hb h (by decide +kernel)
theorem d24_27 : D24 27 (.aload_n 0) 1 := fun h => hb h (by decide +kernel)
theorem d24_28 : D24 28 (.invokevirtual 492) 3 := fun h => hb h (by decide +kernel)
theorem d24_31 : D24 31 (.ifCond .eq 16) 3 := fun h => hb h (by decide +kernel)
theorem d24_34 : D24 34 (.aload_n 0) 1 := fun h => hb h (by decide +kernel)
theorem d24_35 : D24 35 (.getfield 9) 3 := fun h => hb h (by decide +kernel)
theorem d24_38 : D24 38 (.iload_n 1) 1 := fun h => hb h (by decide +kernel)
theorem d24_39 : D24 39 (.iload 4) 2 := fun h => hb h (by decide +kernel)
theorem d24_41 : D24 41 (.invokestatic 685) 3 := fun h => hb h (by decide +kernel)
theorem d24_44 : D24 44 (.goto 13) 3 := fun h => hb h (by decide +kernel)
theorem d24_57 : D24 57 (.areturn) 1 := fun h => hb h (by decide +kernel)
abbrev D55 := DC jdk_43_method_13_code
theorem d55_0 : D55 0 (.aload_n 0) 1 := fun h => hb h (by decide +kernel)
theorem d55_1 : D55 1 (.arraylength) 1 := fun h => hb h (by decide +kernel)
theorem d55_2 : D55 2 (.aload_n 1) 1 := fun h => hb h (by decide +kernel)
theorem d55_3 : D55 3 (.arraylength) 1 := fun h => hb h (by decide +kernel)
theorem d55_4 : D55 4 (.if_icmp .ne 30) 3 := fun h => hb h (by decide +kernel)
theorem d55_7 : D55 7 (.iconst 0) 1 := fun h => hb h (by decide +kernel)
theorem d55_8 : D55 8 (.istore_n 2) 1 := fun h => hb h (by decide +kernel)
theorem d55_9 : D55 9 (.iload_n 2) 1 := fun h => hb h (by decide +kernel)
theorem d55_10 : D55 10 (.aload_n 0) 1 := fun h => hb h (by decide +kernel)
theorem d55_11 : D55 11 (.arraylength) 1 := fun h => hb h (by decide +kernel)
theorem d55_12 : D55 12 (.if_icmp .ge 20) 3 := fun h => hb h (by decide +kernel)
theorem d55_15 : D55 15 (.aload_n 0) 1 := fun h => hb h (by decide +kernel)
theorem d55_16 : D55 16 (.iload_n 2) 1 := fun h => hb h (by decide +kernel)
theorem d55_17 : D55 17 (.baload) 1 := fun h => hb h (by decide +kernel)
theorem d55_18 : D55 18 (.aload_n 1) 1 := fun h => hb h (by decide +kernel)
theorem d55_19 : D55 19 (.iload_n 2) 1 := fun h => hb h (by decide +kernel)
theorem d55_20 : D55 20 (.baload) 1 := fun h => hb h (by decide +kernel)
theorem d55_21 : D55 21 (.if_icmp .eq 5) 3 := fun h => hb h (by decide +kernel)
theorem d55_26 : D55 26 (.iinc 2 1) 3 := fun h => hb h (by decide +kernel)
theorem d55_29 : D55 29 (.goto (-20)) 3 := fun h => hb h (by decide +kernel)
theorem d55_32 : D55 32 (.iconst 1) 1 := fun h => hb h (by decide +kernel)
theorem d55_33 : D55 33 (.ireturn) 1 := fun h => hb h (by decide +kernel)
abbrev D20 := DC jdk_43_method_2_code
theorem d20_0 : D20 0 (.iload_n 1) 1 := fun h => hb h (by decide +kernel)
theorem d20_1 : D20 1 (.aload_n 0) 1 := fun h => hb h (by decide +kernel)
theorem d20_2 : D20 2 (.arraylength) 1 := fun h => hb h (by decide +kernel)
theorem d20_3 : D20 3 (.invokestatic 9) 3 := fun h => hb h (by decide +kernel)
theorem d20_6 : D20 6 (.aload_n 0) 1 := fun h => hb h (by decide +kernel)
theorem d20_7 : D20 7 (.iload_n 1) 1 := fun h => hb h (by decide +kernel)
theorem d20_8 : D20 8 (.baload) 1 := fun h => hb h (by decide +kernel)
theorem d20_9 : D20 9 (.sipush 255) 3 := fun h => hb h (by decide +kernel)
theorem d20_12 : D20 12 (.iand) 1 := fun h => hb h (by decide +kernel)
theorem d20_13 : D20 13 (.i2c) 1 := fun h => hb h (by decide +kernel)
theorem d20_14 : D20 14 (.ireturn) 1 := fun h => hb h (by decide +kernel)
abbrev D43 := DC jdk_43_method_3_code
theorem d43_0 : D43 0 (.iload_n 0) 1 := fun h => hb h (by decide +kernel)
theorem d43_1 : D43 1 (.sipush 255) 3 := fun h => hb h (by decide +kernel)
theorem d43_4 : D43 4 (.if_icmp .gt 7) 3 := fun h => hb h (by decide +kernel)
theorem d43_7 : D43 7 (.iconst 1) 1 := fun h => hb h (by decide +kernel)
theorem d43_8 : D43 8 (.goto 4) 3 := fun h => hb h (by decide +kernel)
theorem d43_12 : D43 12 (.ireturn) 1 := fun h => hb h (by decide +kernel)
abbrev D27 := DC jdk_43_method_47_code
theorem d27_0 : D27 0 (.iload_n 2) 1 := fun h => hb h (by decide +kernel)
theorem d27_1 : D27 1 (.ifCond .ne 6) 3 := fun h => hb h (by decide +kernel)
theorem d27_7 : D27 7 (.new 1) 3 := fun h => hb h (by decide +kernel)
theorem d27_10 : D27 10 (.dup) 1 := fun h => hb h (by decide +kernel)
theorem d27_11 : D27 11 (.aload_n 0) 1 := fun h => hb h (by decide +kernel)
theorem d27_12 : D27 12 (.iload_n 1) 1 := fun h => hb h (by decide +kernel)
theorem d27_13 : D27 13 (.iload_n 1) 1 := fun h => hb h (by decide +kernel)
theorem d27_14 : D27 14 (.iload_n 2) 1 := fun h => hb h (by decide +kernel)
theorem d27_15 : D27 15 (.iadd) 1 := fun h => hb h (by decide +kernel)
theorem d27_16 : D27 16 (.invokestatic 232) 3 := fun h => hb h (by decide +kernel)
theorem d27_19 : D27 19 (.iconst 0) 1 := fun h => hb h (by decide +kernel)
theorem d27_20 : D27 20 (.invokespecial 112) 3 := fun h => hb h (by decide +kernel)
theorem d27_23 : D27 23 (.areturn) 1 := fun h => hb h (by decide +kernel)
abbrev D35 := DC jdk_48_method_14_code
theorem d35_0 : D35 0 (.iconst 0) 1 := fun h => hb h (by decide +kernel)
theorem d35_1 : D35 1 (.istore 5) 2 := fun h => hb h (by decide +kernel)
theorem d35_3 : D35 3 (.iload 4) 2 := fun h => hb h (by decide +kernel)
theorem d35_5 : D35 5 (.bipush 7) 2 := fun h => hb h (by decide +kernel)
theorem d35_7 : D35 7 (.if_icmp .le 63) 3 := fun h => hb h (by decide +kernel)
theorem d35_70 : D35 70 (.iload 5) 2 := fun h => hb h (by decide +kernel)
theorem d35_72 : D35 72 (.iload 4) 2 := fun h => hb h (by decide +kernel)
theorem d35_74 : D35 74 (.if_icmp .ge 27) 3 := fun h => hb h (by decide +kernel)
theorem d35_77 : D35 77 (.aload_n 0) 1 := fun h => hb h (by decide +kernel)
theorem d35_78 : D35 78 (.iload_n 1) 1 := fun h => hb h (by decide +kernel)
theorem d35_79 : D35 79 (.iload 5) 2 := fun h => hb h (by decide +kernel)
theorem d35_81 : D35 81 (.iadd) 1 := fun h => hb h (by decide +kernel)
theorem d35_82 : D35 82 (.baload) 1 := fun h => hb h (by decide +kernel)
theorem d35_83 : D35 83 (.aload_n 2) 1 := fun h => hb h (by decide +kernel)
theorem d35_84 : D35 84 (.iload_n 3) 1 := fun h => hb h (by decide +kernel)
theorem d35_85 : D35 85 (.iload 5) 2 := fun h => hb h (by decide +kernel)
theorem d35_87 : D35 87 (.iadd) 1 := fun h => hb h (by decide +kernel)
theorem d35_88 : D35 88 (.baload) 1 := fun h => hb h (by decide +kernel)
theorem d35_89 : D35 89 (.if_icmp .eq 6) 3 := fun h => hb h (by decide +kernel)
theorem d35_92 : D35 92 (.iload 5) 2 := fun h => hb h (by decide +kernel)
theorem d35_94 : D35 94 (.ireturn) 1 := fun h => hb h (by decide +kernel)
theorem d35_95 : D35 95 (.iinc 5 1) 3 := fun h => hb h (by decide +kernel)
theorem d35_98 : D35 98 (.goto (-28)) 3 := fun h => hb h (by decide +kernel)
theorem d35_101 : D35 101 (.iconst (-1)) 1 := fun h => hb h (by decide +kernel)
theorem d35_102 : D35 102 (.ireturn) 1 := fun h => hb h (by decide +kernel)
abbrev D30 := DC jdk_65_method_131_code
theorem d30_0 : D30 0 (.iload_n 1) 1 := fun h => hb h (by decide +kernel)
theorem d30_1 : D30 1 (.iload_n 0) 1 := fun h => hb h (by decide +kernel)
theorem d30_2 : D30 2 (.if_icmp .ge 35) 3 := fun h => hb h (by decide +kernel)
theorem d30_37 : D30 37 (.return_) 1 := fun h => hb h (by decide +kernel)
abbrev D28 := DC jdk_65_method_132_code
theorem d28_0 : D28 0 (.iload_n 1) 1 := fun h => hb h (by decide +kernel)
theorem d28_1 : D28 1 (.ifCond .ne 9) 3 := fun h => hb h (by decide +kernel)
theorem d28_4 : D28 4 (.iload_n 2) 1 := fun h => hb h (by decide +kernel)
theorem d28_5 : D28 5 (.aload_n 0) 1 := fun h => hb h (by decide +kernel)
theorem d28_6 : D28 6 (.arraylength) 1 := fun h => hb h (by decide +kernel)
theorem d28_7 : D28 7 (.if_icmp .eq 10) 3 := fun h => hb h (by decide +kernel)
theorem d28_10 : D28 10 (.aload_n 0) 1 := fun h => hb h (by decide +kernel)
theorem d28_11 : D28 11 (.iload_n 1) 1 := fun h => hb h (by decide +kernel)
theorem d28_12 : D28 12 (.iload_n 2) 1 := fun h => hb h (by decide +kernel)
theorem d28_13 : D28 13 (.invokestatic 339) 3 := fun h => hb h (by decide +kernel)
theorem d28_16 : D28 16 (.areturn) 1 := fun h => hb h (by decide +kernel)
abbrev D29 := DC jdk_65_method_133_code
theorem d29_0 : D29 0 (.iload_n 1) 1 := fun h => hb h (by decide +kernel)
theorem d29_1 : D29 1 (.iload_n 2) 1 := fun h => hb h (by decide +kernel)
theorem d29_2 : D29 2 (.invokestatic 343) 3 := fun h => hb h (by decide +kernel)
theorem d29_5 : D29 5 (.iload_n 2) 1 := fun h => hb h (by decide +kernel)
theorem d29_6 : D29 6 (.iload_n 1) 1 := fun h => hb h (by decide +kernel)
theorem d29_7 : D29 7 (.isub) 1 := fun h => hb h (by decide +kernel)
theorem d29_8 : D29 8 (.istore_n 3) 1 := fun h => hb h (by decide +kernel)
theorem d29_9 : D29 9 (.iload_n 3) 1 := fun h => hb h (by decide +kernel)
theorem d29_10 : D29 10 (.newarray .byte) 2 := fun h => hb h (by decide +kernel)
theorem d29_12 : D29 12 (.astore 4) 2 := fun h => hb h (by decide +kernel)
theorem d29_14 : D29 14 (.aload_n 0) 1 := fun h => hb h (by decide +kernel)
theorem d29_15 : D29 15 (.iload_n 1) 1 := fun h => hb h (by decide +kernel)
theorem d29_16 : D29 16 (.aload 4) 2 := fun h => hb h (by decide +kernel)
theorem d29_18 : D29 18 (.iconst 0) 1 := fun h => hb h (by decide +kernel)
theorem d29_19 : D29 19 (.aload_n 0) 1 := fun h => hb h (by decide +kernel)
theorem d29_20 : D29 20 (.arraylength) 1 := fun h => hb h (by decide +kernel)
theorem d29_21 : D29 21 (.iload_n 1) 1 := fun h => hb h (by decide +kernel)
theorem d29_22 : D29 22 (.isub) 1 := fun h => hb h (by decide +kernel)
theorem d29_23 : D29 23 (.iload_n 3) 1 := fun h => hb h (by decide +kernel)
theorem d29_24 : D29 24 (.invokestatic 304) 3 := fun h => hb h (by decide +kernel)
theorem d29_27 : D29 27 (.invokestatic 150) 3 := fun h => hb h (by decide +kernel)
theorem d29_30 : D29 30 (.aload 4) 2 := fun h => hb h (by decide +kernel)
theorem d29_32 : D29 32 (.areturn) 1 := fun h => hb h (by decide +kernel)
abbrev D39 := DC jdk_67_method_14_code
theorem d39_0 : D39 0 (.aload_n 0) 1 := fun h => hb h (by decide +kernel)
theorem d39_1 : D39 1 (.iload_n 1) 1 := fun h => hb h (by decide +kernel)
theorem d39_2 : D39 2 (.invokespecial 50) 3 := fun h => hb h (by decide +kernel)
theorem d39_5 : D39 5 (.pop) 1 := fun h => hb h (by decide +kernel)
theorem d39_6 : D39 6 (.aload_n 0) 1 := fun h => hb h (by decide +kernel)
theorem d39_7 : D39 7 (.areturn) 1 := fun h => hb h (by decide +kernel)
abbrev D37 := DC jdk_67_method_2_code
theorem d37_0 : D37 0 (.aload_n 0) 1 := fun h => hb h (by decide +kernel)
theorem d37_1 : D37 1 (.iload_n 1) 1 := fun h => hb h (by decide +kernel)
theorem d37_2 : D37 2 (.invokespecial 1) 3 := fun h => hb h (by decide +kernel)
theorem d37_5 : D37 5 (.return_) 1 := fun h => hb h (by decide +kernel)
abbrev D44 := DC jdk_67_method_42_code
theorem d44_0 : D44 0 (.new 18) 3 := fun h => hb h (by decide +kernel)
theorem d44_3 : D44 3 (.dup) 1 := fun h => hb h (by decide +kernel)
theorem d44_4 : D44 4 (.aload_n 0) 1 := fun h => hb h (by decide +kernel)
theorem d44_5 : D44 5 (.invokespecial 137) 3 := fun h => hb h (by decide +kernel)
theorem d44_8 : D44 8 (.areturn) 1 := fun h => hb h (by decide +kernel)
abbrev D48 := DC jdk_67_method_93_code
theorem d48_0 : D48 0 (.aload_n 0) 1 := fun h => hb h (by decide +kernel)
theorem d48_1 : D48 1 (.invokespecial 343) 3 := fun h => hb h (by decide +kernel)
theorem d48_4 : D48 4 (.ireturn) 1 := fun h => hb h (by decide +kernel)
abbrev D38 := DC jdk_68_method_2_code
theorem d38_0 : D38 0 (.aload_n 0) 1 := fun h => hb h (by decide +kernel)
theorem d38_1 : D38 1 (.invokespecial 3) 3 := fun h => hb h (by decide +kernel)
theorem d38_4 : D38 4 (.getstatic 18) 3 := fun h => hb h (by decide +kernel)
theorem d38_7 : D38 7 (.ifCond .eq 18) 3 := fun h => hb h (by decide +kernel)
theorem d38_10 : D38 10 (.aload_n 0) 1 := fun h => hb h (by decide +kernel)
theorem d38_11 : D38 11 (.iload_n 1) 1 := fun h => hb h (by decide +kernel)
theorem d38_12 : D38 12 (.newarray .byte) 2 := fun h => hb h (by decide +kernel)
theorem d38_14 : D38 14 (.putfield 15) 3 := fun h => hb h (by decide +kernel)
theorem d38_17 : D38 17 (.aload_n 0) 1 := fun h => hb h (by decide +kernel)
theorem d38_18 : D38 18 (.iconst 0) 1 := fun h => hb h (by decide +kernel)
theorem d38_19 : D38 19 (.putfield 22) 3 := fun h => hb h (by decide +kernel)
theorem d38_22 : D38 22 (.goto 16) 3 := fun h => hb h (by decide +kernel)
theorem d38_38 : D38 38 (.return_) 1 := fun h => hb h (by decide +kernel)
abbrev D40 := DC jdk_68_method_31_code
theorem d40_0 : D40 0 (.aload_n 0) 1 := fun h => hb h (by decide +kernel)
theorem d40_1 : D40 1 (.aload_n 0) 1 := fun h => hb h (by decide +kernel)
theorem d40_2 : D40 2 (.getfield 79) 3 := fun h => hb h (by decide +kernel)
theorem d40_5 : D40 5 (.iconst 1) 1 := fun h => hb h (by decide +kernel)
theorem d40_6 : D40 6 (.iadd) 1 := fun h => hb h (by decide +kernel)
theorem d40_7 : D40 7 (.invokevirtual 100) 3 := fun h => hb h (by decide +kernel)
theorem d40_10 : D40 10 (.aload_n 0) 1 := fun h => hb h (by decide +kernel)
theorem d40_11 : D40 11 (.invokevirtual 83) 3 := fun h => hb h (by decide +kernel)
theorem d40_14 : D40 14 (.ifCond .eq 31) 3 := fun h => hb h (by decide +kernel)
theorem d40_17 : D40 17 (.iload_n 1) 1 := fun h => hb h (by decide +kernel)
theorem d40_18 : D40 18 (.invokestatic 191) 3 := fun h => hb h (by decide +kernel)
theorem d40_21 : D40 21 (.ifCond .eq 24) 3 := fun h => hb h (by decide +kernel)
theorem d40_24 : D40 24 (.aload_n 0) 1 := fun h => hb h (by decide +kernel)
theorem d40_25 : D40 25 (.getfield 15) 3 := fun h => hb h (by decide +kernel)
theorem d40_28 : D40 28 (.aload_n 0) 1 := fun h => hb h (by decide +kernel)
theorem d40_29 : D40 29 (.dup) 1 := fun h => hb h (by decide +kernel)
theorem d40_30 : D40 30 (.getfield 79) 3 := fun h => hb h (by decide +kernel)
theorem d40_33 : D40 33 (.dup_x1) 1 := fun h => hb h (by decide +kernel)
theorem d40_34 : D40 34 (.iconst 1) 1 := fun h => hb h (by decide +kernel)
theorem d40_35 : D40 35 (.iadd) 1 := fun h => hb h (by decide +kernel)
theorem d40_36 : D40 36 (.putfield 79) 3 := fun h => hb h (by decide +kernel)
theorem d40_39 : D40 39 (.iload_n 1) 1 := fun h => hb h (by decide +kernel)
theorem d40_40 : D40 40 (.i2b) 1 := fun h => hb h (by decide +kernel)
theorem d40_41 : D40 41 (.bastore) 1 := fun h => hb h (by decide +kernel)
theorem d40_42 : D40 42 (.goto 33) 3 := fun h => hb h (by decide +kernel)
theorem d40_75 : D40 75 (.aload_n 0) 1 := fun h => hb h (by decide +kernel)
theorem d40_76 : D40 76 (.areturn) 1 := fun h => hb h (by decide +kernel)
abbrev D47 := DC jdk_68_method_64_code
theorem d47_0 : D47 0 (.aload_n 0) 1 := fun h => hb h (by decide +kernel)
theorem d47_1 : D47 1 (.getfield 15) 3 := fun h => hb h (by decide +kernel)
theorem d47_4 : D47 4 (.areturn) 1 := fun h => hb h (by decide +kernel)
abbrev D42 := DC jdk_68_method_68_code
theorem d42_0 : D42 0 (.getstatic 18) 3 := fun h => hb h (by decide +kernel)
theorem d42_3 : D42 3 (.ifCond .eq 14) 3 := fun h => hb h (by decide +kernel)
theorem d42_6 : D42 6 (.aload_n 0) 1 := fun h => hb h (by decide +kernel)
theorem d42_7 : D42 7 (.getfield 22) 3 := fun h => hb h (by decide +kernel)
theorem d42_10 : D42 10 (.ifCond .ne 7) 3 := fun h => hb h (by decide +kernel)
theorem d42_13 : D42 13 (.iconst 1) 1 := fun h => hb h (by decide +kernel)
theorem d42_14 : D42 14 (.goto 4) 3 := fun h => hb h (by decide +kernel)
theorem d42_18 : D42 18 (.ireturn) 1 := fun h => hb h (by decide +kernel)
abbrev D49 := DC jdk_68_method_6_code
theorem d49_0 : D49 0 (.aload_n 0) 1 := fun h => hb h (by decide +kernel)
theorem d49_1 : D49 1 (.getfield 79) 3 := fun h => hb h (by decide +kernel)
theorem d49_4 : D49 4 (.ireturn) 1 := fun h => hb h (by decide +kernel)
abbrev D41 := DC jdk_68_method_9_code
theorem d41_0 : D41 0 (.aload_n 0) 1 := fun h => hb h (by decide +kernel)
theorem d41_1 : D41 1 (.getfield 15) 3 := fun h => hb h (by decide +kernel)
theorem d41_4 : D41 4 (.arraylength) 1 := fun h => hb h (by decide +kernel)
theorem d41_5 : D41 5 (.aload_n 0) 1 := fun h => hb h (by decide +kernel)
theorem d41_6 : D41 6 (.getfield 22) 3 := fun h => hb h (by decide +kernel)
theorem d41_9 : D41 9 (.ishr) 1 := fun h => hb h (by decide +kernel)
theorem d41_10 : D41 10 (.istore_n 2) 1 := fun h => hb h (by decide +kernel)
theorem d41_11 : D41 11 (.iload_n 1) 1 := fun h => hb h (by decide +kernel)
theorem d41_12 : D41 12 (.iload_n 2) 1 := fun h => hb h (by decide +kernel)
theorem d41_13 : D41 13 (.isub) 1 := fun h => hb h (by decide +kernel)
theorem d41_14 : D41 14 (.ifCond .le 24) 3 := fun h => hb h (by decide +kernel)
theorem d41_38 : D41 38 (.return_) 1 := fun h => hb h (by decide +kernel)
abbrev D1 := DC method_3_code
theorem d1_0 : D1 0 (.bipush 32) 2 := fun h => hb h (by decide +kernel)
theorem d1_2 : D1 2 (.iload_n 0) 1 := fun h => hb h (by decide +kernel)
theorem d1_3 : D1 3 (.ldc 48) 2 := fun h => hb h (by decide +kernel)
theorem d1_5 : D1 5 (.iand) 1 := fun h => hb h (by decide +kernel)
theorem d1_6 : D1 6 (.bipush 95) 2 := fun h => hb h (by decide +kernel)
theorem d1_8 : D1 8 (.irem) 1 := fun h => hb h (by decide +kernel)
theorem d1_9 : D1 9 (.iadd) 1 := fun h => hb h (by decide +kernel)
theorem d1_10 : D1 10 (.i2c) 1 := fun h => hb h (by decide +kernel)
theorem d1_11 : D1 11 (.ireturn) 1 := fun h => hb h (by decide +kernel)
abbrev D2 := DC method_4_code
theorem d2_0 : D2 0 (.iload_n 0) 1 := fun h => hb h (by decide +kernel)
theorem d2_1 : D2 1 (.bipush 32) 2 := fun h => hb h (by decide +kernel)
theorem d2_3 : D2 3 (.if_icmp .eq 19) 3 := fun h => hb h (by decide +kernel)
theorem d2_6 : D2 6 (.iload_n 0) 1 := fun h => hb h (by decide +kernel)
theorem d2_7 : D2 7 (.bipush 44) 2 := fun h => hb h (by decide +kernel)
theorem d2_9 : D2 9 (.if_icmp .eq 13) 3 := fun h => hb h (by decide +kernel)
theorem d2_12 : D2 12 (.iload_n 0) 1 := fun h => hb h (by decide +kernel)
theorem d2_13 : D2 13 (.bipush 34) 2 := fun h => hb h (by decide +kernel)
theorem d2_15 : D2 15 (.if_icmp .eq 7) 3 := fun h => hb h (by decide +kernel)
theorem d2_18 : D2 18 (.iconst 1) 1 := fun h => hb h (by decide +kernel)
theorem d2_19 : D2 19 (.goto 4) 3 := fun h => hb h (by decide +kernel)
theorem d2_22 : D2 22 (.iconst 0) 1 := fun h => hb h (by decide +kernel)
theorem d2_23 : D2 23 (.ireturn) 1 := fun h => hb h (by decide +kernel)
abbrev D4 := DC method_5_code
theorem d4_0 : D4 0 (.iload_n 0) 1 := fun h => hb h (by decide +kernel)
theorem d4_1 : D4 1 (.bipush 34) 2 := fun h => hb h (by decide +kernel)
theorem d4_3 : D4 3 (.if_icmp .eq 9) 3 := fun h => hb h (by decide +kernel)
theorem d4_6 : D4 6 (.iload_n 0) 1 := fun h => hb h (by decide +kernel)
theorem d4_7 : D4 7 (.bipush 92) 2 := fun h => hb h (by decide +kernel)
theorem d4_9 : D4 9 (.if_icmp .ne 7) 3 := fun h => hb h (by decide +kernel)
theorem d4_12 : D4 12 (.iconst 1) 1 := fun h => hb h (by decide +kernel)
theorem d4_13 : D4 13 (.goto 4) 3 := fun h => hb h (by decide +kernel)
theorem d4_16 : D4 16 (.iconst 0) 1 := fun h => hb h (by decide +kernel)
theorem d4_17 : D4 17 (.ireturn) 1 := fun h => hb h (by decide +kernel)
abbrev D3 := DC method_6_code
theorem d3_0 : D3 0 (.iload_n 2) 1 := fun h => hb h (by decide +kernel)
theorem d3_1 : D3 1 (.ifCond .ne 5) 3 := fun h => hb h (by decide +kernel)
theorem d3_4 : D3 4 (.iconst 0) 1 := fun h => hb h (by decide +kernel)
theorem d3_5 : D3 5 (.ireturn) 1 := fun h => hb h (by decide +kernel)
theorem d3_6 : D3 6 (.iload_n 1) 1 := fun h => hb h (by decide +kernel)
theorem d3_7 : D3 7 (.ifCond .eq 12) 3 := fun h => hb h (by decide +kernel)
theorem d3_10 : D3 10 (.iload_n 0) 1 := fun h => hb h (by decide +kernel)
theorem d3_11 : D3 11 (.invokestatic 49) 3 := fun h => hb h (by decide +kernel)
theorem d3_14 : D3 14 (.ifCond .eq 5) 3 := fun h => hb h (by decide +kernel)
theorem d3_17 : D3 17 (.iconst 2) 1 := fun h => hb h (by decide +kernel)
theorem d3_18 : D3 18 (.ireturn) 1 := fun h => hb h (by decide +kernel)
theorem d3_19 : D3 19 (.iconst 1) 1 := fun h => hb h (by decide +kernel)
theorem d3_20 : D3 20 (.ireturn) 1 := fun h => hb h (by decide +kernel)
abbrev D6 := DC method_7_code
theorem d6_0 : D6 0 (.iload 4) 2 := fun h => hb h (by decide +kernel)
theorem d6_2 : D6 2 (.ifCond .ne 5) 3 := fun h => hb h (by decide +kernel)
theorem d6_5 : D6 5 (.iload_n 1) 1 := fun h => hb h (by decide +kernel)
theorem d6_6 : D6 6 (.ireturn) 1 := fun h => hb h (by decide +kernel)
theorem d6_7 : D6 7 (.iload_n 3) 1 := fun h => hb h (by decide +kernel)
theorem d6_8 : D6 8 (.ifCond .eq 25) 3 := fun h => hb h (by decide +kernel)
theorem d6_11 : D6 11 (.iload_n 2) 1 := fun h => hb h (by decide +kernel)
theorem d6_12 : D6 12 (.invokestatic 49) 3 := fun h => hb h (by decide +kernel)
theorem d6_15 : D6 15 (.ifCond .eq 18) 3 := fun h => hb h (by decide +kernel)
theorem d6_18 : D6 18 (.aload_n 0) 1 := fun h => hb h (by decide +kernel)
theorem d6_19 : D6 19 (.iload_n 1) 1 := fun h => hb h (by decide +kernel)
theorem d6_20 : D6 20 (.bipush 92) 2 := fun h => hb h (by decide +kernel)
theorem d6_22 : D6 22 (.castore) 1 := fun h => hb h (by decide +kernel)
theorem d6_23 : D6 23 (.aload_n 0) 1 := fun h => hb h (by decide +kernel)
theorem d6_24 : D6 24 (.iload_n 1) 1 := fun h => hb h (by decide +kernel)
theorem d6_25 : D6 25 (.iconst 1) 1 := fun h => hb h (by decide +kernel)
theorem d6_26 : D6 26 (.iadd) 1 := fun h => hb h (by decide +kernel)
theorem d6_27 : D6 27 (.iload_n 2) 1 := fun h => hb h (by decide +kernel)
theorem d6_28 : D6 28 (.castore) 1 := fun h => hb h (by decide +kernel)
theorem d6_29 : D6 29 (.iload_n 1) 1 := fun h => hb h (by decide +kernel)
theorem d6_30 : D6 30 (.iconst 2) 1 := fun h => hb h (by decide +kernel)
theorem d6_31 : D6 31 (.iadd) 1 := fun h => hb h (by decide +kernel)
theorem d6_32 : D6 32 (.ireturn) 1 := fun h => hb h (by decide +kernel)
theorem d6_33 : D6 33 (.aload_n 0) 1 := fun h => hb h (by decide +kernel)
theorem d6_34 : D6 34 (.iload_n 1) 1 := fun h => hb h (by decide +kernel)
theorem d6_35 : D6 35 (.iload_n 2) 1 := fun h => hb h (by decide +kernel)
theorem d6_36 : D6 36 (.castore) 1 := fun h => hb h (by decide +kernel)
theorem d6_37 : D6 37 (.iload_n 1) 1 := fun h => hb h (by decide +kernel)
theorem d6_38 : D6 38 (.iconst 1) 1 := fun h => hb h (by decide +kernel)
theorem d6_39 : D6 39 (.iadd) 1 := fun h => hb h (by decide +kernel)
theorem d6_40 : D6 40 (.ireturn) 1 := fun h => hb h (by decide +kernel)
abbrev D5 := DC method_8_code
theorem d5_0 : D5 0 (.iload_n 0) 1 := fun h => hb h (by decide +kernel)
theorem d5_1 : D5 1 (.iload_n 1) 1 := fun h => hb h (by decide +kernel)
theorem d5_2 : D5 2 (.iushr) 1 := fun h => hb h (by decide +kernel)
theorem d5_3 : D5 3 (.iconst 1) 1 := fun h => hb h (by decide +kernel)
theorem d5_4 : D5 4 (.iand) 1 := fun h => hb h (by decide +kernel)
theorem d5_5 : D5 5 (.ifCond .eq 8) 3 := fun h => hb h (by decide +kernel)
theorem d5_8 : D5 8 (.bipush 9) 2 := fun h => hb h (by decide +kernel)
theorem d5_10 : D5 10 (.goto 5) 3 := fun h => hb h (by decide +kernel)
theorem d5_13 : D5 13 (.bipush 32) 2 := fun h => hb h (by decide +kernel)
theorem d5_15 : D5 15 (.ireturn) 1 := fun h => hb h (by decide +kernel)
abbrev D53 := DC prog_3_method_11_code
theorem d53_0 : D53 0 (.aload_n 0) 1 := fun h => hb h (by decide +kernel)
theorem d53_1 : D53 1 (.getfield 54) 3 := fun h => hb h (by decide +kernel)
theorem d53_4 : D53 4 (.areturn) 1 := fun h => hb h (by decide +kernel)
abbrev D50 := DC prog_3_method_1_code
theorem d50_0 : D50 0 (.aload_n 0) 1 := fun h => hb h (by decide +kernel)
theorem d50_1 : D50 1 (.invokespecial 1) 3 := fun h => hb h (by decide +kernel)
theorem d50_4 : D50 4 (.aload_n 1) 1 := fun h => hb h (by decide +kernel)
theorem d50_5 : D50 5 (.ldc 7) 2 := fun h => hb h (by decide +kernel)
theorem d50_7 : D50 7 (.invokestatic 9) 3 := fun h => hb h (by decide +kernel)
theorem d50_10 : D50 10 (.pop) 1 := fun h => hb h (by decide +kernel)
theorem d50_11 : D50 11 (.aload_n 1) 1 := fun h => hb h (by decide +kernel)
theorem d50_12 : D50 12 (.invokevirtual 15) 3 := fun h => hb h (by decide +kernel)
theorem d50_15 : D50 15 (.ifCond .ne 13) 3 := fun h => hb h (by decide +kernel)
theorem d50_18 : D50 18 (.aload_n 1) 1 := fun h => hb h (by decide +kernel)
theorem d50_19 : D50 19 (.invokevirtual 21) 3 := fun h => hb h (by decide +kernel)
theorem d50_22 : D50 22 (.sipush 255) 3 := fun h => hb h (by decide +kernel)
theorem d50_25 : D50 25 (.if_icmp .le 20) 3 := fun h => hb h (by decide +kernel)
theorem d50_45 : D50 45 (.iconst 0) 1 := fun h => hb h (by decide +kernel)
theorem d50_46 : D50 46 (.istore_n 2) 1 := fun h => hb h (by decide +kernel)
theorem d50_47 : D50 47 (.iload_n 2) 1 := fun h => hb h (by decide +kernel)
theorem d50_48 : D50 48 (.aload_n 1) 1 := fun h => hb h (by decide +kernel)
theorem d50_49 : D50 49 (.invokevirtual 21) 3 := fun h => hb h (by decide +kernel)
theorem d50_52 : D50 52 (.if_icmp .ge 58) 3 := fun h => hb h (by decide +kernel)
theorem d50_55 : D50 55 (.aload_n 1) 1 := fun h => hb h (by decide +kernel)
theorem d50_56 : D50 56 (.iload_n 2) 1 := fun h => hb h (by decide +kernel)
theorem d50_57 : D50 57 (.invokevirtual 36) 3 := fun h => hb h (by decide +kernel)
theorem d50_60 : D50 60 (.istore_n 3) 1 := fun h => hb h (by decide +kernel)
theorem d50_61 : D50 61 (.iload_n 3) 1 := fun h => hb h (by decide +kernel)
theorem d50_62 : D50 62 (.bipush 32) 2 := fun h => hb h (by decide +kernel)
theorem d50_64 : D50 64 (.if_icmp .lt 9) 3 := fun h => hb h (by decide +kernel)
theorem d50_67 : D50 67 (.iload_n 3) 1 := fun h => hb h (by decide +kernel)
theorem d50_68 : D50 68 (.bipush 126) 2 := fun h => hb h (by decide +kernel)
theorem d50_70 : D50 70 (.if_icmp .le 34) 3 := fun h => hb h (by decide +kernel)
theorem d50_104 : D50 104 (.iinc 2 1) 3 := fun h => hb h (by decide +kernel)
theorem d50_107 : D50 107 (.goto (-60)) 3 := fun h => hb h (by decide +kernel)
theorem d50_110 : D50 110 (.aload_n 0) 1 := fun h => hb h (by decide +kernel)
theorem d50_111 : D50 111 (.aload_n 1) 1 := fun h => hb h (by decide +kernel)
theorem d50_112 : D50 112 (.putfield 54) 3 := fun h => hb h (by decide +kernel)
theorem d50_115 : D50 115 (.return_) 1 := fun h => hb h (by decide +kernel)
abbrev D13 := DC prog_3_method_2_code
theorem d13_0 : D13 0 (.aload_n 0) 1 := fun h => hb h (by decide +kernel)
theorem d13_1 : D13 1 (.ldc 57) 2 := fun h => hb h (by decide +kernel)
theorem d13_3 : D13 3 (.invokestatic 9) 3 := fun h => hb h (by decide +kernel)
theorem d13_6 : D13 6 (.checkcast 16) 3 := fun h => hb h (by decide +kernel)
theorem d13_9 : D13 9 (.invokestatic 59) 3 := fun h => hb h (by decide +kernel)
theorem d13_12 : D13 12 (.astore_n 1) 1 := fun h => hb h (by decide +kernel)
theorem d13_13 : D13 13 (.aload_n 1) 1 := fun h => hb h (by decide +kernel)
theorem d13_14 : D13 14 (.ldc 63) 2 := fun h => hb h (by decide +kernel)
theorem d13_16 : D13 16 (.invokevirtual 65) 3 := fun h => hb h (by decide +kernel)
theorem d13_19 : D13 19 (.ifCond .eq 11) 3 := fun h => hb h (by decide +kernel)
theorem d13_22 : D13 22 (.aload_n 1) 1 := fun h => hb h (by decide +kernel)
theorem d13_23 : D13 23 (.invokestatic 69) 3 := fun h => hb h (by decide +kernel)
theorem d13_26 : D13 26 (.astore_n 2) 1 := fun h => hb h (by decide +kernel)
theorem d13_27 : D13 27 (.goto 8) 3 := fun h => hb h (by decide +kernel)
theorem d13_30 : D13 30 (.aload_n 1) 1 := fun h => hb h (by decide +kernel)
theorem d13_31 : D13 31 (.invokestatic 72) 3 := fun h => hb h (by decide +kernel)
theorem d13_34 : D13 34 (.astore_n 2) 1 := fun h => hb h (by decide +kernel)
theorem d13_35 : D13 35 (.new 25) 3 := fun h => hb h (by decide +kernel)
theorem d13_38 : D13 38 (.dup) 1 := fun h => hb h (by decide +kernel)
theorem d13_39 : D13 39 (.aload_n 2) 1 := fun h => hb h (by decide +kernel)
theorem d13_40 : D13 40 (.invokespecial 75) 3 := fun h => hb h (by decide +kernel)
theorem d13_43 : D13 43 (.areturn) 1 := fun h => hb h (by decide +kernel)
abbrev D15 := DC prog_3_method_3_code
theorem d15_0 : D15 0 (.iconst 0) 1 := fun h => hb h (by decide +kernel)
theorem d15_1 : D15 1 (.istore_n 1) 1 := fun h => hb h (by decide +kernel)
theorem d15_2 : D15 2 (.aload_n 0) 1 := fun h => hb h (by decide +kernel)
theorem d15_3 : D15 3 (.invokevirtual 21) 3 := fun h => hb h (by decide +kernel)
theorem d15_6 : D15 6 (.istore_n 2) 1 := fun h => hb h (by decide +kernel)
theorem d15_7 : D15 7 (.iload_n 1) 1 := fun h => hb h (by decide +kernel)
theorem d15_8 : D15 8 (.iload_n 2) 1 := fun h => hb h (by decide +kernel)
theorem d15_9 : D15 9 (.if_icmp .ge 20) 3 := fun h => hb h (by decide +kernel)
theorem d15_12 : D15 12 (.aload_n 0) 1 := fun h => hb h (by decide +kernel)
theorem d15_13 : D15 13 (.iload_n 1) 1 := fun h => hb h (by decide +kernel)
theorem d15_14 : D15 14 (.invokevirtual 36) 3 := fun h => hb h (by decide +kernel)
theorem d15_17 : D15 17 (.invokestatic 76) 3 := fun h => hb h (by decide +kernel)
theorem d15_20 : D15 20 (.ifCond .eq 9) 3 := fun h => hb h (by decide +kernel)
theorem d15_23 : D15 23 (.iinc 1 1) 3 := fun h => hb h (by decide +kernel)
theorem d15_26 : D15 26 (.goto (-19)) 3 := fun h => hb h (by decide +kernel)
theorem d15_29 : D15 29 (.iload_n 2) 1 := fun h => hb h (by decide +kernel)
theorem d15_30 : D15 30 (.iload_n 1) 1 := fun h => hb h (by decide +kernel)
theorem d15_31 : D15 31 (.if_icmp .le 22) 3 := fun h => hb h (by decide +kernel)
theorem d15_34 : D15 34 (.aload_n 0) 1 := fun h => hb h (by decide +kernel)
theorem d15_35 : D15 35 (.iload_n 2) 1 := fun h => hb h (by decide +kernel)
theorem d15_36 : D15 36 (.iconst 1) 1 := fun h => hb h (by decide +kernel)
theorem d15_37 : D15 37 (.isub) 1 := fun h => hb h (by decide +kernel)
theorem d15_38 : D15 38 (.invokevirtual 36) 3 := fun h => hb h (by decide +kernel)
theorem d15_41 : D15 41 (.invokestatic 76) 3 := fun h => hb h (by decide +kernel)
theorem d15_44 : D15 44 (.ifCond .eq 9) 3 := fun h => hb h (by decide +kernel)
theorem d15_47 : D15 47 (.iinc 2 (-1)) 3 := fun h => hb h (by decide +kernel)
theorem d15_50 : D15 50 (.goto (-21)) 3 := fun h => hb h (by decide +kernel)
theorem d15_53 : D15 53 (.aload_n 0) 1 := fun h => hb h (by decide +kernel)
theorem d15_54 : D15 54 (.iload_n 1) 1 := fun h => hb h (by decide +kernel)
theorem d15_55 : D15 55 (.iload_n 2) 1 := fun h => hb h (by decide +kernel)
theorem d15_56 : D15 56 (.invokevirtual 80) 3 := fun h => hb h (by decide +kernel)
theorem d15_59 : D15 59 (.areturn) 1 := fun h => hb h (by decide +kernel)
abbrev D23 := DC prog_3_method_4_code
theorem d23_0 : D23 0 (.iload_n 0) 1 := fun h => hb h (by decide +kernel)
theorem d23_1 : D23 1 (.bipush 32) 2 := fun h => hb h (by decide +kernel)
theorem d23_3 : D23 3 (.if_icmp .eq 9) 3 := fun h => hb h (by decide +kernel)
theorem d23_6 : D23 6 (.iload_n 0) 1 := fun h => hb h (by decide +kernel)
theorem d23_7 : D23 7 (.bipush 9) 2 := fun h => hb h (by decide +kernel)
theorem d23_9 : D23 9 (.if_icmp .ne 7) 3 := fun h => hb h (by decide +kernel)
theorem d23_12 : D23 12 (.iconst 1) 1 := fun h => hb h (by decide +kernel)
theorem d23_13 : D23 13 (.goto 4) 3 := fun h => hb h (by decide +kernel)
theorem d23_16 : D23 16 (.iconst 0) 1 := fun h => hb h (by decide +kernel)
theorem d23_17 : D23 17 (.ireturn) 1 := fun h => hb h (by decide +kernel)
abbrev D36 := DC prog_3_method_5_code
theorem d36_0 : D36 0 (.new 84) 3 := fun h => hb h (by decide +kernel)
theorem d36_3 : D36 3 (.dup) 1 := fun h => hb h (by decide +kernel)
theorem d36_4 : D36 4 (.aload_n 0) 1 := fun h => hb h (by decide +kernel)
theorem d36_5 : D36 5 (.invokevirtual 21) 3 := fun h => hb h (by decide +kernel)
theorem d36_8 : D36 8 (.invokespecial 86) 3 := fun h => hb h (by decide +kernel)
theorem d36_11 : D36 11 (.astore_n 1) 1 := fun h => hb h (by decide +kernel)
theorem d36_12 : D36 12 (.iconst (-1)) 1 := fun h => hb h (by decide +kernel)
theorem d36_13 : D36 13 (.istore_n 2) 1 := fun h => hb h (by decide +kernel)
theorem d36_14 : D36 14 (.iconst 1) 1 := fun h => hb h (by decide +kernel)
theorem d36_15 : D36 15 (.istore_n 3) 1 := fun h => hb h (by decide +kernel)
theorem d36_16 : D36 16 (.iload_n 3) 1 := fun h => hb h (by decide +kernel)
theorem d36_17 : D36 17 (.aload_n 0) 1 := fun h => hb h (by decide +kernel)
theorem d36_18 : D36 18 (.invokevirtual 21) 3 := fun h => hb h (by decide +kernel)
theorem d36_21 : D36 21 (.if_icmp .ge 101) 3 := fun h => hb h (by decide +kernel)
theorem d36_24 : D36 24 (.iload_n 2) 1 := fun h => hb h (by decide +kernel)
theorem d36_25 : D36 25 (.ifCond .ge 97) 3 := fun h => hb h (by decide +kernel)
theorem d36_28 : D36 28 (.aload_n 0) 1 := fun h => hb h (by decide +kernel)
theorem d36_29 : D36 29 (.iload_n 3) 1 := fun h => hb h (by decide +kernel)
theorem d36_30 : D36 30 (.invokevirtual 36) 3 := fun h => hb h (by decide +kernel)
theorem d36_33 : D36 33 (.istore 4) 2 := fun h => hb h (by decide +kernel)
theorem d36_35 : D36 35 (.iload 4) 2 := fun h => hb h (by decide +kernel)
theorem d36_37 : D36 37 (.bipush 34) 2 := fun h => hb h (by decide +kernel)
theorem d36_39 : D36 39 (.if_icmp .ne 8) 3 := fun h => hb h (by decide +kernel)
theorem d36_42 : D36 42 (.iload_n 3) 1 := fun h => hb h (by decide +kernel)
theorem d36_43 : D36 43 (.istore_n 2) 1 := fun h => hb h (by decide +kernel)
theorem d36_44 : D36 44 (.goto 72) 3 := fun h => hb h (by decide +kernel)
theorem d36_47 : D36 47 (.iload 4) 2 := fun h => hb h (by decide +kernel)
theorem d36_49 : D36 49 (.bipush 92) 2 := fun h => hb h (by decide +kernel)
theorem d36_51 : D36 51 (.if_icmp .ne 58) 3 := fun h => hb h (by decide +kernel)
theorem d36_54 : D36 54 (.iload_n 3) 1 := fun h => hb h (by decide +kernel)
theorem d36_55 : D36 55 (.iconst 1) 1 := fun h => hb h (by decide +kernel)
theorem d36_56 : D36 56 (.iadd) 1 := fun h => hb h (by decide +kernel)
theorem d36_57 : D36 57 (.aload_n 0) 1 := fun h => hb h (by decide +kernel)
theorem d36_58 : D36 58 (.invokevirtual 21) 3 := fun h => hb h (by decide +kernel)
theorem d36_61 : D36 61 (.if_icmp .eq 16) 3 := fun h => hb h (by decide +kernel)
theorem d36_64 : D36 64 (.aload_n 0) 1 := fun h => hb h (by decide +kernel)
theorem d36_65 : D36 65 (.iload_n 3) 1 := fun h => hb h (by decide +kernel)
theorem d36_66 : D36 66 (.iconst 1) 1 := fun h => hb h (by decide +kernel)
theorem d36_67 : D36 67 (.iadd) 1 := fun h => hb h (by decide +kernel)
theorem d36_68 : D36 68 (.invokevirtual 36) 3 := fun h => hb h (by decide +kernel)
theorem d36_71 : D36 71 (.invokestatic 89) 3 := fun h => hb h (by decide +kernel)
theorem d36_74 : D36 74 (.ifCond .ne 17) 3 := fun h => hb h (by decide +kernel)
theorem d36_91 : D36 91 (.aload_n 1) 1 := fun h => hb h (by decide +kernel)
theorem d36_92 : D36 92 (.aload_n 0) 1 := fun h => hb h (by decide +kernel)
theorem d36_93 : D36 93 (.iload_n 3) 1 := fun h => hb h (by decide +kernel)
theorem d36_94 : D36 94 (.iconst 1) 1 := fun h => hb h (by decide +kernel)
theorem d36_95 : D36 95 (.iadd) 1 := fun h => hb h (by decide +kernel)
theorem d36_96 : D36 96 (.invokevirtual 36) 3 := fun h => hb h (by decide +kernel)
theorem d36_99 : D36 99 (.invokevirtual 93) 3 := fun h => hb h (by decide +kernel)
theorem d36_102 : D36 102 (.pop) 1 := fun h => hb h (by decide +kernel)
theorem d36_103 : D36 103 (.iinc 3 1) 3 := fun h => hb h (by decide +kernel)
theorem d36_106 : D36 106 (.goto 10) 3 := fun h => hb h (by decide +kernel)
theorem d36_109 : D36 109 (.aload_n 1) 1 := fun h => hb h (by decide +kernel)
theorem d36_110 : D36 110 (.iload 4) 2 := fun h => hb h (by decide +kernel)
theorem d36_112 : D36 112 (.invokevirtual 93) 3 := fun h => hb h (by decide +kernel)
theorem d36_115 : D36 115 (.pop) 1 := fun h => hb h (by decide +kernel)
theorem d36_116 : D36 116 (.iinc 3 1) 3 := fun h => hb h (by decide +kernel)
theorem d36_119 : D36 119 (.goto (-103)) 3 := fun h => hb h (by decide +kernel)
theorem d36_122 : D36 122 (.iload_n 2) 1 := fun h => hb h (by decide +kernel)
theorem d36_123 : D36 123 (.aload_n 0) 1 := fun h => hb h (by decide +kernel)
theorem d36_124 : D36 124 (.invokevirtual 21) 3 := fun h => hb h (by decide +kernel)
theorem d36_127 : D36 127 (.iconst 1) 1 := fun h => hb h (by decide +kernel)
theorem d36_128 : D36 128 (.isub) 1 := fun h => hb h (by decide +kernel)
theorem d36_129 : D36 129 (.if_icmp .eq 13) 3 := fun h => hb h (by decide +kernel)
theorem d36_142 : D36 142 (.aload_n 1) 1 := fun h => hb h (by decide +kernel)
theorem d36_143 : D36 143 (.invokevirtual 99) 3 := fun h => hb h (by decide +kernel)
theorem d36_146 : D36 146 (.areturn) 1 := fun h => hb h (by decide +kernel)
abbrev D57 := DC prog_3_method_6_code
theorem d57_0 : D57 0 (.iload_n 0) 1 := fun h => hb h (by decide +kernel)
theorem d57_1 : D57 1 (.bipush 34) 2 := fun h => hb h (by decide +kernel)
theorem d57_3 : D57 3 (.if_icmp .eq 9) 3 := fun h => hb h (by decide +kernel)
theorem d57_6 : D57 6 (.iload_n 0) 1 := fun h => hb h (by decide +kernel)
theorem d57_7 : D57 7 (.bipush 92) 2 := fun h => hb h (by decide +kernel)
theorem d57_9 : D57 9 (.if_icmp .ne 7) 3 := fun h => hb h (by decide +kernel)
theorem d57_12 : D57 12 (.iconst 1) 1 := fun h => hb h (by decide +kernel)
theorem d57_13 : D57 13 (.goto 4) 3 := fun h => hb h (by decide +kernel)
theorem d57_16 : D57 16 (.iconst 0) 1 := fun h => hb h (by decide +kernel)
theorem d57_17 : D57 17 (.ireturn) 1 := fun h => hb h (by decide +kernel)
abbrev D56 := DC prog_3_method_7_code
theorem d56_0 : D56 0 (.iconst 0) 1 := fun h => hb h (by decide +kernel)
theorem d56_1 : D56 1 (.istore_n 1) 1 := fun h => hb h (by decide +kernel)
theorem d56_2 : D56 2 (.iload_n 1) 1 := fun h => hb h (by decide +kernel)
theorem d56_3 : D56 3 (.aload_n 0) 1 := fun h => hb h (by decide +kernel)
theorem d56_4 : D56 4 (.invokevirtual 21) 3 := fun h => hb h (by decide +kernel)
theorem d56_7 : D56 7 (.if_icmp .ge 47) 3 := fun h => hb h (by decide +kernel)
theorem d56_10 : D56 10 (.aload_n 0) 1 := fun h => hb h (by decide +kernel)
theorem d56_11 : D56 11 (.iload_n 1) 1 := fun h => hb h (by decide +kernel)
theorem d56_12 : D56 12 (.invokevirtual 36) 3 := fun h => hb h (by decide +kernel)
theorem d56_15 : D56 15 (.istore_n 2) 1 := fun h => hb h (by decide +kernel)
theorem d56_16 : D56 16 (.iload_n 2) 1 := fun h => hb h (by decide +kernel)
theorem d56_17 : D56 17 (.bipush 32) 2 := fun h => hb h (by decide +kernel)
theorem d56_19 : D56 19 (.if_icmp .eq 15) 3 := fun h => hb h (by decide +kernel)
theorem d56_22 : D56 22 (.iload_n 2) 1 := fun h => hb h (by decide +kernel)
theorem d56_23 : D56 23 (.bipush 44) 2 := fun h => hb h (by decide +kernel)
theorem d56_25 : D56 25 (.if_icmp .eq 9) 3 := fun h => hb h (by decide +kernel)
theorem d56_28 : D56 28 (.iload_n 2) 1 := fun h => hb h (by decide +kernel)
theorem d56_29 : D56 29 (.bipush 34) 2 := fun h => hb h (by decide +kernel)
theorem d56_31 : D56 31 (.if_icmp .ne 17) 3 := fun h => hb h (by decide +kernel)
theorem d56_48 : D56 48 (.iinc 1 1) 3 := fun h => hb h (by decide +kernel)
theorem d56_51 : D56 51 (.goto (-49)) 3 := fun h => hb h (by decide +kernel)
theorem d56_54 : D56 54 (.aload_n 0) 1 := fun h => hb h (by decide +kernel)
theorem d56_55 : D56 55 (.areturn) 1 := fun h => hb h (by decide +kernel)
theorem pn_0 : plainName "com/example/seshat/seshat/IdempotencyKeyParsePinLaw" = true := by first | (simp [plainName, overriddenIn]; done) | decide +kernel
theorem pn_1 : plainName "com/example/seshat/seshat/IdempotencyKey" = true := by first | (simp [plainName, overriddenIn]; done) | decide +kernel
theorem pn_2 : plainName "java/util/Objects" = true := by first | (simp [plainName, overriddenIn]; done) | decide +kernel
theorem pn_3 : plainName "java/lang/String" = true := by first | (simp [plainName, overriddenIn]; done) | decide +kernel
theorem pn_4 : plainName "jdk/internal/util/Preconditions" = true := by first | (simp [plainName, overriddenIn]; done) | decide +kernel
theorem pn_5 : plainName "java/lang/StringLatin1" = true := by first | (simp [plainName, overriddenIn]; done) | decide +kernel
theorem pn_6 : plainName "java/util/Arrays" = true := by first | (simp [plainName, overriddenIn]; done) | decide +kernel
theorem pn_7 : plainName "jdk/internal/util/ArraysSupport" = true := by first | (simp [plainName, overriddenIn]; done) | decide +kernel
theorem pn_8 : plainName "java/lang/Record" = true := by first | (simp [plainName, overriddenIn]; done) | decide +kernel
theorem pn_9 : plainName "java/lang/AbstractStringBuilder" = true := by first | (simp [plainName, overriddenIn]; done) | decide +kernel
theorem pn_10 : plainName "java/lang/StringBuilder" = true := by first | (simp [plainName, overriddenIn]; done) | decide +kernel
theorem pd_0 : parseMethodDescriptor "(C)Z" = some ⟨[.char], some .boolean⟩ := by decide +kernel
theorem pd_1 : parseMethodDescriptor "(I)C" = some ⟨[.int], some .char⟩ := by decide +kernel
theorem pd_2 : parseMethodDescriptor "(CZZ)I" = some ⟨[.char, .boolean, .boolean], some .int⟩ := by decide +kernel
theorem pd_3 : parseMethodDescriptor "(II)C" = some ⟨[.int, .int], some .char⟩ := by decide +kernel
theorem pd_4 : parseMethodDescriptor "([CICZZ)I" = some ⟨[(.array .char), .int, .char, .boolean, .boolean], some .int⟩ := by decide +kernel
theorem pd_5 : parseMethodDescriptor "([C)V" = some ⟨[(.array .char)], none⟩ := by decide +kernel
theorem pd_6 : parseMethodDescriptor "(Ljava/lang/Object;Ljava/lang/String;)Ljava/lang/Object;" = some ⟨[(.object "java/lang/Object"), (.object "java/lang/String")], some (.object "java/lang/Object")⟩ := by decide +kernel
theorem pd_7 : parseMethodDescriptor "()B" = some ⟨[], some .byte⟩ := by decide +kernel
theorem pd_8 : parseMethodDescriptor "()I" = some ⟨[], some .int⟩ := by decide +kernel
theorem pd_9 : parseMethodDescriptor "()Z" = some ⟨[], some .boolean⟩ := by decide +kernel
theorem pd_10 : parseMethodDescriptor "(IILjava/util/function/BiFunction;)I" = some ⟨[.int, .int, (.object "java/util/function/BiFunction")], some .int⟩ := by decide +kernel
theorem pd_11 : parseMethodDescriptor "(II)V" = some ⟨[.int, .int], none⟩ := by decide +kernel
theorem pd_12 : parseMethodDescriptor "([BI)C" = some ⟨[(.array .byte), .int], some .char⟩ := by decide +kernel
theorem pd_13 : parseMethodDescriptor "(IIILjava/util/function/BiFunction;)I" = some ⟨[.int, .int, .int, (.object "java/util/function/BiFunction")], some .int⟩ := by decide +kernel
theorem pd_14 : parseMethodDescriptor "(III)V" = some ⟨[.int, .int, .int], none⟩ := by decide +kernel
theorem pd_15 : parseMethodDescriptor "(II)I" = some ⟨[.int, .int], some .int⟩ := by decide +kernel
theorem pd_16 : parseMethodDescriptor "([BII)[B" = some ⟨[(.array .byte), .int, .int], some (.array .byte)⟩ := by decide +kernel
theorem pd_17 : parseMethodDescriptor "([BB)V" = some ⟨[(.array .byte), .byte], none⟩ := by decide +kernel
theorem pd_18 : parseMethodDescriptor "([BII)Ljava/lang/String;" = some ⟨[(.array .byte), .int, .int], some (.object "java/lang/String")⟩ := by decide +kernel
theorem pd_19 : parseMethodDescriptor "(II)Ljava/lang/String;" = some ⟨[.int, .int], some (.object "java/lang/String")⟩ := by decide +kernel
theorem pd_20 : parseMethodDescriptor "(Ljava/lang/String;)Ljava/lang/String;" = some ⟨[(.object "java/lang/String")], some (.object "java/lang/String")⟩ := by decide +kernel
theorem pd_21 : parseMethodDescriptor "([BI[BII)I" = some ⟨[(.array .byte), .int, (.array .byte), .int, .int], some .int⟩ := by decide +kernel
theorem pd_22 : parseMethodDescriptor "(Ljava/lang/String;I)Z" = some ⟨[(.object "java/lang/String"), .int], some .boolean⟩ := by decide +kernel
theorem pd_23 : parseMethodDescriptor "(Ljava/lang/String;)Z" = some ⟨[(.object "java/lang/String")], some .boolean⟩ := by decide +kernel
theorem pd_24 : parseMethodDescriptor "()V" = some ⟨[], none⟩ := by decide +kernel
theorem pd_25 : parseMethodDescriptor "(Ljava/lang/String;)V" = some ⟨[(.object "java/lang/String")], none⟩ := by decide +kernel
theorem pd_26 : parseMethodDescriptor "(I)V" = some ⟨[.int], none⟩ := by decide +kernel
theorem pd_27 : parseMethodDescriptor "()[B" = some ⟨[], some (.array .byte)⟩ := by decide +kernel
theorem pd_28 : parseMethodDescriptor "(Ljava/lang/AbstractStringBuilder;Ljava/lang/Void;)V" = some ⟨[(.object "java/lang/AbstractStringBuilder"), (.object "java/lang/Void")], none⟩ := by decide +kernel
theorem pd_29 : parseMethodDescriptor "(Ljava/lang/StringBuilder;)V" = some ⟨[(.object "java/lang/StringBuilder")], none⟩ := by decide +kernel
theorem pd_30 : parseMethodDescriptor "()Ljava/lang/String;" = some ⟨[], some (.object "java/lang/String")⟩ := by decide +kernel
theorem pd_31 : parseMethodDescriptor "(C)Ljava/lang/AbstractStringBuilder;" = some ⟨[.char], some (.object "java/lang/AbstractStringBuilder")⟩ := by decide +kernel
theorem pd_32 : parseMethodDescriptor "(C)Ljava/lang/StringBuilder;" = some ⟨[.char], some (.object "java/lang/StringBuilder")⟩ := by decide +kernel
theorem pd_33 : parseMethodDescriptor "(Ljava/lang/String;)Lcom/example/seshat/seshat/IdempotencyKey;" = some ⟨[(.object "java/lang/String")], some (.object "com/example/seshat/seshat/IdempotencyKey")⟩ := by decide +kernel
theorem pd_34 : parseMethodDescriptor "([B[B)Z" = some ⟨[(.array .byte), (.array .byte)], some .boolean⟩ := by decide +kernel
theorem pd_35 : parseMethodDescriptor "(Ljava/lang/Object;)Z" = some ⟨[(.object "java/lang/Object")], some .boolean⟩ := by decide +kernel
theorem wd_0 : WD (.methodLink "com/example/seshat/seshat/IdempotencyKeyParsePinLaw" 7 ⟨"com/example/seshat/seshat/IdempotencyKeyParsePinLaw", "keyChar", "(I)C"⟩) := own_wd 0 rfl
theorem wd_1 : WD (.static ⟨"com/example/seshat/seshat/IdempotencyKeyParsePinLaw", "keyChar", "(I)C"⟩) := own_wd 1 rfl
theorem wd_2 : WD (.initialized "com/example/seshat/seshat/IdempotencyKeyParsePinLaw") := own_wd 2 rfl
theorem wd_3 : WD (.code ⟨"com/example/seshat/seshat/IdempotencyKeyParsePinLaw", "keyChar", "(I)C"⟩ method_3_code 1 (Option.some Jvm.ClassFile.FieldType.char)) := own_wd 3 rfl
theorem wd_4 : WD (.constant "com/example/seshat/seshat/IdempotencyKeyParsePinLaw" 48 (2147483647 : Int32)) := own_wd 4 rfl
theorem wd_5 : WD (.methodLink "com/example/seshat/seshat/IdempotencyKeyParsePinLaw" 13 ⟨"com/example/seshat/seshat/IdempotencyKeyParsePinLaw", "plain", "(C)Z"⟩) := own_wd 5 rfl
theorem wd_6 : WD (.static ⟨"com/example/seshat/seshat/IdempotencyKeyParsePinLaw", "plain", "(C)Z"⟩) := own_wd 6 rfl
theorem wd_7 : WD (.code ⟨"com/example/seshat/seshat/IdempotencyKeyParsePinLaw", "plain", "(C)Z"⟩ method_4_code 1 (Option.some Jvm.ClassFile.FieldType.boolean)) := own_wd 7 rfl
theorem wd_8 : WD (.methodLink "com/example/seshat/seshat/IdempotencyKeyParsePinLaw" 17 ⟨"com/example/seshat/seshat/IdempotencyKeyParsePinLaw", "width", "(CZZ)I"⟩) := own_wd 8 rfl
theorem wd_9 : WD (.static ⟨"com/example/seshat/seshat/IdempotencyKeyParsePinLaw", "width", "(CZZ)I"⟩) := own_wd 9 rfl
theorem wd_10 : WD (.code ⟨"com/example/seshat/seshat/IdempotencyKeyParsePinLaw", "width", "(CZZ)I"⟩ method_6_code 3 (Option.some Jvm.ClassFile.FieldType.int)) := own_wd 10 rfl
theorem wd_11 : WD (.methodLink "com/example/seshat/seshat/IdempotencyKeyParsePinLaw" 49 ⟨"com/example/seshat/seshat/IdempotencyKeyParsePinLaw", "escaped", "(C)Z"⟩) := own_wd 11 rfl
theorem wd_12 : WD (.static ⟨"com/example/seshat/seshat/IdempotencyKeyParsePinLaw", "escaped", "(C)Z"⟩) := own_wd 12 rfl
theorem wd_13 : WD (.code ⟨"com/example/seshat/seshat/IdempotencyKeyParsePinLaw", "escaped", "(C)Z"⟩ method_5_code 1 (Option.some Jvm.ClassFile.FieldType.boolean)) := own_wd 13 rfl
theorem wd_14 : WD (.arrayClass Jvm.ClassFile.FieldType.char) := own_wd 14 rfl
theorem wd_15 : WD (.methodLink "com/example/seshat/seshat/IdempotencyKeyParsePinLaw" 21 ⟨"com/example/seshat/seshat/IdempotencyKeyParsePinLaw", "wsChar", "(II)C"⟩) := own_wd 15 rfl
theorem wd_16 : WD (.static ⟨"com/example/seshat/seshat/IdempotencyKeyParsePinLaw", "wsChar", "(II)C"⟩) := own_wd 16 rfl
theorem wd_17 : WD (.code ⟨"com/example/seshat/seshat/IdempotencyKeyParsePinLaw", "wsChar", "(II)C"⟩ method_8_code 2 (Option.some Jvm.ClassFile.FieldType.char)) := own_wd 17 rfl
theorem wd_18 : WD (.methodLink "com/example/seshat/seshat/IdempotencyKeyParsePinLaw" 25 ⟨"com/example/seshat/seshat/IdempotencyKeyParsePinLaw", "put", "([CICZZ)I"⟩) := own_wd 18 rfl
theorem wd_19 : WD (.static ⟨"com/example/seshat/seshat/IdempotencyKeyParsePinLaw", "put", "([CICZZ)I"⟩) := own_wd 19 rfl
theorem wd_20 : WD (.code ⟨"com/example/seshat/seshat/IdempotencyKeyParsePinLaw", "put", "([CICZZ)I"⟩ method_7_code 5 (Option.some Jvm.ClassFile.FieldType.int)) := own_wd 20 rfl
theorem wd_21 : WD (.classLink "com/example/seshat/seshat/IdempotencyKeyParsePinLaw" 29 kc0) := own_wd 21 rfl
theorem wd_22 : WD (.instantiable kc0 4) := own_wd 22 rfl
theorem wd_23 : WD (.initialized kc0) := own_wd 23 rfl
theorem wd_24 : WD (.methodLink "com/example/seshat/seshat/IdempotencyKeyParsePinLaw" 31 ⟨kc0, "<init>", "([C)V"⟩) := own_wd 24 rfl
theorem wd_25 : WD (.instanceMethod ⟨kc0, "<init>", "([C)V"⟩) := own_wd 25 rfl
theorem wd_26 : WD (.code ⟨kc0, "<init>", "([C)V"⟩ jdk_42_method_3_code 2 (Option.none : Option Jvm.ClassFile.FieldType)) := own_wd 26 rfl
theorem wd_31 : WD (.methodLink kc0 1 ⟨"java/lang/Object", "<init>", "()V"⟩) := own_wd 31 rfl
theorem wd_32 : WD (.instanceMethod ⟨"java/lang/Object", "<init>", "()V"⟩) := own_wd 32 rfl
theorem wd_33 : WD (.code ⟨"java/lang/Object", "<init>", "()V"⟩ object_method_1_code 1 (Option.none : Option Jvm.ClassFile.FieldType)) := own_wd 33 rfl
theorem wd_34 : WD (.fieldLink kc0 38 kc0 "COMPACT_STRINGS" "Z") := own_wd 34 rfl
theorem wd_39 : WD (.arrayClass Jvm.ClassFile.FieldType.byte) := own_wd 39 rfl
theorem wd_46 : WD (.fieldLink kc0 15 kc0 "coder" "B") := own_wd 46 rfl
theorem wd_47 : WD (.laysFinal kc0 kc0 "coder" "B") := own_wd 47 rfl
theorem wd_48 : WD (.fieldLink kc0 9 kc0 "value" "[B") := own_wd 48 rfl
theorem wd_49 : WD (.laysFinal kc0 kc0 "value" "[B") := own_wd 49 rfl
theorem wd_50 : WD (.methodLink "com/example/seshat/seshat/IdempotencyKeyParsePinLaw" 34 ⟨kc2, "parse", "(Ljava/lang/String;)Lcom/example/seshat/seshat/IdempotencyKey;"⟩) := own_wd 50 rfl
theorem wd_51 : WD (.static ⟨kc2, "parse", "(Ljava/lang/String;)Lcom/example/seshat/seshat/IdempotencyKey;"⟩) := own_wd 51 rfl
theorem wd_52 : WD (.initialized kc2) := own_wd 52 rfl
theorem wd_53 : WD (.code ⟨kc2, "parse", "(Ljava/lang/String;)Lcom/example/seshat/seshat/IdempotencyKey;"⟩ prog_3_method_2_code 3 (Option.some (Jvm.ClassFile.FieldType.object kc2))) := own_wd 53 rfl
theorem wd_54 : WD (.stringLink kc2 57 "fieldValue") := own_wd 54 rfl
theorem wd_57 : WD (.methodLink kc2 9 ⟨"java/util/Objects", "requireNonNull", "(Ljava/lang/Object;Ljava/lang/String;)Ljava/lang/Object;"⟩) := own_wd 57 rfl
theorem wd_58 : WD (.static ⟨"java/util/Objects", "requireNonNull", "(Ljava/lang/Object;Ljava/lang/String;)Ljava/lang/Object;"⟩) := own_wd 58 rfl
theorem wd_59 : WD (.initialized "java/util/Objects") := own_wd 59 rfl
theorem wd_60 : WD (.code ⟨"java/util/Objects", "requireNonNull", "(Ljava/lang/Object;Ljava/lang/String;)Ljava/lang/Object;"⟩ jdk_31_method_11_code 2 (Option.some (Jvm.ClassFile.FieldType.object "java/lang/Object"))) := own_wd 60 rfl
theorem wd_61 : WD (.classLink kc2 16 kc0) := own_wd 61 rfl
theorem wd_62 : WD (.methodLink kc2 59 ⟨kc2, "trimWhitespace", "(Ljava/lang/String;)Ljava/lang/String;"⟩) := own_wd 62 rfl
theorem wd_63 : WD (.static ⟨kc2, "trimWhitespace", "(Ljava/lang/String;)Ljava/lang/String;"⟩) := own_wd 63 rfl
theorem wd_64 : WD (.code ⟨kc2, "trimWhitespace", "(Ljava/lang/String;)Ljava/lang/String;"⟩ prog_3_method_3_code 3 (Option.some (Jvm.ClassFile.FieldType.object kc0))) := own_wd 64 rfl
theorem wd_65 : WD (.methodLink kc2 21 ⟨kc0, "length", "()I"⟩) := own_wd 65 rfl
theorem wd_66 : WD (.declares ⟨kc0, "length", "()I"⟩) := own_wd 66 rfl
theorem wd_67 : WD (.instanceMethod ⟨kc0, "length", "()I"⟩) := own_wd 67 rfl
theorem wd_68 : WD (.selects kc0 ⟨kc0, "length", "()I"⟩ ⟨kc0, "length", "()I"⟩) := own_wd 68 rfl
theorem wd_69 : WD (.code ⟨kc0, "length", "()I"⟩ jdk_42_method_54_code 1 (Option.some Jvm.ClassFile.FieldType.int)) := own_wd 69 rfl
theorem wd_70 : WD (.methodLink kc0 335 ⟨kc0, "coder", "()B"⟩) := own_wd 70 rfl
theorem wd_71 : WD (.declares ⟨kc0, "coder", "()B"⟩) := own_wd 71 rfl
theorem wd_72 : WD (.instanceMethod ⟨kc0, "coder", "()B"⟩) := own_wd 72 rfl
theorem wd_73 : WD (.selects kc0 ⟨kc0, "coder", "()B"⟩ ⟨kc0, "coder", "()B"⟩) := own_wd 73 rfl
theorem wd_74 : WD (.code ⟨kc0, "coder", "()B"⟩ jdk_42_method_152_code 1 (Option.some Jvm.ClassFile.FieldType.byte)) := own_wd 74 rfl
theorem wd_75 : WD (.methodLink kc2 36 ⟨kc0, "charAt", "(I)C"⟩) := own_wd 75 rfl
theorem wd_76 : WD (.declares ⟨kc0, "charAt", "(I)C"⟩) := own_wd 76 rfl
theorem wd_77 : WD (.instanceMethod ⟨kc0, "charAt", "(I)C"⟩) := own_wd 77 rfl
theorem wd_78 : WD (.selects kc0 ⟨kc0, "charAt", "(I)C"⟩ ⟨kc0, "charAt", "(I)C"⟩) := own_wd 78 rfl
theorem wd_79 : WD (.code ⟨kc0, "charAt", "(I)C"⟩ jdk_42_method_56_code 2 (Option.some Jvm.ClassFile.FieldType.char)) := own_wd 79 rfl
theorem wd_80 : WD (.methodLink kc0 492 ⟨kc0, "isLatin1", "()Z"⟩) := own_wd 80 rfl
theorem wd_81 : WD (.declares ⟨kc0, "isLatin1", "()Z"⟩) := own_wd 81 rfl
theorem wd_82 : WD (.instanceMethod ⟨kc0, "isLatin1", "()Z"⟩) := own_wd 82 rfl
theorem wd_83 : WD (.selects kc0 ⟨kc0, "isLatin1", "()Z"⟩ ⟨kc0, "isLatin1", "()Z"⟩) := own_wd 83 rfl
theorem wd_84 : WD (.code ⟨kc0, "isLatin1", "()Z"⟩ jdk_42_method_154_code 1 (Option.some Jvm.ClassFile.FieldType.boolean)) := own_wd 84 rfl
theorem wd_85 : WD (.methodLink kc0 495 ⟨"java/lang/StringLatin1", "charAt", "([BI)C"⟩) := own_wd 85 rfl
theorem wd_86 : WD (.static ⟨"java/lang/StringLatin1", "charAt", "([BI)C"⟩) := own_wd 86 rfl
theorem wd_87 : WD (.initialized "java/lang/StringLatin1") := own_wd 87 rfl
theorem wd_88 : WD (.code ⟨"java/lang/StringLatin1", "charAt", "([BI)C"⟩ jdk_43_method_2_code 2 (Option.some Jvm.ClassFile.FieldType.char)) := own_wd 88 rfl
theorem wd_89 : WD (.methodLink "java/lang/StringLatin1" 9 ⟨kc0, "checkIndex", "(II)V"⟩) := own_wd 89 rfl
theorem wd_90 : WD (.static ⟨kc0, "checkIndex", "(II)V"⟩) := own_wd 90 rfl
theorem wd_91 : WD (.code ⟨kc0, "checkIndex", "(II)V"⟩ jdk_42_method_155_code 2 (Option.none : Option Jvm.ClassFile.FieldType)) := own_wd 91 rfl
theorem wd_92 : WD (.fieldLink kc0 1053 kc3 "SIOOBE_FORMATTER" "Ljava/util/function/BiFunction;") := own_wd 92 rfl
theorem wd_93 : WD (.initialized kc3) := own_wd 93 rfl
theorem wd_94 : WD (.methodLink kc0 1059 ⟨kc3, "checkIndex", "(IILjava/util/function/BiFunction;)I"⟩) := own_wd 94 rfl
theorem wd_95 : WD (.static ⟨kc3, "checkIndex", "(IILjava/util/function/BiFunction;)I"⟩) := own_wd 95 rfl
theorem wd_96 : WD (.code ⟨kc3, "checkIndex", "(IILjava/util/function/BiFunction;)I"⟩ jdk_41_method_11_code 3 (Option.some Jvm.ClassFile.FieldType.int)) := own_wd 96 rfl
theorem wd_97 : WD (.methodLink kc2 76 ⟨kc2, "isWhitespace", "(C)Z"⟩) := own_wd 97 rfl
theorem wd_98 : WD (.static ⟨kc2, "isWhitespace", "(C)Z"⟩) := own_wd 98 rfl
theorem wd_99 : WD (.code ⟨kc2, "isWhitespace", "(C)Z"⟩ prog_3_method_4_code 1 (Option.some Jvm.ClassFile.FieldType.boolean)) := own_wd 99 rfl
theorem wd_100 : WD (.methodLink kc2 80 ⟨kc0, "substring", "(II)Ljava/lang/String;"⟩) := own_wd 100 rfl
theorem wd_101 : WD (.declares ⟨kc0, "substring", "(II)Ljava/lang/String;"⟩) := own_wd 101 rfl
theorem wd_102 : WD (.instanceMethod ⟨kc0, "substring", "(II)Ljava/lang/String;"⟩) := own_wd 102 rfl
theorem wd_103 : WD (.selects kc0 ⟨kc0, "substring", "(II)Ljava/lang/String;"⟩ ⟨kc0, "substring", "(II)Ljava/lang/String;"⟩) := own_wd 103 rfl
theorem wd_104 : WD (.code ⟨kc0, "substring", "(II)Ljava/lang/String;"⟩ jdk_42_method_92_code 5 (Option.some (Jvm.ClassFile.FieldType.object kc0))) := own_wd 104 rfl
theorem wd_105 : WD (.methodLink kc0 505 ⟨kc0, "length", "()I"⟩) := own_wd 105 rfl
theorem wd_106 : WD (.methodLink kc0 521 ⟨kc0, "checkBoundsBeginEnd", "(III)V"⟩) := own_wd 106 rfl
theorem wd_107 : WD (.static ⟨kc0, "checkBoundsBeginEnd", "(III)V"⟩) := own_wd 107 rfl
theorem wd_108 : WD (.code ⟨kc0, "checkBoundsBeginEnd", "(III)V"⟩ jdk_42_method_158_code 3 (Option.none : Option Jvm.ClassFile.FieldType)) := own_wd 108 rfl
theorem wd_109 : WD (.methodLink kc0 1062 ⟨kc3, "checkFromToIndex", "(IIILjava/util/function/BiFunction;)I"⟩) := own_wd 109 rfl
theorem wd_110 : WD (.static ⟨kc3, "checkFromToIndex", "(IIILjava/util/function/BiFunction;)I"⟩) := own_wd 110 rfl
theorem wd_111 : WD (.code ⟨kc3, "checkFromToIndex", "(IIILjava/util/function/BiFunction;)I"⟩ jdk_41_method_12_code 4 (Option.some Jvm.ClassFile.FieldType.int)) := own_wd 111 rfl
theorem wd_112 : WD (.methodLink kc0 685 ⟨"java/lang/StringLatin1", "newString", "([BII)Ljava/lang/String;"⟩) := own_wd 112 rfl
theorem wd_113 : WD (.static ⟨"java/lang/StringLatin1", "newString", "([BII)Ljava/lang/String;"⟩) := own_wd 113 rfl
theorem wd_114 : WD (.code ⟨"java/lang/StringLatin1", "newString", "([BII)Ljava/lang/String;"⟩ jdk_43_method_47_code 3 (Option.some (Jvm.ClassFile.FieldType.object kc0))) := own_wd 114 rfl
theorem wd_115 : WD (.classLink "java/lang/StringLatin1" 1 kc0) := own_wd 115 rfl
theorem wd_116 : WD (.methodLink "java/lang/StringLatin1" 232 ⟨"java/util/Arrays", "copyOfRange", "([BII)[B"⟩) := own_wd 116 rfl
theorem wd_117 : WD (.static ⟨"java/util/Arrays", "copyOfRange", "([BII)[B"⟩) := own_wd 117 rfl
theorem wd_118 : WD (.initialized "java/util/Arrays") := own_wd 118 rfl
theorem wd_119 : WD (.code ⟨"java/util/Arrays", "copyOfRange", "([BII)[B"⟩ jdk_65_method_132_code 3 (Option.some (Jvm.ClassFile.FieldType.array Jvm.ClassFile.FieldType.byte))) := own_wd 119 rfl
theorem wd_120 : WD (.methodLink "java/util/Arrays" 339 ⟨"java/util/Arrays", "copyOfRangeByte", "([BII)[B"⟩) := own_wd 120 rfl
theorem wd_121 : WD (.static ⟨"java/util/Arrays", "copyOfRangeByte", "([BII)[B"⟩) := own_wd 121 rfl
theorem wd_122 : WD (.code ⟨"java/util/Arrays", "copyOfRangeByte", "([BII)[B"⟩ jdk_65_method_133_code 5 (Option.some (Jvm.ClassFile.FieldType.array Jvm.ClassFile.FieldType.byte))) := own_wd 122 rfl
theorem wd_123 : WD (.methodLink "java/util/Arrays" 343 ⟨"java/util/Arrays", "checkLength", "(II)V"⟩) := own_wd 123 rfl
theorem wd_124 : WD (.static ⟨"java/util/Arrays", "checkLength", "(II)V"⟩) := own_wd 124 rfl
theorem wd_125 : WD (.code ⟨"java/util/Arrays", "checkLength", "(II)V"⟩ jdk_65_method_131_code 2 (Option.none : Option Jvm.ClassFile.FieldType)) := own_wd 125 rfl
theorem wd_126 : WD (.methodLink "java/util/Arrays" 304 ⟨"java/lang/Math", "min", "(II)I"⟩) := own_wd 126 rfl
theorem wd_127 : WD (.static ⟨"java/lang/Math", "min", "(II)I"⟩) := own_wd 127 rfl
theorem wd_128 : WD (.initialized "java/lang/Math") := own_wd 128 rfl
theorem wd_129 : WD (.code ⟨"java/lang/Math", "min", "(II)I"⟩ jdk_29_method_69_code 2 (Option.some Jvm.ClassFile.FieldType.int)) := own_wd 129 rfl
theorem wd_130 : WD (.methodLink "java/util/Arrays" 150 ⟨"java/lang/System", "arraycopy", "(Ljava/lang/Object;ILjava/lang/Object;II)V"⟩) := own_wd 130 rfl
theorem wd_131 : WD (.static ⟨"java/lang/System", "arraycopy", "(Ljava/lang/Object;ILjava/lang/Object;II)V"⟩) := own_wd 131 rfl
theorem wd_132 : WD (.initialized "java/lang/System") := own_wd 132 rfl
theorem wd_133 : WD (.native ⟨"java/lang/System", "arraycopy", "(Ljava/lang/Object;ILjava/lang/Object;II)V"⟩) := own_wd 133 rfl
theorem wd_134 : WD (.methodLink "java/lang/StringLatin1" 112 ⟨kc0, "<init>", "([BB)V"⟩) := own_wd 134 rfl
theorem wd_135 : WD (.instanceMethod ⟨kc0, "<init>", "([BB)V"⟩) := own_wd 135 rfl
theorem wd_136 : WD (.code ⟨kc0, "<init>", "([BB)V"⟩ jdk_42_method_151_code 3 (Option.none : Option Jvm.ClassFile.FieldType)) := own_wd 136 rfl
theorem wd_137 : WD (.stringLink kc2 63 "\"") := own_wd 137 rfl
theorem wd_138 : WD (.methodLink kc2 65 ⟨kc0, "startsWith", "(Ljava/lang/String;)Z"⟩) := own_wd 138 rfl
theorem wd_139 : WD (.declares ⟨kc0, "startsWith", "(Ljava/lang/String;)Z"⟩) := own_wd 139 rfl
theorem wd_140 : WD (.instanceMethod ⟨kc0, "startsWith", "(Ljava/lang/String;)Z"⟩) := own_wd 140 rfl
theorem wd_141 : WD (.selects kc0 ⟨kc0, "startsWith", "(Ljava/lang/String;)Z"⟩ ⟨kc0, "startsWith", "(Ljava/lang/String;)Z"⟩) := own_wd 141 rfl
theorem wd_142 : WD (.code ⟨kc0, "startsWith", "(Ljava/lang/String;)Z"⟩ jdk_42_method_76_code 2 (Option.some Jvm.ClassFile.FieldType.boolean)) := own_wd 142 rfl
theorem wd_143 : WD (.methodLink kc0 624 ⟨kc0, "startsWith", "(Ljava/lang/String;I)Z"⟩) := own_wd 143 rfl
theorem wd_144 : WD (.declares ⟨kc0, "startsWith", "(Ljava/lang/String;I)Z"⟩) := own_wd 144 rfl
theorem wd_145 : WD (.instanceMethod ⟨kc0, "startsWith", "(Ljava/lang/String;I)Z"⟩) := own_wd 145 rfl
theorem wd_146 : WD (.selects kc0 ⟨kc0, "startsWith", "(Ljava/lang/String;I)Z"⟩ ⟨kc0, "startsWith", "(Ljava/lang/String;I)Z"⟩) := own_wd 146 rfl
theorem wd_147 : WD (.code ⟨kc0, "startsWith", "(Ljava/lang/String;I)Z"⟩ jdk_42_method_75_code 8 (Option.some Jvm.ClassFile.FieldType.boolean)) := own_wd 147 rfl
theorem wd_148 : WD (.methodLink kc0 607 ⟨"jdk/internal/util/ArraysSupport", "mismatch", "([BI[BII)I"⟩) := own_wd 148 rfl
theorem wd_149 : WD (.static ⟨"jdk/internal/util/ArraysSupport", "mismatch", "([BI[BII)I"⟩) := own_wd 149 rfl
theorem wd_150 : WD (.initialized "jdk/internal/util/ArraysSupport") := own_wd 150 rfl
theorem wd_151 : WD (.code ⟨"jdk/internal/util/ArraysSupport", "mismatch", "([BI[BII)I"⟩ jdk_48_method_14_code 8 (Option.some Jvm.ClassFile.FieldType.int)) := own_wd 151 rfl
theorem wd_152 : WD (.methodLink kc2 69 ⟨kc2, "unquote", "(Ljava/lang/String;)Ljava/lang/String;"⟩) := own_wd 152 rfl
theorem wd_153 : WD (.static ⟨kc2, "unquote", "(Ljava/lang/String;)Ljava/lang/String;"⟩) := own_wd 153 rfl
theorem wd_154 : WD (.code ⟨kc2, "unquote", "(Ljava/lang/String;)Ljava/lang/String;"⟩ prog_3_method_5_code 5 (Option.some (Jvm.ClassFile.FieldType.object kc0))) := own_wd 154 rfl
theorem wd_155 : WD (.classLink kc2 84 kc4) := own_wd 155 rfl
theorem wd_156 : WD (.instantiable kc4 4) := own_wd 156 rfl
theorem wd_157 : WD (.initialized kc4) := own_wd 157 rfl
theorem wd_158 : WD (.methodLink kc2 86 ⟨kc4, "<init>", "(I)V"⟩) := own_wd 158 rfl
theorem wd_159 : WD (.instanceMethod ⟨kc4, "<init>", "(I)V"⟩) := own_wd 159 rfl
theorem wd_160 : WD (.code ⟨kc4, "<init>", "(I)V"⟩ jdk_67_method_2_code 2 (Option.none : Option Jvm.ClassFile.FieldType)) := own_wd 160 rfl
theorem wd_161 : WD (.methodLink kc4 1 ⟨kc1, "<init>", "(I)V"⟩) := own_wd 161 rfl
theorem wd_162 : WD (.instanceMethod ⟨kc1, "<init>", "(I)V"⟩) := own_wd 162 rfl
theorem wd_164 : WD (.castable kc4 kc1) := own_wd 164 rfl
theorem wd_165 : WD (.initialized kc1) := own_wd 165 rfl
theorem wd_166 : WD (.code ⟨kc1, "<init>", "(I)V"⟩ jdk_68_method_2_code 2 (Option.none : Option Jvm.ClassFile.FieldType)) := own_wd 166 rfl
theorem wd_167 : WD (.methodLink kc1 3 ⟨"java/lang/Object", "<init>", "()V"⟩) := own_wd 167 rfl
theorem wd_168 : WD (.fieldLink kc1 18 kc0 "COMPACT_STRINGS" "Z") := own_wd 168 rfl
theorem wd_169 : WD (.fieldLink kc1 15 kc1 "value" "[B") := own_wd 169 rfl
theorem wd_170 : WD (.lays kc4 kc1 "value" "[B") := own_wd 170 rfl
theorem wd_171 : WD (.fieldLink kc1 22 kc1 "coder" "B") := own_wd 171 rfl
theorem wd_172 : WD (.lays kc4 kc1 "coder" "B") := own_wd 172 rfl
theorem wd_173 : WD (.methodLink kc2 93 ⟨kc4, "append", "(C)Ljava/lang/StringBuilder;"⟩) := own_wd 173 rfl
theorem wd_174 : WD (.declares ⟨kc4, "append", "(C)Ljava/lang/StringBuilder;"⟩) := own_wd 174 rfl
theorem wd_175 : WD (.instanceMethod ⟨kc4, "append", "(C)Ljava/lang/StringBuilder;"⟩) := own_wd 175 rfl
theorem wd_176 : WD (.selects kc4 ⟨kc4, "append", "(C)Ljava/lang/StringBuilder;"⟩ ⟨kc4, "append", "(C)Ljava/lang/StringBuilder;"⟩) := own_wd 176 rfl
theorem wd_177 : WD (.code ⟨kc4, "append", "(C)Ljava/lang/StringBuilder;"⟩ jdk_67_method_14_code 2 (Option.some (Jvm.ClassFile.FieldType.object kc4))) := own_wd 177 rfl
theorem wd_178 : WD (.methodLink kc4 50 ⟨kc1, "append", "(C)Ljava/lang/AbstractStringBuilder;"⟩) := own_wd 178 rfl
theorem wd_179 : WD (.instanceMethod ⟨kc1, "append", "(C)Ljava/lang/AbstractStringBuilder;"⟩) := own_wd 179 rfl
theorem wd_180 : WD (.superclass kc4 kc1) := own_wd 180 rfl
theorem wd_182 : WD (.code ⟨kc1, "append", "(C)Ljava/lang/AbstractStringBuilder;"⟩ jdk_68_method_31_code 2 (Option.some (Jvm.ClassFile.FieldType.object kc1))) := own_wd 182 rfl
theorem wd_183 : WD (.fieldLink kc1 79 kc1 "count" "I") := own_wd 183 rfl
theorem wd_184 : WD (.lays kc4 kc1 "count" "I") := own_wd 184 rfl
theorem wd_185 : WD (.methodLink kc1 100 ⟨kc1, "ensureCapacityInternal", "(I)V"⟩) := own_wd 185 rfl
theorem wd_186 : WD (.instanceMethod ⟨kc1, "ensureCapacityInternal", "(I)V"⟩) := own_wd 186 rfl
theorem wd_187 : WD (.privateMethod ⟨kc1, "ensureCapacityInternal", "(I)V"⟩) := own_wd 187 rfl
theorem wd_188 : WD (.selects kc4 ⟨kc1, "ensureCapacityInternal", "(I)V"⟩ ⟨kc1, "ensureCapacityInternal", "(I)V"⟩) := own_wd 188 rfl
theorem wd_189 : WD (.code ⟨kc1, "ensureCapacityInternal", "(I)V"⟩ jdk_68_method_9_code 3 (Option.none : Option Jvm.ClassFile.FieldType)) := own_wd 189 rfl
theorem wd_190 : WD (.methodLink kc1 83 ⟨kc1, "isLatin1", "()Z"⟩) := own_wd 190 rfl
theorem wd_191 : WD (.declares ⟨kc1, "isLatin1", "()Z"⟩) := own_wd 191 rfl
theorem wd_192 : WD (.instanceMethod ⟨kc1, "isLatin1", "()Z"⟩) := own_wd 192 rfl
theorem wd_193 : WD (.selects kc4 ⟨kc1, "isLatin1", "()Z"⟩ ⟨kc1, "isLatin1", "()Z"⟩) := own_wd 193 rfl
theorem wd_194 : WD (.code ⟨kc1, "isLatin1", "()Z"⟩ jdk_68_method_68_code 1 (Option.some Jvm.ClassFile.FieldType.boolean)) := own_wd 194 rfl
theorem wd_195 : WD (.methodLink kc1 191 ⟨"java/lang/StringLatin1", "canEncode", "(C)Z"⟩) := own_wd 195 rfl
theorem wd_196 : WD (.static ⟨"java/lang/StringLatin1", "canEncode", "(C)Z"⟩) := own_wd 196 rfl
theorem wd_197 : WD (.code ⟨"java/lang/StringLatin1", "canEncode", "(C)Z"⟩ jdk_43_method_3_code 1 (Option.some Jvm.ClassFile.FieldType.boolean)) := own_wd 197 rfl
theorem wd_198 : WD (.methodLink kc2 99 ⟨kc4, "toString", "()Ljava/lang/String;"⟩) := own_wd 198 rfl
theorem wd_199 : WD (.declares ⟨kc4, "toString", "()Ljava/lang/String;"⟩) := own_wd 199 rfl
theorem wd_200 : WD (.instanceMethod ⟨kc4, "toString", "()Ljava/lang/String;"⟩) := own_wd 200 rfl
theorem wd_201 : WD (.selects kc4 ⟨kc4, "toString", "()Ljava/lang/String;"⟩ ⟨kc4, "toString", "()Ljava/lang/String;"⟩) := own_wd 201 rfl
theorem wd_202 : WD (.code ⟨kc4, "toString", "()Ljava/lang/String;"⟩ jdk_67_method_42_code 1 (Option.some (Jvm.ClassFile.FieldType.object kc0))) := own_wd 202 rfl
theorem wd_203 : WD (.classLink kc4 18 kc0) := own_wd 203 rfl
theorem wd_204 : WD (.methodLink kc4 137 ⟨kc0, "<init>", "(Ljava/lang/StringBuilder;)V"⟩) := own_wd 204 rfl
theorem wd_205 : WD (.instanceMethod ⟨kc0, "<init>", "(Ljava/lang/StringBuilder;)V"⟩) := own_wd 205 rfl
theorem wd_206 : WD (.code ⟨kc0, "<init>", "(Ljava/lang/StringBuilder;)V"⟩ jdk_42_method_53_code 2 (Option.none : Option Jvm.ClassFile.FieldType)) := own_wd 206 rfl
theorem wd_207 : WD (.methodLink kc0 489 ⟨kc0, "<init>", "(Ljava/lang/AbstractStringBuilder;Ljava/lang/Void;)V"⟩) := own_wd 207 rfl
theorem wd_208 : WD (.instanceMethod ⟨kc0, "<init>", "(Ljava/lang/AbstractStringBuilder;Ljava/lang/Void;)V"⟩) := own_wd 208 rfl
theorem wd_209 : WD (.code ⟨kc0, "<init>", "(Ljava/lang/AbstractStringBuilder;Ljava/lang/Void;)V"⟩ jdk_42_method_150_code 5 (Option.none : Option Jvm.ClassFile.FieldType)) := own_wd 209 rfl
theorem wd_210 : WD (.methodLink kc0 552 ⟨kc1, "getValue", "()[B"⟩) := own_wd 210 rfl
theorem wd_211 : WD (.declares ⟨kc1, "getValue", "()[B"⟩) := own_wd 211 rfl
theorem wd_212 : WD (.instanceMethod ⟨kc1, "getValue", "()[B"⟩) := own_wd 212 rfl
theorem wd_213 : WD (.selects kc4 ⟨kc1, "getValue", "()[B"⟩ ⟨kc1, "getValue", "()[B"⟩) := own_wd 213 rfl
theorem wd_214 : WD (.code ⟨kc1, "getValue", "()[B"⟩ jdk_68_method_64_code 1 (Option.some (Jvm.ClassFile.FieldType.array Jvm.ClassFile.FieldType.byte))) := own_wd 214 rfl
theorem wd_215 : WD (.methodLink kc0 549 ⟨kc1, "length", "()I"⟩) := own_wd 215 rfl
theorem wd_216 : WD (.declares ⟨kc1, "length", "()I"⟩) := own_wd 216 rfl
theorem wd_217 : WD (.instanceMethod ⟨kc1, "length", "()I"⟩) := own_wd 217 rfl
theorem wd_218 : WD (.selects kc4 ⟨kc1, "length", "()I"⟩ ⟨kc4, "length", "()I"⟩) := own_wd 218 rfl
theorem wd_219 : WD (.instanceMethod ⟨kc4, "length", "()I"⟩) := own_wd 219 rfl
theorem wd_220 : WD (.code ⟨kc4, "length", "()I"⟩ jdk_67_method_93_code 1 (Option.some Jvm.ClassFile.FieldType.int)) := own_wd 220 rfl
theorem wd_221 : WD (.methodLink kc4 343 ⟨kc1, "length", "()I"⟩) := own_wd 221 rfl
theorem wd_222 : WD (.code ⟨kc1, "length", "()I"⟩ jdk_68_method_6_code 1 (Option.some Jvm.ClassFile.FieldType.int)) := own_wd 222 rfl
theorem wd_223 : WD (.methodLink kc0 1047 ⟨kc1, "isLatin1", "()Z"⟩) := own_wd 223 rfl
theorem wd_224 : WD (.methodLink kc0 54 ⟨"java/util/Arrays", "copyOfRange", "([BII)[B"⟩) := own_wd 224 rfl
theorem wd_225 : WD (.classLink kc2 25 kc2) := own_wd 225 rfl
theorem wd_226 : WD (.instantiable kc2 1) := own_wd 226 rfl
theorem wd_227 : WD (.methodLink kc2 75 ⟨kc2, "<init>", "(Ljava/lang/String;)V"⟩) := own_wd 227 rfl
theorem wd_228 : WD (.instanceMethod ⟨kc2, "<init>", "(Ljava/lang/String;)V"⟩) := own_wd 228 rfl
theorem wd_229 : WD (.code ⟨kc2, "<init>", "(Ljava/lang/String;)V"⟩ prog_3_method_1_code 4 (Option.none : Option Jvm.ClassFile.FieldType)) := own_wd 229 rfl
theorem wd_230 : WD (.methodLink kc2 1 ⟨"java/lang/Record", "<init>", "()V"⟩) := own_wd 230 rfl
theorem wd_231 : WD (.instanceMethod ⟨"java/lang/Record", "<init>", "()V"⟩) := own_wd 231 rfl
theorem wd_233 : WD (.initialized "java/lang/Record") := own_wd 233 rfl
theorem wd_234 : WD (.code ⟨"java/lang/Record", "<init>", "()V"⟩ jdk_30_method_1_code 1 (Option.none : Option Jvm.ClassFile.FieldType)) := own_wd 234 rfl
theorem wd_235 : WD (.methodLink "java/lang/Record" 1 ⟨"java/lang/Object", "<init>", "()V"⟩) := own_wd 235 rfl
theorem wd_236 : WD (.stringLink kc2 7 "value") := own_wd 236 rfl
theorem wd_237 : WD (.methodLink kc2 15 ⟨kc0, "isEmpty", "()Z"⟩) := own_wd 237 rfl
theorem wd_238 : WD (.declares ⟨kc0, "isEmpty", "()Z"⟩) := own_wd 238 rfl
theorem wd_239 : WD (.instanceMethod ⟨kc0, "isEmpty", "()Z"⟩) := own_wd 239 rfl
theorem wd_240 : WD (.selects kc0 ⟨kc0, "isEmpty", "()Z"⟩ ⟨kc0, "isEmpty", "()Z"⟩) := own_wd 240 rfl
theorem wd_241 : WD (.code ⟨kc0, "isEmpty", "()Z"⟩ jdk_42_method_55_code 1 (Option.some Jvm.ClassFile.FieldType.boolean)) := own_wd 241 rfl
theorem wd_242 : WD (.fieldLink kc2 54 kc2 "value" "Ljava/lang/String;") := own_wd 242 rfl
theorem wd_243 : WD (.laysFinal kc2 kc2 "value" "Ljava/lang/String;") := own_wd 243 rfl
theorem wd_244 : WD (.methodLink "com/example/seshat/seshat/IdempotencyKeyParsePinLaw" 40 ⟨kc2, "value", "()Ljava/lang/String;"⟩) := own_wd 244 rfl
theorem wd_245 : WD (.declares ⟨kc2, "value", "()Ljava/lang/String;"⟩) := own_wd 245 rfl
theorem wd_246 : WD (.instanceMethod ⟨kc2, "value", "()Ljava/lang/String;"⟩) := own_wd 246 rfl
theorem wd_247 : WD (.selects kc2 ⟨kc2, "value", "()Ljava/lang/String;"⟩ ⟨kc2, "value", "()Ljava/lang/String;"⟩) := own_wd 247 rfl
theorem wd_248 : WD (.code ⟨kc2, "value", "()Ljava/lang/String;"⟩ prog_3_method_11_code 1 (Option.some (Jvm.ClassFile.FieldType.object kc0))) := own_wd 248 rfl
theorem wd_249 : WD (.methodLink "com/example/seshat/seshat/IdempotencyKeyParsePinLaw" 44 ⟨kc0, "equals", "(Ljava/lang/Object;)Z"⟩) := own_wd 249 rfl
theorem wd_250 : WD (.declares ⟨kc0, "equals", "(Ljava/lang/Object;)Z"⟩) := own_wd 250 rfl
theorem wd_251 : WD (.instanceMethod ⟨kc0, "equals", "(Ljava/lang/Object;)Z"⟩) := own_wd 251 rfl
theorem wd_252 : WD (.selects kc0 ⟨kc0, "equals", "(Ljava/lang/Object;)Z"⟩ ⟨kc0, "equals", "(Ljava/lang/Object;)Z"⟩) := own_wd 252 rfl
theorem wd_253 : WD (.code ⟨kc0, "equals", "(Ljava/lang/Object;)Z"⟩ jdk_42_method_66_code 3 (Option.some Jvm.ClassFile.FieldType.boolean)) := own_wd 253 rfl
theorem wd_254 : WD (.classLink kc0 10 kc0) := own_wd 254 rfl
theorem wd_255 : WD (.methodLink kc0 541 ⟨"java/lang/StringLatin1", "equals", "([B[B)Z"⟩) := own_wd 255 rfl
theorem wd_256 : WD (.static ⟨"java/lang/StringLatin1", "equals", "([B[B)Z"⟩) := own_wd 256 rfl
theorem wd_257 : WD (.code ⟨"java/lang/StringLatin1", "equals", "([B[B)Z"⟩ jdk_43_method_13_code 3 (Option.some Jvm.ClassFile.FieldType.boolean)) := own_wd 257 rfl
theorem wd_258 : WD (.methodLink kc2 72 ⟨kc2, "checkBare", "(Ljava/lang/String;)Ljava/lang/String;"⟩) := own_wd 258 rfl
theorem wd_259 : WD (.static ⟨kc2, "checkBare", "(Ljava/lang/String;)Ljava/lang/String;"⟩) := own_wd 259 rfl
theorem wd_260 : WD (.code ⟨kc2, "checkBare", "(Ljava/lang/String;)Ljava/lang/String;"⟩ prog_3_method_7_code 3 (Option.some (Jvm.ClassFile.FieldType.object kc0))) := own_wd 260 rfl
theorem wd_261 : WD (.methodLink kc2 89 ⟨kc2, "isEscapable", "(C)Z"⟩) := own_wd 261 rfl
theorem wd_262 : WD (.static ⟨kc2, "isEscapable", "(C)Z"⟩) := own_wd 262 rfl
theorem wd_263 : WD (.code ⟨kc2, "isEscapable", "(C)Z"⟩ prog_3_method_6_code 1 (Option.some Jvm.ClassFile.FieldType.boolean)) := own_wd 263 rfl
theorem own_EW {Z : State} {a0 : Array Value} (hw : ∀ d ∈ tables_1, d.before a0 Z = true) : EW Z a0 EL := (EW.cons (wd_236 hw) (by decide +kernel) (EW.cons (wd_54 hw) (by decide +kernel) (EW.cons (wd_137 hw) (by decide +kernel) EW.nil)))
theorem own_wS {Z : State} {a0 : Array Value} (hw : ∀ d ∈ tables_1, d.before a0 Z = true) : ∀ d ∈ Bundle.stringAtoms, d.before a0 Z = true := fun d hd => hw d ((by decide +kernel : ∀ d ∈ Bundle.stringAtoms, d ∈ tables_1) d hd)
theorem ef_keyChar (m : MethodId) (p0 : Int32)  : entryFrame m #[(.int p0)] 1 = mkF m 0 #[.val (.int p0)] [] := by first | (simp [entryFrame, mkF, argsToLocals, Value.category]; done) | rfl
def Q_keyChar (Z : State) (p0 : Int32) (h0 : Heap) (n0 : Nat) (v : Option Value) (h : Heap) (L : List Loc) : Prop := ∃ (c : Int32), v = some (.int c) ∧ Fr n0 L ∧ h = h0 ∧ nar .char c = c ∧ KC c
theorem rm_keyChar (l : Launch) (Z : State) (aZ : Array Value) (hw : ∀ d ∈ tables_1, d.before aZ Z = true) (ws : List Jvm.Cond) (p0 : Int32) (h0 : Heap) (n0 : Nat) (Z0 : n0 ≤ h0.size) :
    MetN l Z yn_1 method_3_code 1 (some .char) ws ({ frames := 0, cells := 0, slots := 0, locals := 0 } : Room) #[(.int p0)] h0 (Q_keyChar Z p0 h0 n0) := by
 refine MetN.of (plainFor_of_name pn_0) ?_
 intro p e s m below meth c s₁ hret hx hby hml hown hnm hlk hZ X0 e0
 have N0 := Fr.nil n0
 rw [ef_keyChar m p0]
 refine w_bipush X0 hx (d1_0 hby) (v := (32 : Int32)) rfl (pq 2) ?_
 refine w_iloadN X0 hx (d1_2 hby) rfl (pq 3) ?_
 refine w_ldcI X0 hx hZ hown (wd_4 hw) (d1_3 hby) (pq 5) ?_
 refine w_iand X0 hx (d1_5 hby) (pq 6) ?_
 refine w_bipush X0 hx (d1_6 hby) (v := (95 : Int32)) rfl (pq 8) ?_
 refine w_irem X0 hx (d1_8 hby) (by decide : ¬ ((95 : Int32) = (0 : Int32))) (pq 9) ?_
 refine w_iadd X0 hx (d1_9 hby) (pq 10) ?_
 refine w_i2c X0 hx (d1_10 hby) (pq 11) ?_
 exact w_done X0 hlk (v := some (.int (((32 : Int32) + ((p0 &&& (2147483647 : Int32)) % (95 : Int32))).toUInt32.toUInt16.toUInt32.toInt32))) e0 (fun h => by rw [hret] at h; cases h) (fun fs hr => retOut X0 hx hret (t := .char) (XT.narrow_c _) (Or.inl ⟨rfl, by simp, _, rfl⟩) (d1_11 hby) hr) (by decide) (by decide) (⟨(((32 : Int32) + ((p0 &&& (2147483647 : Int32)) % (95 : Int32))).toUInt32.toUInt16.toUInt32.toInt32), rfl, N0, rfl, (nar_c _), (own_kc _)⟩)
theorem ef_plain (m : MethodId) (p0 : Int32)  : entryFrame m #[(.int p0)] 1 = mkF m 0 #[.val (.int p0)] [] := by first | (simp [entryFrame, mkF, argsToLocals, Value.category]; done) | rfl
def Q_plain (Z : State) (p0 : Int32) (h0 : Heap) (n0 : Nat) (v : Option Value) (h : Heap) (L : List Loc) : Prop := v = some (.int (plF p0)) ∧ Fr n0 L ∧ h = h0
theorem rm_plain (l : Launch) (Z : State) (aZ : Array Value) (hw : ∀ d ∈ tables_1, d.before aZ Z = true) (ws : List Jvm.Cond) (p0 : Int32) (h0 : Heap) (n0 : Nat) (Z0 : n0 ≤ h0.size) :
    MetN l Z yn_2 method_4_code 1 (some .boolean) ws ({ frames := 0, cells := 0, slots := 0, locals := 0 } : Room) #[(.int p0)] h0 (Q_plain Z p0 h0 n0) := by
 refine MetN.of (plainFor_of_name pn_0) ?_
 intro p e s m below meth c s₁ hret hx hby hml hown hnm hlk hZ X0 e0
 have N0 := Fr.nil n0
 rw [ef_plain m p0]
 refine w_iloadN X0 hx (d2_0 hby) rfl (pq 1) ?_
 refine w_bipush X0 hx (d2_1 hby) (v := (32 : Int32)) rfl (pq 3) ?_
 by_cases hc20 : p0 = (32 : Int32)
 · refine w_icY X0 hx (d2_3 hby) (teq hc20).1 (pc' := 22) (by decide) (by decide) ?_
   refine w_iconst X0 hx (d2_22 hby) (v := (0 : Int32)) rfl (pq 23) ?_
   exact w_done X0 hlk (v := some (.int (0 : Int32))) e0 (fun h => by rw [hret] at h; cases h) (fun fs hr => retN X0 hx (t := .boolean) hret (by simp) (d2_23 hby) hr) (by decide) (by decide) (⟨(congrArg (fun z => some (Value.int z)) (show (0 : Int32) = (plF p0) from by unfold plF; rw [if_pos hc20])), N0, rfl⟩)
 · refine w_icN X0 hx (d2_3 hby) (feq hc20).1 (pq 6) ?_
   refine w_iloadN X0 hx (d2_6 hby) rfl (pq 7) ?_
   refine w_bipush X0 hx (d2_7 hby) (v := (44 : Int32)) rfl (pq 9) ?_
   by_cases hc21 : p0 = (44 : Int32)
   · refine w_icY X0 hx (d2_9 hby) (teq hc21).1 (pc' := 22) (by decide) (by decide) ?_
     refine w_iconst X0 hx (d2_22 hby) (v := (0 : Int32)) rfl (pq 23) ?_
     exact w_done X0 hlk (v := some (.int (0 : Int32))) e0 (fun h => by rw [hret] at h; cases h) (fun fs hr => retN X0 hx (t := .boolean) hret (by simp) (d2_23 hby) hr) (by decide) (by decide) (⟨(congrArg (fun z => some (Value.int z)) (show (0 : Int32) = (plF p0) from by unfold plF; rw [if_neg hc20, if_pos hc21])), N0, rfl⟩)
   · refine w_icN X0 hx (d2_9 hby) (feq hc21).1 (pq 12) ?_
     refine w_iloadN X0 hx (d2_12 hby) rfl (pq 13) ?_
     refine w_bipush X0 hx (d2_13 hby) (v := (34 : Int32)) rfl (pq 15) ?_
     by_cases hc22 : p0 = (34 : Int32)
     · refine w_icY X0 hx (d2_15 hby) (teq hc22).1 (pc' := 22) (by decide) (by decide) ?_
       refine w_iconst X0 hx (d2_22 hby) (v := (0 : Int32)) rfl (pq 23) ?_
       exact w_done X0 hlk (v := some (.int (0 : Int32))) e0 (fun h => by rw [hret] at h; cases h) (fun fs hr => retN X0 hx (t := .boolean) hret (by simp) (d2_23 hby) hr) (by decide) (by decide) (⟨(congrArg (fun z => some (Value.int z)) (show (0 : Int32) = (plF p0) from by unfold plF; rw [if_neg hc20, if_neg hc21, if_pos hc22])), N0, rfl⟩)
     · refine w_icN X0 hx (d2_15 hby) (feq hc22).1 (pq 18) ?_
       refine w_iconst X0 hx (d2_18 hby) (v := (1 : Int32)) rfl (pq 19) ?_
       refine w_goto X0 hx (d2_19 hby) (pc' := 23) (by decide) (by decide) ?_
       exact w_done X0 hlk (v := some (.int (1 : Int32))) e0 (fun h => by rw [hret] at h; cases h) (fun fs hr => retN X0 hx (t := .boolean) hret (by simp) (d2_23 hby) hr) (by decide) (by decide) (⟨(congrArg (fun z => some (Value.int z)) (show (1 : Int32) = (plF p0) from by unfold plF; rw [if_neg hc20, if_neg hc21, if_neg hc22])), N0, rfl⟩)
theorem ef_escaped (m : MethodId) (p0 : Int32)  : entryFrame m #[(.int p0)] 1 = mkF m 0 #[.val (.int p0)] [] := by first | (simp [entryFrame, mkF, argsToLocals, Value.category]; done) | rfl
def Q_escaped (Z : State) (p0 : Int32) (h0 : Heap) (n0 : Nat) (v : Option Value) (h : Heap) (L : List Loc) : Prop := v = some (.int (escF p0)) ∧ Fr n0 L ∧ h = h0
theorem rm_escaped (l : Launch) (Z : State) (aZ : Array Value) (hw : ∀ d ∈ tables_1, d.before aZ Z = true) (ws : List Jvm.Cond) (p0 : Int32) (h0 : Heap) (n0 : Nat) (Z0 : n0 ≤ h0.size) :
    MetN l Z yn_4 method_5_code 1 (some .boolean) ws ({ frames := 0, cells := 0, slots := 0, locals := 0 } : Room) #[(.int p0)] h0 (Q_escaped Z p0 h0 n0) := by
 refine MetN.of (plainFor_of_name pn_0) ?_
 intro p e s m below meth c s₁ hret hx hby hml hown hnm hlk hZ X0 e0
 have N0 := Fr.nil n0
 rw [ef_escaped m p0]
 refine w_iloadN X0 hx (d4_0 hby) rfl (pq 1) ?_
 refine w_bipush X0 hx (d4_1 hby) (v := (34 : Int32)) rfl (pq 3) ?_
 by_cases hc20 : p0 = (34 : Int32)
 · refine w_icY X0 hx (d4_3 hby) (teq hc20).1 (pc' := 12) (by decide) (by decide) ?_
   refine w_iconst X0 hx (d4_12 hby) (v := (1 : Int32)) rfl (pq 13) ?_
   refine w_goto X0 hx (d4_13 hby) (pc' := 17) (by decide) (by decide) ?_
   exact w_done X0 hlk (v := some (.int (1 : Int32))) e0 (fun h => by rw [hret] at h; cases h) (fun fs hr => retN X0 hx (t := .boolean) hret (by simp) (d4_17 hby) hr) (by decide) (by decide) (⟨(congrArg (fun z => some (Value.int z)) (show (1 : Int32) = (escF p0) from by unfold escF; rw [if_pos hc20])), N0, rfl⟩)
 · refine w_icN X0 hx (d4_3 hby) (feq hc20).1 (pq 6) ?_
   refine w_iloadN X0 hx (d4_6 hby) rfl (pq 7) ?_
   refine w_bipush X0 hx (d4_7 hby) (v := (92 : Int32)) rfl (pq 9) ?_
   by_cases hc21 : p0 = (92 : Int32)
   · refine w_icN X0 hx (d4_9 hby) (teq hc21).2 (pq 12) ?_
     refine w_iconst X0 hx (d4_12 hby) (v := (1 : Int32)) rfl (pq 13) ?_
     refine w_goto X0 hx (d4_13 hby) (pc' := 17) (by decide) (by decide) ?_
     exact w_done X0 hlk (v := some (.int (1 : Int32))) e0 (fun h => by rw [hret] at h; cases h) (fun fs hr => retN X0 hx (t := .boolean) hret (by simp) (d4_17 hby) hr) (by decide) (by decide) (⟨(congrArg (fun z => some (Value.int z)) (show (1 : Int32) = (escF p0) from by unfold escF; rw [if_neg hc20, if_pos hc21])), N0, rfl⟩)
   · refine w_icY X0 hx (d4_9 hby) (feq hc21).2 (pc' := 16) (by decide) (by decide) ?_
     refine w_iconst X0 hx (d4_16 hby) (v := (0 : Int32)) rfl (pq 17) ?_
     exact w_done X0 hlk (v := some (.int (0 : Int32))) e0 (fun h => by rw [hret] at h; cases h) (fun fs hr => retN X0 hx (t := .boolean) hret (by simp) (d4_17 hby) hr) (by decide) (by decide) (⟨(congrArg (fun z => some (Value.int z)) (show (0 : Int32) = (escF p0) from by unfold escF; rw [if_neg hc20, if_neg hc21])), N0, rfl⟩)
theorem ef_width (m : MethodId) (p0 : Int32) (p1 : Int32) (p2 : Int32)  : entryFrame m #[(.int p0), (.int p1), (.int p2)] 3 = mkF m 0 #[.val (.int p0), .val (.int p1), .val (.int p2)] [] := by first | (simp [entryFrame, mkF, argsToLocals, Value.category]; done) | rfl
def Q_width (Z : State) (p0 : Int32) (p1 : Int32) (p2 : Int32) (h0 : Heap) (n0 : Nat) (v : Option Value) (h : Heap) (L : List Loc) : Prop := v = some (.int (wdF p0 p1 p2)) ∧ Fr n0 L ∧ h = h0
theorem rm_width (l : Launch) (Z : State) (aZ : Array Value) (hw : ∀ d ∈ tables_1, d.before aZ Z = true) (ws : List Jvm.Cond) (p0 : Int32) (p1 : Int32) (p2 : Int32) (h0 : Heap) (n0 : Nat) (Z0 : n0 ≤ h0.size) :
    MetN l Z yn_3 method_6_code 3 (some .int) ws ({ frames := 1, cells := 0, slots := 0, locals := 12 } : Room) #[(.int p0), (.int p1), (.int p2)] h0 (Q_width Z p0 p1 p2 h0 n0) := by
 refine MetN.of (plainFor_of_name pn_0) ?_
 intro p e s m below meth c s₁ hret hx hby hml hown hnm hlk hZ X0 e0
 have N0 := Fr.nil n0
 rw [ef_width m p0 p1 p2]
 refine w_iloadN X0 hx (d3_0 hby) rfl (pq 1) ?_
 by_cases hc20 : p2 = (0 : Int32)
 · refine w_ifN X0 hx (d3_1 hby) (teq hc20).2 (pq 4) ?_
   refine w_iconst X0 hx (d3_4 hby) (v := (0 : Int32)) rfl (pq 5) ?_
   exact w_done X0 hlk (v := some (.int (0 : Int32))) e0 (fun h => by rw [hret] at h; cases h) (fun fs hr => retI X0 hx hret (d3_5 hby) hr) (by decide) (by decide) (⟨(congrArg (fun z => some (Value.int z)) (show (0 : Int32) = (wdF p0 p1 p2) from by unfold wdF; rw [if_pos hc20])), N0, rfl⟩)
 · refine w_ifY X0 hx (d3_1 hby) (feq hc20).2 (pc' := 6) (by decide) (by decide) ?_
   refine w_iloadN X0 hx (d3_6 hby) rfl (pq 7) ?_
   by_cases hc21 : p1 = (0 : Int32)
   · refine w_ifY X0 hx (d3_7 hby) (teq hc21).1 (pc' := 19) (by decide) (by decide) ?_
     refine w_iconst X0 hx (d3_19 hby) (v := (1 : Int32)) rfl (pq 20) ?_
     exact w_done X0 hlk (v := some (.int (1 : Int32))) e0 (fun h => by rw [hret] at h; cases h) (fun fs hr => retI X0 hx hret (d3_20 hby) hr) (by decide) (by decide) (⟨(congrArg (fun z => some (Value.int z)) (show (1 : Int32) = (wdF p0 p1 p2) from by unfold wdF; rw [if_neg hc20, if_pos hc21])), N0, rfl⟩)
   · refine w_ifN X0 hx (d3_7 hby) (feq hc21).1 (pq 10) ?_
     refine w_iloadN X0 hx (d3_10 hby) rfl (pq 11) ?_
     refine w_static X0 hx (y := yn_4) hown (mvT hZ (wd_11 hw)) (mvT hZ (wd_12 hw)) (mvT hZ (wd_2 hw)) (mvT hZ (wd_13 hw)) (by decide) (backOf (W := 0) (rm_escaped l Z aZ hw [] p0 h0 n0 Z0 ) hZ (wd_13 hw) (wd_2 hw) (by decide) (by decide)) (by rw [hml]; rfl) [(.int p0)] (lenOf pd_0 rfl) rfl (Nat.le_of_eq rfl) (d3_11 hby) (fun _ _ => ⟨rfl, e0, (by decide : 0 + 0 ≤ _), (by decide : 0 + 0 ≤ _)⟩) (pq 14) ?_
     rintro _ _ ⟨T22, L22, k22, n22⟩ X22 ⟨Lc22, hQ22, l22, y22, z22⟩
     dsimp only [Pt.U, Pt.locs, Pt.cells, Pt.slots] at X22 l22 y22 z22 hQ22 ⊢
     rw [l22, y22, z22] at X22
     obtain ⟨rfl, N22q, e22⟩ := hQ22
     have N23 := Fr.app N0 N22q
     show Runs _ _ _ _ (T22.setTop (mkF m 14 _ [(.int (escF p0))]))
     by_cases hc24 : (escF p0) = (0 : Int32)
     · refine w_ifY X22 hx (d3_14 hby) (teq hc24).1 (pc' := 19) (by decide) (by decide) ?_
       refine w_iconst X22 hx (d3_19 hby) (v := (1 : Int32)) rfl (pq 20) ?_
       exact w_done X22 hlk (v := some (.int (1 : Int32))) e22 (fun h => by rw [hret] at h; cases h) (fun fs hr => retI X22 hx hret (d3_20 hby) hr) (by decide) (by decide) (⟨(congrArg (fun z => some (Value.int z)) (show (1 : Int32) = (wdF p0 p1 p2) from by unfold wdF; rw [if_neg hc20, if_neg hc21, if_pos hc24])), N23, rfl⟩)
     · refine w_ifN X22 hx (d3_14 hby) (feq hc24).1 (pq 17) ?_
       refine w_iconst X22 hx (d3_17 hby) (v := (2 : Int32)) rfl (pq 18) ?_
       exact w_done X22 hlk (v := some (.int (2 : Int32))) e22 (fun h => by rw [hret] at h; cases h) (fun fs hr => retI X22 hx hret (d3_18 hby) hr) (by decide) (by decide) (⟨(congrArg (fun z => some (Value.int z)) (show (2 : Int32) = (wdF p0 p1 p2) from by unfold wdF; rw [if_neg hc20, if_neg hc21, if_neg hc24])), N23, rfl⟩)
theorem ef_wsChar (m : MethodId) (p0 : Int32) (p1 : Int32)  : entryFrame m #[(.int p0), (.int p1)] 2 = mkF m 0 #[.val (.int p0), .val (.int p1)] [] := by first | (simp [entryFrame, mkF, argsToLocals, Value.category]; done) | rfl
def Q_wsChar (Z : State) (p0 : Int32) (p1 : Int32) (h0 : Heap) (n0 : Nat) (v : Option Value) (h : Heap) (L : List Loc) : Prop := ∃ (c : Int32), v = some (.int c) ∧ Fr n0 L ∧ h = h0 ∧ nar .char c = c ∧ WSP c
theorem rm_wsChar (l : Launch) (Z : State) (aZ : Array Value) (hw : ∀ d ∈ tables_1, d.before aZ Z = true) (ws : List Jvm.Cond) (p0 : Int32) (p1 : Int32) (h0 : Heap) (n0 : Nat) (Z0 : n0 ≤ h0.size) :
    MetN l Z yn_5 method_8_code 2 (some .char) ws ({ frames := 0, cells := 0, slots := 0, locals := 0 } : Room) #[(.int p0), (.int p1)] h0 (Q_wsChar Z p0 p1 h0 n0) := by
 refine MetN.of (plainFor_of_name pn_0) ?_
 intro p e s m below meth c s₁ hret hx hby hml hown hnm hlk hZ X0 e0
 have N0 := Fr.nil n0
 rw [ef_wsChar m p0 p1]
 refine w_iloadN X0 hx (d5_0 hby) rfl (pq 1) ?_
 refine w_iloadN X0 hx (d5_1 hby) rfl (pq 2) ?_
 refine w_iushr X0 hx (d5_2 hby) (pq 3) ?_
 refine w_iconst X0 hx (d5_3 hby) (v := (1 : Int32)) rfl (pq 4) ?_
 refine w_iand X0 hx (d5_4 hby) (pq 5) ?_
 by_cases hc20 : (((p0.toUInt32 >>> (p1 &&& 31).toUInt32).toInt32) &&& (1 : Int32)) = (0 : Int32)
 · refine w_ifY X0 hx (d5_5 hby) (teq hc20).1 (pc' := 13) (by decide) (by decide) ?_
   refine w_bipush X0 hx (d5_13 hby) (v := (32 : Int32)) rfl (pq 15) ?_
   exact w_done X0 hlk (v := some (.int (32 : Int32))) e0 (fun h => by rw [hret] at h; cases h) (fun fs hr => retN X0 hx (t := .char) hret (by simp) (d5_15 hby) hr) (by decide) (by decide) (⟨(32 : Int32), rfl, N0, rfl, (by decide : nar .char (32 : Int32) = (32 : Int32)), (Or.inr rfl)⟩)
 · refine w_ifN X0 hx (d5_5 hby) (feq hc20).1 (pq 8) ?_
   refine w_bipush X0 hx (d5_8 hby) (v := (9 : Int32)) rfl (pq 10) ?_
   refine w_goto X0 hx (d5_10 hby) (pc' := 15) (by decide) (by decide) ?_
   exact w_done X0 hlk (v := some (.int (9 : Int32))) e0 (fun h => by rw [hret] at h; cases h) (fun fs hr => retN X0 hx (t := .char) hret (by simp) (d5_15 hby) hr) (by decide) (by decide) (⟨(9 : Int32), rfl, N0, rfl, (by decide : nar .char (9 : Int32) = (9 : Int32)), (Or.inl rfl)⟩)
theorem ef_put (m : MethodId) (a0 : Addr) (p1 : Int32) (p2 : Int32) (p3 : Int32) (p4 : Int32)  : entryFrame m #[(.ref a0), (.int p1), (.int p2), (.int p3), (.int p4)] 5 = mkF m 0 #[.val (.ref a0), .val (.int p1), .val (.int p2), .val (.int p3), .val (.int p4)] [] := by first | (simp [entryFrame, mkF, argsToLocals, Value.category]; done) | rfl
def Q_put (Z : State) (a0 : Addr) (p1 : Int32) (p2 : Int32) (p3 : Int32) (p4 : Int32) (k_a0 : ClassId) (l_a0 : List Int32) (h0 : Heap) (n0 : Nat) (v : Option Value) (h : Heap) (L : List Loc) : Prop := v = some (.int (p1 + (wdF p2 p3 p4))) ∧ Fr n0 L ∧ Keep h0 h [a0] ∧ Arv Z h a0 k_a0 .char (12 : Int32) (mI (putF l_a0 p1 p2 p3 p4)) (.int (0 : Int32))
theorem rm_put (l : Launch) (Z : State) (aZ : Array Value) (hw : ∀ d ∈ tables_1, d.before aZ Z = true) (ws : List Jvm.Cond) (a0 : Addr) (p1 : Int32) (p2 : Int32) (p3 : Int32) (p4 : Int32) (k_a0 : ClassId) (l_a0 : List Int32) (h0 : Heap) (n0 : Nat) (Z0 : n0 ≤ h0.size) (V_a0 : Arv Z h0 a0 k_a0 .char (12 : Int32) (mI l_a0) (.int (0 : Int32))) (hX_1 : PB p1 (wdF p2 p3 p4)) (hX_2 : l_a0.length = 12) (zz0 : nar .char p2 = p2) (zz1 : n0 ≤ a0) :
    MetN l Z yn_6 method_7_code 5 (some .int) ws ({ frames := 1, cells := 0, slots := 0, locals := 12 } : Room) #[(.ref a0), (.int p1), (.int p2), (.int p3), (.int p4)] h0 (Q_put Z a0 p1 p2 p3 p4 k_a0 l_a0 h0 n0) := by
 refine MetN.of (plainFor_of_name pn_0) ?_
 intro p e s m below meth c s₁ hret hx hby hml hown hnm hlk hZ X0 e0
 have N0 := Fr.nil n0
 rw [ef_put m a0 p1 p2 p3 p4]
 refine w_iload X0 hx (d6_0 hby) rfl (pq 2) ?_
 by_cases hc20 : p4 = (0 : Int32)
 · refine w_ifN X0 hx (d6_2 hby) (teq hc20).2 (pq 5) ?_
   refine w_iloadN X0 hx (d6_5 hby) rfl (pq 6) ?_
   exact w_done X0 hlk (v := some (.int p1)) e0 (fun h => by rw [hret] at h; cases h) (fun fs hr => retI X0 hx hret (d6_6 hby) hr) (by decide) (by decide) (⟨(congrArg (fun z => some (Value.int z)) (show p1 = (p1 + (wdF p2 p3 p4)) from by rw [(show (wdF p2 p3 p4) = (0 : Int32) from by unfold wdF; rw [if_pos hc20])]; exact (Int32.add_zero _).symm)), N0, (Keep.refl h0 [a0]), (by unfold putF; rw [if_pos hc20]; exact V_a0)⟩)
 · refine w_ifY X0 hx (d6_2 hby) (feq hc20).2 (pc' := 7) (by decide) (by decide) ?_
   refine w_iloadN X0 hx (d6_7 hby) rfl (pq 8) ?_
   by_cases hc21 : p3 = (0 : Int32)
   · refine w_ifY X0 hx (d6_8 hby) (teq hc21).1 (pc' := 33) (by decide) (by decide) ?_
     refine w_aloadN X0 hx (d6_33 hby) rfl rfl (pq 34) ?_
     refine w_iloadN X0 hx (d6_34 hby) rfl (pq 35) ?_
     refine w_iloadN X0 hx (d6_35 hby) rfl (pq 36) ?_
     obtain ⟨clu22, Aru22, qu22, Su22, Nu22, Hu22, Gu22⟩ := id V_a0
     have hinu22 := inb_of (j := p1) Su22 ⟨(own_pb0 hX_1), (own_pb1 hX_1 (by rw [(show (wdF p2 p3 p4) = (1 : Int32) from by unfold wdF; rw [if_neg hc20, if_pos hc21])]; decide))⟩
     refine w_stC X0 hx hZ e0 Aru22 hinu22 (d6_36 hby) (pq 37) ?_
     intro T23 h23 X23 e23 W23
     rw [zz0] at W23
     have V24 : Arv Z h23 a0 k_a0 .char (12 : Int32) (mI (setI l_a0 p1 p2)) (.int (0 : Int32)) := own_sto Aru22 qu22 Su22 Nu22 Hu22 Gu22 (own_fitc zz0) W23 hX_2 hinu22
     have K25 : Keep h0 h23 [a0] := (Keep.refl h0 [a0]).wr W23 (Or.inl (by simp))
     have N26 := Fr.snoc X23 N0 zz1
     refine w_iloadN X23 hx (d6_37 hby) rfl (pq 38) ?_
     refine w_iconst X23 hx (d6_38 hby) (v := (1 : Int32)) rfl (pq 39) ?_
     refine w_iadd X23 hx (d6_39 hby) (pq 40) ?_
     exact w_done X23 hlk (v := some (.int (p1 + (1 : Int32)))) e23 (fun h => by rw [hret] at h; cases h) (fun fs hr => retI X23 hx hret (d6_40 hby) hr) (by decide) (by decide) (⟨(congrArg (fun z => some (Value.int z)) (show (p1 + (1 : Int32)) = (p1 + (wdF p2 p3 p4)) from by rw [(show (wdF p2 p3 p4) = (1 : Int32) from by unfold wdF; rw [if_neg hc20, if_pos hc21])])), N26, K25, (by unfold putF; rw [if_neg hc20, if_pos hc21]; exact V24)⟩)
   · refine w_ifN X0 hx (d6_8 hby) (feq hc21).1 (pq 11) ?_
     refine w_iloadN X0 hx (d6_11 hby) rfl (pq 12) ?_
     refine w_static X0 hx (y := yn_4) hown (mvT hZ (wd_11 hw)) (mvT hZ (wd_12 hw)) (mvT hZ (wd_2 hw)) (mvT hZ (wd_13 hw)) (by decide) (backOf (W := 0) (rm_escaped l Z aZ hw [] p2 h0 n0 Z0 ) hZ (wd_13 hw) (wd_2 hw) (by decide) (by decide)) (by rw [hml]; rfl) [(.int p2)] (lenOf pd_0 rfl) rfl (Nat.le_of_eq rfl) (d6_12 hby) (fun _ _ => ⟨rfl, e0, (by decide : 0 + 0 ≤ _), (by decide : 0 + 0 ≤ _)⟩) (pq 15) ?_
     rintro _ _ ⟨T27, L27, k27, n27⟩ X27 ⟨Lc27, hQ27, l27, y27, z27⟩
     dsimp only [Pt.U, Pt.locs, Pt.cells, Pt.slots] at X27 l27 y27 z27 hQ27 ⊢
     rw [l27, y27, z27] at X27
     obtain ⟨rfl, N27q, e27⟩ := hQ27
     have N28 := Fr.app N0 N27q
     show Runs _ _ _ _ (T27.setTop (mkF m 15 _ [(.int (escF p2))]))
     by_cases hc29 : (escF p2) = (0 : Int32)
     · refine w_ifY X27 hx (d6_15 hby) (teq hc29).1 (pc' := 33) (by decide) (by decide) ?_
       refine w_aloadN X27 hx (d6_33 hby) rfl rfl (pq 34) ?_
       refine w_iloadN X27 hx (d6_34 hby) rfl (pq 35) ?_
       refine w_iloadN X27 hx (d6_35 hby) rfl (pq 36) ?_
       obtain ⟨clu30, Aru30, qu30, Su30, Nu30, Hu30, Gu30⟩ := id V_a0
       have hinu30 := inb_of (j := p1) Su30 ⟨(own_pb0 hX_1), (own_pb1 hX_1 (by rw [(show (wdF p2 p3 p4) = (1 : Int32) from by unfold wdF; rw [if_neg hc20, if_neg hc21, if_pos hc29])]; decide))⟩
       refine w_stC X27 hx hZ e27 Aru30 hinu30 (d6_36 hby) (pq 37) ?_
       intro T31 h31 X31 e31 W31
       rw [zz0] at W31
       have V32 : Arv Z h31 a0 k_a0 .char (12 : Int32) (mI (setI l_a0 p1 p2)) (.int (0 : Int32)) := own_sto Aru30 qu30 Su30 Nu30 Hu30 Gu30 (own_fitc zz0) W31 hX_2 hinu30
       have K33 : Keep h0 h31 [a0] := (Keep.refl h0 [a0]).wr W31 (Or.inl (by simp))
       have N34 := Fr.snoc X31 N28 zz1
       refine w_iloadN X31 hx (d6_37 hby) rfl (pq 38) ?_
       refine w_iconst X31 hx (d6_38 hby) (v := (1 : Int32)) rfl (pq 39) ?_
       refine w_iadd X31 hx (d6_39 hby) (pq 40) ?_
       exact w_done X31 hlk (v := some (.int (p1 + (1 : Int32)))) e31 (fun h => by rw [hret] at h; cases h) (fun fs hr => retI X31 hx hret (d6_40 hby) hr) (by decide) (by decide) (⟨(congrArg (fun z => some (Value.int z)) (show (p1 + (1 : Int32)) = (p1 + (wdF p2 p3 p4)) from by rw [(show (wdF p2 p3 p4) = (1 : Int32) from by unfold wdF; rw [if_neg hc20, if_neg hc21, if_pos hc29])])), N34, K33, (by unfold putF; rw [if_neg hc20, if_neg hc21, if_pos hc29]; exact V32)⟩)
     · refine w_ifN X27 hx (d6_15 hby) (feq hc29).1 (pq 18) ?_
       refine w_aloadN X27 hx (d6_18 hby) rfl rfl (pq 19) ?_
       refine w_iloadN X27 hx (d6_19 hby) rfl (pq 20) ?_
       refine w_bipush X27 hx (d6_20 hby) (v := (92 : Int32)) rfl (pq 22) ?_
       obtain ⟨clu35, Aru35, qu35, Su35, Nu35, Hu35, Gu35⟩ := id V_a0
       have hinu35 := inb_of (j := p1) Su35 ⟨(own_pb0 hX_1), (own_pb1 hX_1 (by rw [(show (wdF p2 p3 p4) = (2 : Int32) from by unfold wdF; rw [if_neg hc20, if_neg hc21, if_neg hc29])]; decide))⟩
       refine w_stC X27 hx hZ e27 Aru35 hinu35 (d6_22 hby) (pq 23) ?_
       intro T36 h36 X36 e36 W36
       rw [show nar .char (92 : Int32) = (92 : Int32) from by decide] at W36
       have V37 : Arv Z h36 a0 k_a0 .char (12 : Int32) (mI (setI l_a0 p1 (92 : Int32))) (.int (0 : Int32)) := own_sto Aru35 qu35 Su35 Nu35 Hu35 Gu35 (own_fitc (by decide : nar .char (92 : Int32) = (92 : Int32))) W36 hX_2 hinu35
       have K38 : Keep h0 h36 [a0] := (Keep.refl h0 [a0]).wr W36 (Or.inl (by simp))
       have N39 := Fr.snoc X36 N28 zz1
       refine w_aloadN X36 hx (d6_23 hby) rfl rfl (pq 24) ?_
       refine w_iloadN X36 hx (d6_24 hby) rfl (pq 25) ?_
       refine w_iconst X36 hx (d6_25 hby) (v := (1 : Int32)) rfl (pq 26) ?_
       refine w_iadd X36 hx (d6_26 hby) (pq 27) ?_
       refine w_iloadN X36 hx (d6_27 hby) rfl (pq 28) ?_
       obtain ⟨clu40, Aru40, qu40, Su40, Nu40, Hu40, Gu40⟩ := id V37
       have hinu40 := inb_of (j := (p1 + (1 : Int32))) Su40 ⟨(own_pb2 hX_1 (show (wdF p2 p3 p4) = (2 : Int32) from by unfold wdF; rw [if_neg hc20, if_neg hc21, if_neg hc29])).1, (own_pb2 hX_1 (show (wdF p2 p3 p4) = (2 : Int32) from by unfold wdF; rw [if_neg hc20, if_neg hc21, if_neg hc29])).2⟩
       refine w_stC X36 hx hZ e36 Aru40 hinu40 (d6_28 hby) (pq 29) ?_
       intro T41 h41 X41 e41 W41
       rw [zz0] at W41
       have V42 : Arv Z h41 a0 k_a0 .char (12 : Int32) (mI (setI (setI l_a0 p1 (92 : Int32)) (p1 + (1 : Int32)) p2)) (.int (0 : Int32)) := own_sto Aru40 qu40 Su40 Nu40 Hu40 Gu40 (own_fitc zz0) W41 ((own_setlen _ _ _).trans hX_2) hinu40
       have K43 : Keep h0 h41 [a0] := K38.wr W41 (Or.inl (by simp))
       have N44 := Fr.snoc X41 N39 zz1
       refine w_iloadN X41 hx (d6_29 hby) rfl (pq 30) ?_
       refine w_iconst X41 hx (d6_30 hby) (v := (2 : Int32)) rfl (pq 31) ?_
       refine w_iadd X41 hx (d6_31 hby) (pq 32) ?_
       exact w_done X41 hlk (v := some (.int (p1 + (2 : Int32)))) e41 (fun h => by rw [hret] at h; cases h) (fun fs hr => retI X41 hx hret (d6_32 hby) hr) (by decide) (by decide) (⟨(congrArg (fun z => some (Value.int z)) (show (p1 + (2 : Int32)) = (p1 + (wdF p2 p3 p4)) from by rw [(show (wdF p2 p3 p4) = (2 : Int32) from by unfold wdF; rw [if_neg hc20, if_neg hc21, if_neg hc29])])), N44, K43, (by unfold putF; rw [if_neg hc20, if_neg hc21, if_neg hc29]; exact V42)⟩)
theorem ef_min (m : MethodId) (p0 : Int32) (p1 : Int32)  : entryFrame m #[(.int p0), (.int p1)] 2 = mkF m 0 #[.val (.int p0), .val (.int p1)] [] := by first | (simp [entryFrame, mkF, argsToLocals, Value.category]; done) | rfl
def Q_min (Z : State) (p0 : Int32) (p1 : Int32) (h0 : Heap) (n0 : Nat) (v : Option Value) (h : Heap) (L : List Loc) : Prop := v = some (.int (minF p0 p1)) ∧ Fr n0 L ∧ h = h0
theorem rm_min (l : Launch) (Z : State) (aZ : Array Value) (hw : ∀ d ∈ tables_1, d.before aZ Z = true) (ws : List Jvm.Cond) (p0 : Int32) (p1 : Int32) (h0 : Heap) (n0 : Nat) (Z0 : n0 ≤ h0.size) :
    MetN l Z yn_31 jdk_29_method_69_code 2 (some .int) ws ({ frames := 0, cells := 0, slots := 0, locals := 0 } : Room) #[(.int p0), (.int p1)] h0 (Q_min Z p0 p1 h0 n0) := by
 refine MetN.of (Jvm.Free.JP.mathPlain rfl (by decide +kernel)) ?_
 intro p e s m below meth c s₁ hret hx hby hml hown hnm hlk hZ X0 e0
 have N0 := Fr.nil n0
 rw [ef_min m p0 p1]
 refine w_iloadN X0 hx (d31_0 hby) rfl (pq 1) ?_
 refine w_iloadN X0 hx (d31_1 hby) rfl (pq 2) ?_
 by_cases hc20 : p1 < p0
 · refine w_icY X0 hx (d31_2 hby) (tlt hc20).2.2.1 (pc' := 9) (by decide) (by decide) ?_
   refine w_iloadN X0 hx (d31_9 hby) rfl (pq 10) ?_
   exact w_done X0 hlk (v := some (.int p1)) e0 (fun h => by rw [hret] at h; cases h) (fun fs hr => retI X0 hx hret (d31_10 hby) hr) (by decide) (by decide) (⟨(congrArg (fun z => some (Value.int z)) (show p1 = (minF p0 p1) from (if_pos hc20).symm)), N0, rfl⟩)
 · refine w_icN X0 hx (d31_2 hby) (flt hc20).2.2.1 (pq 5) ?_
   refine w_iloadN X0 hx (d31_5 hby) rfl (pq 6) ?_
   refine w_goto X0 hx (d31_6 hby) (pc' := 10) (by decide) (by decide) ?_
   exact w_done X0 hlk (v := some (.int p0)) e0 (fun h => by rw [hret] at h; cases h) (fun fs hr => retI X0 hx hret (d31_10 hby) hr) (by decide) (by decide) (⟨(congrArg (fun z => some (Value.int z)) (show p0 = (minF p0 p1) from (if_neg hc20).symm)), N0, rfl⟩)
theorem ef_isws (m : MethodId) (p0 : Int32)  : entryFrame m #[(.int p0)] 1 = mkF m 0 #[.val (.int p0)] [] := by first | (simp [entryFrame, mkF, argsToLocals, Value.category]; done) | rfl
def Q_isws (Z : State) (p0 : Int32) (h0 : Heap) (n0 : Nat) (v : Option Value) (h : Heap) (L : List Loc) : Prop := v = some (.int (wsF p0)) ∧ Fr n0 L ∧ h = h0
theorem rm_isws (l : Launch) (Z : State) (aZ : Array Value) (hw : ∀ d ∈ tables_1, d.before aZ Z = true) (ws : List Jvm.Cond) (p0 : Int32) (h0 : Heap) (n0 : Nat) (Z0 : n0 ≤ h0.size) :
    MetN l Z yn_23 prog_3_method_4_code 1 (some .boolean) ws ({ frames := 0, cells := 0, slots := 0, locals := 0 } : Room) #[(.int p0)] h0 (Q_isws Z p0 h0 n0) := by
 refine MetN.of (plainFor_of_name pn_1) ?_
 intro p e s m below meth c s₁ hret hx hby hml hown hnm hlk hZ X0 e0
 have N0 := Fr.nil n0
 rw [ef_isws m p0]
 refine w_iloadN X0 hx (d23_0 hby) rfl (pq 1) ?_
 refine w_bipush X0 hx (d23_1 hby) (v := (32 : Int32)) rfl (pq 3) ?_
 by_cases hc20 : p0 = (32 : Int32)
 · refine w_icY X0 hx (d23_3 hby) (teq hc20).1 (pc' := 12) (by decide) (by decide) ?_
   refine w_iconst X0 hx (d23_12 hby) (v := (1 : Int32)) rfl (pq 13) ?_
   refine w_goto X0 hx (d23_13 hby) (pc' := 17) (by decide) (by decide) ?_
   exact w_done X0 hlk (v := some (.int (1 : Int32))) e0 (fun h => by rw [hret] at h; cases h) (fun fs hr => retN X0 hx (t := .boolean) hret (by simp) (d23_17 hby) hr) (by decide) (by decide) (⟨(congrArg (fun z => some (Value.int z)) (show (1 : Int32) = (wsF p0) from by unfold wsF; rw [if_pos hc20])), N0, rfl⟩)
 · refine w_icN X0 hx (d23_3 hby) (feq hc20).1 (pq 6) ?_
   refine w_iloadN X0 hx (d23_6 hby) rfl (pq 7) ?_
   refine w_bipush X0 hx (d23_7 hby) (v := (9 : Int32)) rfl (pq 9) ?_
   by_cases hc21 : p0 = (9 : Int32)
   · refine w_icN X0 hx (d23_9 hby) (teq hc21).2 (pq 12) ?_
     refine w_iconst X0 hx (d23_12 hby) (v := (1 : Int32)) rfl (pq 13) ?_
     refine w_goto X0 hx (d23_13 hby) (pc' := 17) (by decide) (by decide) ?_
     exact w_done X0 hlk (v := some (.int (1 : Int32))) e0 (fun h => by rw [hret] at h; cases h) (fun fs hr => retN X0 hx (t := .boolean) hret (by simp) (d23_17 hby) hr) (by decide) (by decide) (⟨(congrArg (fun z => some (Value.int z)) (show (1 : Int32) = (wsF p0) from by unfold wsF; rw [if_neg hc20, if_pos hc21])), N0, rfl⟩)
   · refine w_icY X0 hx (d23_9 hby) (feq hc21).2 (pc' := 16) (by decide) (by decide) ?_
     refine w_iconst X0 hx (d23_16 hby) (v := (0 : Int32)) rfl (pq 17) ?_
     exact w_done X0 hlk (v := some (.int (0 : Int32))) e0 (fun h => by rw [hret] at h; cases h) (fun fs hr => retN X0 hx (t := .boolean) hret (by simp) (d23_17 hby) hr) (by decide) (by decide) (⟨(congrArg (fun z => some (Value.int z)) (show (0 : Int32) = (wsF p0) from by unfold wsF; rw [if_neg hc20, if_neg hc21])), N0, rfl⟩)
theorem ef_isesc (m : MethodId) (p0 : Int32)  : entryFrame m #[(.int p0)] 1 = mkF m 0 #[.val (.int p0)] [] := by first | (simp [entryFrame, mkF, argsToLocals, Value.category]; done) | rfl
def Q_isesc (Z : State) (p0 : Int32) (h0 : Heap) (n0 : Nat) (v : Option Value) (h : Heap) (L : List Loc) : Prop := v = some (.int (escF p0)) ∧ Fr n0 L ∧ h = h0
theorem rm_isesc (l : Launch) (Z : State) (aZ : Array Value) (hw : ∀ d ∈ tables_1, d.before aZ Z = true) (ws : List Jvm.Cond) (p0 : Int32) (h0 : Heap) (n0 : Nat) (Z0 : n0 ≤ h0.size) :
    MetN l Z yn_57 prog_3_method_6_code 1 (some .boolean) ws ({ frames := 0, cells := 0, slots := 0, locals := 0 } : Room) #[(.int p0)] h0 (Q_isesc Z p0 h0 n0) := by
 refine MetN.of (plainFor_of_name pn_1) ?_
 intro p e s m below meth c s₁ hret hx hby hml hown hnm hlk hZ X0 e0
 have N0 := Fr.nil n0
 rw [ef_isesc m p0]
 refine w_iloadN X0 hx (d57_0 hby) rfl (pq 1) ?_
 refine w_bipush X0 hx (d57_1 hby) (v := (34 : Int32)) rfl (pq 3) ?_
 by_cases hc20 : p0 = (34 : Int32)
 · refine w_icY X0 hx (d57_3 hby) (teq hc20).1 (pc' := 12) (by decide) (by decide) ?_
   refine w_iconst X0 hx (d57_12 hby) (v := (1 : Int32)) rfl (pq 13) ?_
   refine w_goto X0 hx (d57_13 hby) (pc' := 17) (by decide) (by decide) ?_
   exact w_done X0 hlk (v := some (.int (1 : Int32))) e0 (fun h => by rw [hret] at h; cases h) (fun fs hr => retN X0 hx (t := .boolean) hret (by simp) (d57_17 hby) hr) (by decide) (by decide) (⟨(congrArg (fun z => some (Value.int z)) (show (1 : Int32) = (escF p0) from by unfold escF; rw [if_pos hc20])), N0, rfl⟩)
 · refine w_icN X0 hx (d57_3 hby) (feq hc20).1 (pq 6) ?_
   refine w_iloadN X0 hx (d57_6 hby) rfl (pq 7) ?_
   refine w_bipush X0 hx (d57_7 hby) (v := (92 : Int32)) rfl (pq 9) ?_
   by_cases hc21 : p0 = (92 : Int32)
   · refine w_icN X0 hx (d57_9 hby) (teq hc21).2 (pq 12) ?_
     refine w_iconst X0 hx (d57_12 hby) (v := (1 : Int32)) rfl (pq 13) ?_
     refine w_goto X0 hx (d57_13 hby) (pc' := 17) (by decide) (by decide) ?_
     exact w_done X0 hlk (v := some (.int (1 : Int32))) e0 (fun h => by rw [hret] at h; cases h) (fun fs hr => retN X0 hx (t := .boolean) hret (by simp) (d57_17 hby) hr) (by decide) (by decide) (⟨(congrArg (fun z => some (Value.int z)) (show (1 : Int32) = (escF p0) from by unfold escF; rw [if_neg hc20, if_pos hc21])), N0, rfl⟩)
   · refine w_icY X0 hx (d57_9 hby) (feq hc21).2 (pc' := 16) (by decide) (by decide) ?_
     refine w_iconst X0 hx (d57_16 hby) (v := (0 : Int32)) rfl (pq 17) ?_
     exact w_done X0 hlk (v := some (.int (0 : Int32))) e0 (fun h => by rw [hret] at h; cases h) (fun fs hr => retN X0 hx (t := .boolean) hret (by simp) (d57_17 hby) hr) (by decide) (by decide) (⟨(congrArg (fun z => some (Value.int z)) (show (0 : Int32) = (escF p0) from by unfold escF; rw [if_neg hc20, if_neg hc21])), N0, rfl⟩)
theorem ef_m14_2 (m : MethodId) (a0 : Addr) (a1 : Addr)  : entryFrame m #[(.ref a0), (.ref a1)] 2 = mkF m 0 #[.val (.ref a0), .val (.ref a1)] [] := by first | (simp [entryFrame, mkF, argsToLocals, Value.category]; done) | rfl
def Q_m14_2 (Z : State) (a0 : Addr) (a1 : Addr) (h0 : Heap) (n0 : Nat) (v : Option Value) (h : Heap) (L : List Loc) : Prop := v = some (.ref a0) ∧ Fr n0 L ∧ h = h0
theorem rm_m14_2 (l : Launch) (Z : State) (aZ : Array Value) (hw : ∀ d ∈ tables_1, d.before aZ Z = true) (ws : List Jvm.Cond) (a0 : Addr) (a1 : Addr) (h0 : Heap) (n0 : Nat) (Z0 : n0 ≤ h0.size) :
    MetN l Z yn_14 jdk_31_method_11_code 2 (some (.object "java/lang/Object")) ws ({ frames := 0, cells := 0, slots := 0, locals := 0 } : Room) #[(.ref a0), (.ref a1)] h0 (Q_m14_2 Z a0 a1 h0 n0) := by
 refine MetN.of (plainFor_of_name pn_2) ?_
 intro p e s m below meth c s₁ hret hx hby hml hown hnm hlk hZ X0 e0
 have N0 := Fr.nil n0
 rw [ef_m14_2 m a0 a1]
 refine w_aloadN X0 hx (d14_0 hby) rfl rfl (pq 1) ?_
 refine w_ifnonnullY X0 hx (d14_1 hby) (pc' := 13) (by decide) (by decide) ?_
 refine w_aloadN X0 hx (d14_13 hby) rfl rfl (pq 14) ?_
 exact w_done X0 hlk (v := some (.ref a0)) e0 (fun h => by rw [hret] at h; cases h) (fun fs hr => retOut X0 hx hret rfl (Or.inr (Or.inr (Or.inr (Or.inr ⟨rfl, rfl, rfl⟩)))) (d14_14 hby) hr) (by decide) (by decide) (⟨rfl, N0, rfl⟩)
theorem ef_m17_5 (m : MethodId) (a0 : Addr)  : entryFrame m #[(.ref a0)] 1 = mkF m 0 #[.val (.ref a0)] [] := by first | (simp [entryFrame, mkF, argsToLocals, Value.category]; done) | rfl
def Q_m17_5 (Z : State) (a0 : Addr) (jj0 : Int32) (h0 : Heap) (n0 : Nat) (v : Option Value) (h : Heap) (L : List Loc) : Prop := v = some (.int (0 : Int32)) ∧ Fr n0 L ∧ h = h0
theorem rm_m17_5 (l : Launch) (Z : State) (aZ : Array Value) (hw : ∀ d ∈ tables_1, d.before aZ Z = true) (ws : List Jvm.Cond) (a0 : Addr) (jj0 : Int32) (h0 : Heap) (n0 : Nat) (Z0 : n0 ≤ h0.size) (zz1 : Sta Z Z.heap kc0 "COMPACT_STRINGS" "Z" (.int jj0)) (O0 : Old Z n0 h0) (hP_2 : ¬ (jj0 = (0 : Int32))) (zz2 : Fld Z h0 a0 kc0 "coder" "B" (.int (0 : Int32))) :
    MetN l Z yn_17 jdk_42_method_152_code 1 (some .byte) ws ({ frames := 0, cells := 0, slots := 0, locals := 0 } : Room) #[(.ref a0)] h0 (Q_m17_5 Z a0 jj0 h0 n0) := by
 refine MetN.of (plainFor_of_name pn_3) ?_
 intro p e s m below meth c s₁ hret hx hby hml hown hnm hlk hZ X0 e0
 have N0 := Fr.nil n0
 rw [ef_m17_5 m a0]
 refine w_getS X0 hx "" hZ hown (Or.inl (wd_34 hw)) Via.refl e0 (zz1.ext O0.2) (d17_0 hby) (pq 3) ?_
 intro T20 X20 e20
 refine w_ifN X20 hx (d17_3 hby) (feq hP_2).1 (pq 6) ?_
 refine w_aloadN X20 hx (d17_6 hby) rfl rfl (pq 7) ?_
 refine w_getF X20 hx "" hZ hown (Or.inl (wd_46 hw)) Via.refl e20 zz2 (d17_7 hby) (pq 10) ?_
 intro T21 X21 e21
 refine w_goto X21 hx (d17_10 hby) (pc' := 14) (by decide) (by decide) ?_
 exact w_done X21 hlk (v := some (.int (0 : Int32))) e21 (fun h => by rw [hret] at h; cases h) (fun fs hr => retN X21 hx (t := .byte) hret (by simp) (d17_14 hby) hr) (by decide) (by decide) (⟨rfl, N0, rfl⟩)
theorem ef_m16_4 (m : MethodId) (a0 : Addr)  : entryFrame m #[(.ref a0)] 1 = mkF m 0 #[.val (.ref a0)] [] := by first | (simp [entryFrame, mkF, argsToLocals, Value.category]; done) | rfl
def Q_m16_4 (Z : State) (a0 : Addr) (jj0 : Addr) (jj1 : ClassId) (jj2 : List Int32) (jj3 : Int32) (h0 : Heap) (n0 : Nat) (v : Option Value) (h : Heap) (L : List Loc) : Prop := v = some (.int (12 : Int32)) ∧ Fr n0 L ∧ h = h0
theorem rm_m16_4 (l : Launch) (Z : State) (aZ : Array Value) (hw : ∀ d ∈ tables_1, d.before aZ Z = true) (ws : List Jvm.Cond) (a0 : Addr) (jj0 : Addr) (jj1 : ClassId) (jj2 : List Int32) (jj3 : Int32) (h0 : Heap) (n0 : Nat) (Z0 : n0 ≤ h0.size) (zz4 : Fld Z h0 a0 kc0 "value" "[B" (.ref jj0)) (zz5 : Arv Z h0 jj0 jj1 .byte (12 : Int32) (mI jj2) (.int (0 : Int32))) (E_a0 : Exa Z h0 a0 kc0) (hP_3 : ¬ (jj3 = (0 : Int32))) (zz6 : Fld Z h0 a0 kc0 "coder" "B" (.int (0 : Int32))) (zz7 : Sta Z Z.heap kc0 "COMPACT_STRINGS" "Z" (.int jj3)) (O0 : Old Z n0 h0) :
    MetN l Z yn_16 jdk_42_method_54_code 1 (some .int) ws ({ frames := 1, cells := 0, slots := 0, locals := 13 } : Room) #[(.ref a0)] h0 (Q_m16_4 Z a0 jj0 jj1 jj2 jj3 h0 n0) := by
 refine MetN.of (plainFor_of_name pn_3) ?_
 intro p e s m below meth c s₁ hret hx hby hml hown hnm hlk hZ X0 e0
 have N0 := Fr.nil n0
 rw [ef_m16_4 m a0]
 refine w_aloadN X0 hx (d16_0 hby) rfl rfl (pq 1) ?_
 refine w_getF X0 hx "" hZ hown (Or.inl (wd_48 hw)) Via.refl e0 zz4 (d16_1 hby) (pq 4) ?_
 intro T20 X20 e20
 refine w_alen X20 hx hZ e20 zz5 (d16_4 hby) (pq 5) ?_
 refine w_aloadN X20 hx (d16_5 hby) rfl rfl (pq 6) ?_
 obtain ⟨cq21, kq21, q21a, q21b, q21c⟩ := isOf hZ e20 E_a0
 refine w_virtual X20 hx (y := yn_17) (z := yn_17) hown (mvT hZ (wd_70 hw)) (mvT hZ (wd_71 hw)) (notFace_of_selects (args := #[]) (mvT hZ (wd_73 hw))) (mvT hZ (wd_73 hw)) (mvT hZ (wd_72 hw)) (by decide) (backOf (W := 1) (rm_m17_5 l Z aZ hw [] a0 jj3 h0 n0 Z0 zz7 O0 hP_3 zz6) hZ (wd_74 hw) (wd_23 hw) (by decide) (by decide)) q21a q21c (by rw [hml]; rfl) [] (lenOf pd_7 rfl) rfl (Nat.le_of_eq rfl) (d16_6 hby) (fun _ _ => ⟨rfl, e20, (by decide : 0 + 0 ≤ _), (by decide : 0 + 0 ≤ _)⟩) (pq 9) ?_
 rintro _ _ ⟨T21, L21, k21, n21⟩ X21 ⟨Lc21, hQ21, l21, y21, z21⟩
 dsimp only [Pt.U, Pt.locs, Pt.cells, Pt.slots] at X21 l21 y21 z21 hQ21 ⊢
 rw [l21, y21, z21] at X21
 obtain ⟨rfl, N21q, e21⟩ := hQ21
 have N22 := Fr.app N0 N21q
 show Runs _ _ _ _ (T21.setTop (mkF m 9 _ [(.int (0 : Int32)), (.int (12 : Int32))]))
 refine w_ishr X21 hx (d16_9 hby) (pq 10) ?_
 rw [show ((12 : Int32) >>> ((0 : Int32) &&& 31)) = (12 : Int32) from by decide]
 exact w_done X21 hlk (v := some (.int (12 : Int32))) e21 (fun h => by rw [hret] at h; cases h) (fun fs hr => retI X21 hx hret (d16_10 hby) hr) (by decide) (by decide) (⟨rfl, N22, rfl⟩)
theorem ef_m19_7 (m : MethodId) (a0 : Addr)  : entryFrame m #[(.ref a0)] 1 = mkF m 0 #[.val (.ref a0)] [] := by first | (simp [entryFrame, mkF, argsToLocals, Value.category]; done) | rfl
def Q_m19_7 (Z : State) (a0 : Addr) (jj0 : Int32) (h0 : Heap) (n0 : Nat) (v : Option Value) (h : Heap) (L : List Loc) : Prop := v = some (.int (1 : Int32)) ∧ Fr n0 L ∧ h = h0
theorem rm_m19_7 (l : Launch) (Z : State) (aZ : Array Value) (hw : ∀ d ∈ tables_1, d.before aZ Z = true) (ws : List Jvm.Cond) (a0 : Addr) (jj0 : Int32) (h0 : Heap) (n0 : Nat) (Z0 : n0 ≤ h0.size) (zz1 : Sta Z Z.heap kc0 "COMPACT_STRINGS" "Z" (.int jj0)) (O0 : Old Z n0 h0) (hP_2 : ¬ (jj0 = (0 : Int32))) (zz2 : Fld Z h0 a0 kc0 "coder" "B" (.int (0 : Int32))) :
    MetN l Z yn_19 jdk_42_method_154_code 1 (some .boolean) ws ({ frames := 0, cells := 0, slots := 0, locals := 0 } : Room) #[(.ref a0)] h0 (Q_m19_7 Z a0 jj0 h0 n0) := by
 refine MetN.of (plainFor_of_name pn_3) ?_
 intro p e s m below meth c s₁ hret hx hby hml hown hnm hlk hZ X0 e0
 have N0 := Fr.nil n0
 rw [ef_m19_7 m a0]
 refine w_getS X0 hx "" hZ hown (Or.inl (wd_34 hw)) Via.refl e0 (zz1.ext O0.2) (d19_0 hby) (pq 3) ?_
 intro T20 X20 e20
 refine w_ifN X20 hx (d19_3 hby) (feq hP_2).1 (pq 6) ?_
 refine w_aloadN X20 hx (d19_6 hby) rfl rfl (pq 7) ?_
 refine w_getF X20 hx "" hZ hown (Or.inl (wd_46 hw)) Via.refl e20 zz2 (d19_7 hby) (pq 10) ?_
 intro T21 X21 e21
 refine w_ifN X21 hx (d19_10 hby) (teq (by decide : (0 : Int32) = (0 : Int32))).2 (pq 13) ?_
 refine w_iconst X21 hx (d19_13 hby) (v := (1 : Int32)) rfl (pq 14) ?_
 refine w_goto X21 hx (d19_14 hby) (pc' := 18) (by decide) (by decide) ?_
 exact w_done X21 hlk (v := some (.int (1 : Int32))) e21 (fun h => by rw [hret] at h; cases h) (fun fs hr => retN X21 hx (t := .boolean) hret (by simp) (d19_18 hby) hr) (by decide) (by decide) (⟨rfl, N0, rfl⟩)
theorem ef_m22_10 (m : MethodId) (p0 : Int32) (v2 : Value) (r_v2 : v2.isRef = true) : entryFrame m #[(.int p0), (.int (12 : Int32)), v2] 3 = mkF m 0 #[.val (.int p0), .val (.int (12 : Int32)), .val v2] [] := by
  rcases XT.refc r_v2 with rfl | ⟨z_v2, rfl⟩ <;> first | (simp [entryFrame, mkF, argsToLocals, Value.category]; done) | rfl
def Q_m22_10 (Z : State) (p0 : Int32) (v2 : Value) (h0 : Heap) (n0 : Nat) (v : Option Value) (h : Heap) (L : List Loc) : Prop := v = some (.int p0) ∧ Fr n0 L ∧ h = h0
theorem rm_m22_10 (l : Launch) (Z : State) (aZ : Array Value) (hw : ∀ d ∈ tables_1, d.before aZ Z = true) (ws : List Jvm.Cond) (p0 : Int32) (v2 : Value) (h0 : Heap) (n0 : Nat) (Z0 : n0 ≤ h0.size) (r_v2 : v2.isRef = true) (hP_1 : ¬ (p0 < (0 : Int32))) (hP_2 : p0 < (12 : Int32)) :
    MetN l Z yn_22 jdk_41_method_11_code 3 (some .int) ws ({ frames := 0, cells := 0, slots := 0, locals := 0 } : Room) #[(.int p0), (.int (12 : Int32)), v2] h0 (Q_m22_10 Z p0 v2 h0 n0) := by
 refine MetN.of (plainFor_of_name pn_4) ?_
 intro p e s m below meth c s₁ hret hx hby hml hown hnm hlk hZ X0 e0
 have N0 := Fr.nil n0
 rw [ef_m22_10 m p0 v2 r_v2]
 refine w_iloadN X0 hx (d22_0 hby) rfl (pq 1) ?_
 refine w_ifN X0 hx (d22_1 hby) (flt hP_1).1 (pq 4) ?_
 refine w_iloadN X0 hx (d22_4 hby) rfl (pq 5) ?_
 refine w_iloadN X0 hx (d22_5 hby) rfl (pq 6) ?_
 refine w_icY X0 hx (d22_6 hby) (tlt hP_2).1 (pc' := 16) (by decide) (by decide) ?_
 refine w_iloadN X0 hx (d22_16 hby) rfl (pq 17) ?_
 exact w_done X0 hlk (v := some (.int p0)) e0 (fun h => by rw [hret] at h; cases h) (fun fs hr => retI X0 hx hret (d22_17 hby) hr) (by decide) (by decide) (⟨rfl, N0, rfl⟩)
theorem ef_m21_9 (m : MethodId) (p0 : Int32)  : entryFrame m #[(.int p0), (.int (12 : Int32))] 2 = mkF m 0 #[.val (.int p0), .val (.int (12 : Int32))] [] := by first | (simp [entryFrame, mkF, argsToLocals, Value.category]; done) | rfl
def Q_m21_9 (Z : State) (p0 : Int32) (jj0 : Value) (h0 : Heap) (n0 : Nat) (v : Option Value) (h : Heap) (L : List Loc) : Prop := v = none ∧ Fr n0 L ∧ h = h0
theorem rm_m21_9 (l : Launch) (Z : State) (aZ : Array Value) (hw : ∀ d ∈ tables_1, d.before aZ Z = true) (ws : List Jvm.Cond) (p0 : Int32) (jj0 : Value) (h0 : Heap) (n0 : Nat) (Z0 : n0 ≤ h0.size) (zz1 : jj0.isRef = true) (zz2 : Sta Z Z.heap kc3 "SIOOBE_FORMATTER" "Ljava/util/function/BiFunction;" jj0) (O0 : Old Z n0 h0) (hP_3 : ¬ (p0 < (0 : Int32))) (hP_4 : p0 < (12 : Int32)) :
    MetN l Z yn_21 jdk_42_method_155_code 2 none ws ({ frames := 1, cells := 0, slots := 0, locals := 14 } : Room) #[(.int p0), (.int (12 : Int32))] h0 (Q_m21_9 Z p0 jj0 h0 n0) := by
 refine MetN.of (plainFor_of_name pn_3) ?_
 intro p e s m below meth c s₁ hret hx hby hml hown hnm hlk hZ X0 e0
 have N0 := Fr.nil n0
 rw [ef_m21_9 m p0]
 refine w_iloadN X0 hx (d21_0 hby) rfl (pq 1) ?_
 refine w_iloadN X0 hx (d21_1 hby) rfl (pq 2) ?_
 refine w_getS X0 hx "" hZ hown (Or.inl (wd_92 hw)) Via.refl e0 (zz2.ext O0.2) (d21_2 hby) (pq 5) ?_
 intro T20 X20 e20
 refine w_static X20 hx (y := yn_22) hown (mvT hZ (wd_94 hw)) (mvT hZ (wd_95 hw)) (mvT hZ (wd_93 hw)) (mvT hZ (wd_96 hw)) (by decide) (backOf (W := 0) (rm_m22_10 l Z aZ hw [] p0 jj0 h0 n0 Z0 zz1 hP_3 hP_4) hZ (wd_96 hw) (wd_93 hw) (by decide) (by decide)) (by rw [hml]; rfl) [(.int p0), (.int (12 : Int32)), jj0] (lenOf pd_10 rfl) rfl (Nat.le_of_eq rfl) (d21_5 hby) (fun _ _ => ⟨rfl, e20, (by decide : 0 + 0 ≤ _), (by decide : 0 + 0 ≤ _)⟩) (pq 8) ?_
 rintro _ _ ⟨T21, L21, k21, n21⟩ X21 ⟨Lc21, hQ21, l21, y21, z21⟩
 dsimp only [Pt.U, Pt.locs, Pt.cells, Pt.slots] at X21 l21 y21 z21 hQ21 ⊢
 rw [l21, y21, z21] at X21
 obtain ⟨rfl, N21q, e21⟩ := hQ21
 have N22 := Fr.app N0 N21q
 show Runs _ _ _ _ (T21.setTop (mkF m 8 _ [(.int p0)]))
 refine w_pop X21 hx (d21_8 hby) rfl (pq 9) ?_
 exact w_done X21 hlk (v := none) e21 (fun _ => rfl) (fun fs hr => X21.returnOut hx hret (d21_9 hby) hr) (by decide) (by decide) (⟨rfl, N22, rfl⟩)
theorem ef_m20_8 (m : MethodId) (a0 : Addr) (p1 : Int32)  : entryFrame m #[(.ref a0), (.int p1)] 2 = mkF m 0 #[.val (.ref a0), .val (.int p1)] [] := by first | (simp [entryFrame, mkF, argsToLocals, Value.category]; done) | rfl
def Q_m20_8 (Z : State) (a0 : Addr) (p1 : Int32) (k_a0 : ClassId) (l_a0 : List Int32) (jj0 : Value) (h0 : Heap) (n0 : Nat) (v : Option Value) (h : Heap) (L : List Loc) : Prop := v = some (.int (((gI l_a0 p1) &&& (255 : Int32)).toUInt32.toUInt16.toUInt32.toInt32)) ∧ Fr n0 L ∧ h = h0
theorem rm_m20_8 (l : Launch) (Z : State) (aZ : Array Value) (hw : ∀ d ∈ tables_1, d.before aZ Z = true) (ws : List Jvm.Cond) (a0 : Addr) (p1 : Int32) (k_a0 : ClassId) (l_a0 : List Int32) (jj0 : Value) (h0 : Heap) (n0 : Nat) (Z0 : n0 ≤ h0.size) (V_a0 : Arv Z h0 a0 k_a0 .byte (12 : Int32) (mI l_a0) (.int (0 : Int32))) (hP_1 : ¬ (p1 < (0 : Int32))) (hP_2 : p1 < (12 : Int32)) (zz1 : jj0.isRef = true) (zz2 : Sta Z Z.heap kc3 "SIOOBE_FORMATTER" "Ljava/util/function/BiFunction;" jj0) (O0 : Old Z n0 h0) :
    MetN l Z yn_20 jdk_43_method_2_code 2 (some .char) ws ({ frames := 2, cells := 0, slots := 0, locals := 27 } : Room) #[(.ref a0), (.int p1)] h0 (Q_m20_8 Z a0 p1 k_a0 l_a0 jj0 h0 n0) := by
 refine MetN.of (plainFor_of_name pn_5) ?_
 intro p e s m below meth c s₁ hret hx hby hml hown hnm hlk hZ X0 e0
 have N0 := Fr.nil n0
 rw [ef_m20_8 m a0 p1]
 refine w_iloadN X0 hx (d20_0 hby) rfl (pq 1) ?_
 refine w_aloadN X0 hx (d20_1 hby) rfl rfl (pq 2) ?_
 refine w_alen X0 hx hZ e0 V_a0 (d20_2 hby) (pq 3) ?_
 refine w_static X0 hx (y := yn_21) hown (mvT hZ (wd_89 hw)) (mvT hZ (wd_90 hw)) (mvT hZ (wd_23 hw)) (mvT hZ (wd_91 hw)) (by decide) (backOf (W := 0) (rm_m21_9 l Z aZ hw [] p1 jj0 h0 n0 Z0 zz1 zz2 O0 hP_1 hP_2) hZ (wd_91 hw) (wd_23 hw) (by decide) (by decide)) (by rw [hml]; rfl) [(.int p1), (.int (12 : Int32))] (lenOf pd_11 rfl) rfl (Nat.le_of_eq rfl) (d20_3 hby) (fun _ _ => ⟨rfl, e0, (by decide : 0 + 0 ≤ _), (by decide : 0 + 0 ≤ _)⟩) (pq 6) ?_
 rintro _ _ ⟨T20, L20, k20, n20⟩ X20 ⟨Lc20, hQ20, l20, y20, z20⟩
 dsimp only [Pt.U, Pt.locs, Pt.cells, Pt.slots] at X20 l20 y20 z20 hQ20 ⊢
 rw [l20, y20, z20] at X20
 obtain ⟨rfl, N20q, e20⟩ := hQ20
 have N21 := Fr.app N0 N20q
 show Runs _ _ _ _ (T20.setTop (mkF m 6 _ []))
 refine w_aloadN X20 hx (d20_6 hby) rfl rfl (pq 7) ?_
 refine w_iloadN X20 hx (d20_7 hby) rfl (pq 8) ?_
 obtain ⟨clu22, Aru22, qu22, Su22, Nu22, Hu22, Gu22⟩ := id V_a0
 have hinu22 := inb_of (j := p1) Su22 ⟨hP_1, hP_2⟩
 refine w_baload X20 hx hZ e20 Aru22 hinu22 (Hu22.at hinu22 (own_gI l_a0 p1)) (d20_8 hby) (pq 9) ?_
 refine w_sipush X20 hx (d20_9 hby) (v := (255 : Int32)) rfl (pq 12) ?_
 refine w_iand X20 hx (d20_12 hby) (pq 13) ?_
 refine w_i2c X20 hx (d20_13 hby) (pq 14) ?_
 exact w_done X20 hlk (v := some (.int (((gI l_a0 p1) &&& (255 : Int32)).toUInt32.toUInt16.toUInt32.toInt32))) e20 (fun h => by rw [hret] at h; cases h) (fun fs hr => retOut X20 hx hret (t := .char) (XT.narrow_c _) (Or.inl ⟨rfl, by simp, _, rfl⟩) (d20_14 hby) hr) (by decide) (by decide) (⟨rfl, N21, rfl⟩)
theorem ef_m18_6 (m : MethodId) (a0 : Addr) (p1 : Int32)  : entryFrame m #[(.ref a0), (.int p1)] 2 = mkF m 0 #[.val (.ref a0), .val (.int p1)] [] := by first | (simp [entryFrame, mkF, argsToLocals, Value.category]; done) | rfl
def Q_m18_6 (Z : State) (a0 : Addr) (p1 : Int32) (jj0 : Int32) (jj1 : Addr) (jj2 : ClassId) (jj3 : List Int32) (jj4 : Value) (h0 : Heap) (n0 : Nat) (v : Option Value) (h : Heap) (L : List Loc) : Prop := v = some (.int (((gI jj3 p1) &&& (255 : Int32)).toUInt32.toUInt16.toUInt32.toInt32)) ∧ Fr n0 L ∧ h = h0
theorem rm_m18_6 (l : Launch) (Z : State) (aZ : Array Value) (hw : ∀ d ∈ tables_1, d.before aZ Z = true) (ws : List Jvm.Cond) (a0 : Addr) (p1 : Int32) (jj0 : Int32) (jj1 : Addr) (jj2 : ClassId) (jj3 : List Int32) (jj4 : Value) (h0 : Heap) (n0 : Nat) (Z0 : n0 ≤ h0.size) (E_a0 : Exa Z h0 a0 kc0) (hP_1 : ¬ (jj0 = (0 : Int32))) (zz5 : Fld Z h0 a0 kc0 "coder" "B" (.int (0 : Int32))) (zz6 : Sta Z Z.heap kc0 "COMPACT_STRINGS" "Z" (.int jj0)) (O0 : Old Z n0 h0) (zz7 : Fld Z h0 a0 kc0 "value" "[B" (.ref jj1)) (zz8 : Arv Z h0 jj1 jj2 .byte (12 : Int32) (mI jj3) (.int (0 : Int32))) (hP_7 : ¬ (p1 < (0 : Int32))) (hP_8 : p1 < (12 : Int32)) (zz9 : jj4.isRef = true) (zz10 : Sta Z Z.heap kc3 "SIOOBE_FORMATTER" "Ljava/util/function/BiFunction;" jj4) :
    MetN l Z yn_18 jdk_42_method_56_code 2 (some .char) ws ({ frames := 3, cells := 0, slots := 0, locals := 40 } : Room) #[(.ref a0), (.int p1)] h0 (Q_m18_6 Z a0 p1 jj0 jj1 jj2 jj3 jj4 h0 n0) := by
 refine MetN.of (plainFor_of_name pn_3) ?_
 intro p e s m below meth c s₁ hret hx hby hml hown hnm hlk hZ X0 e0
 have N0 := Fr.nil n0
 rw [ef_m18_6 m a0 p1]
 refine w_aloadN X0 hx (d18_0 hby) rfl rfl (pq 1) ?_
 obtain ⟨cq20, kq20, q20a, q20b, q20c⟩ := isOf hZ e0 E_a0
 refine w_virtual X0 hx (y := yn_19) (z := yn_19) hown (mvT hZ (wd_80 hw)) (mvT hZ (wd_81 hw)) (notFace_of_selects (args := #[]) (mvT hZ (wd_83 hw))) (mvT hZ (wd_83 hw)) (mvT hZ (wd_82 hw)) (by decide) (backOf (W := 0) (rm_m19_7 l Z aZ hw [] a0 jj0 h0 n0 Z0 zz6 O0 hP_1 zz5) hZ (wd_84 hw) (wd_23 hw) (by decide) (by decide)) q20a q20c (by rw [hml]; rfl) [] (lenOf pd_9 rfl) rfl (Nat.le_of_eq rfl) (d18_1 hby) (fun _ _ => ⟨rfl, e0, (by decide : 0 + 0 ≤ _), (by decide : 0 + 0 ≤ _)⟩) (pq 4) ?_
 rintro _ _ ⟨T20, L20, k20, n20⟩ X20 ⟨Lc20, hQ20, l20, y20, z20⟩
 dsimp only [Pt.U, Pt.locs, Pt.cells, Pt.slots] at X20 l20 y20 z20 hQ20 ⊢
 rw [l20, y20, z20] at X20
 obtain ⟨rfl, N20q, e20⟩ := hQ20
 have N21 := Fr.app N0 N20q
 show Runs _ _ _ _ (T20.setTop (mkF m 4 _ [(.int (1 : Int32))]))
 refine w_ifN X20 hx (d18_4 hby) (feq (by decide : ¬ ((1 : Int32) = (0 : Int32)))).1 (pq 7) ?_
 refine w_aloadN X20 hx (d18_7 hby) rfl rfl (pq 8) ?_
 refine w_getF X20 hx "" hZ hown (Or.inl (wd_48 hw)) Via.refl e20 zz7 (d18_8 hby) (pq 11) ?_
 intro T22 X22 e22
 refine w_iloadN X22 hx (d18_11 hby) rfl (pq 12) ?_
 refine w_static X22 hx (y := yn_20) hown (mvT hZ (wd_85 hw)) (mvT hZ (wd_86 hw)) (mvT hZ (wd_87 hw)) (mvT hZ (wd_88 hw)) (by decide) (backOf (W := 0) (rm_m20_8 l Z aZ hw [] jj1 p1 jj2 jj3 jj4 h0 n0 Z0 zz8 hP_7 hP_8 zz9 zz10 O0) hZ (wd_88 hw) (wd_87 hw) (by decide) (by decide)) (by rw [hml]; rfl) [(.ref jj1), (.int p1)] (lenOf pd_12 rfl) rfl (Nat.le_of_eq rfl) (d18_12 hby) (fun _ _ => ⟨rfl, e22, (by decide : 0 + 0 ≤ _), (by decide : 0 + 0 ≤ _)⟩) (pq 15) ?_
 rintro _ _ ⟨T23, L23, k23, n23⟩ X23 ⟨Lc23, hQ23, l23, y23, z23⟩
 dsimp only [Pt.U, Pt.locs, Pt.cells, Pt.slots] at X23 l23 y23 z23 hQ23 ⊢
 rw [l23, y23, z23] at X23
 obtain ⟨rfl, N23q, e23⟩ := hQ23
 have N24 := Fr.app N21 N23q
 show Runs _ _ _ _ (T23.setTop (mkF m 15 _ [(.int (((gI jj3 p1) &&& (255 : Int32)).toUInt32.toUInt16.toUInt32.toInt32))]))
 exact w_done X23 hlk (v := some (.int (((gI jj3 p1) &&& (255 : Int32)).toUInt32.toUInt16.toUInt32.toInt32))) e23 (fun h => by rw [hret] at h; cases h) (fun fs hr => retOut X23 hx hret (t := .char) (XT.narrow_c _) (Or.inl ⟨rfl, by simp, _, rfl⟩) (d18_15 hby) hr) (by decide) (by decide) (⟨rfl, N24, rfl⟩)
theorem ef_m26_13 (m : MethodId) (p0 : Int32) (p1 : Int32) (v3 : Value) (r_v3 : v3.isRef = true) : entryFrame m #[(.int p0), (.int p1), (.int (12 : Int32)), v3] 4 = mkF m 0 #[.val (.int p0), .val (.int p1), .val (.int (12 : Int32)), .val v3] [] := by
  rcases XT.refc r_v3 with rfl | ⟨z_v3, rfl⟩ <;> first | (simp [entryFrame, mkF, argsToLocals, Value.category]; done) | rfl
def Q_m26_13 (Z : State) (p0 : Int32) (p1 : Int32) (v3 : Value) (h0 : Heap) (n0 : Nat) (v : Option Value) (h : Heap) (L : List Loc) : Prop := v = some (.int p0) ∧ Fr n0 L ∧ h = h0
theorem rm_m26_13 (l : Launch) (Z : State) (aZ : Array Value) (hw : ∀ d ∈ tables_1, d.before aZ Z = true) (ws : List Jvm.Cond) (p0 : Int32) (p1 : Int32) (v3 : Value) (h0 : Heap) (n0 : Nat) (Z0 : n0 ≤ h0.size) (r_v3 : v3.isRef = true) (hP_1 : ¬ (p0 < (0 : Int32))) (hP_2 : ¬ (p1 < p0)) (hP_3 : ¬ ((12 : Int32) < p1)) :
    MetN l Z yn_26 jdk_41_method_12_code 4 (some .int) ws ({ frames := 0, cells := 0, slots := 0, locals := 0 } : Room) #[(.int p0), (.int p1), (.int (12 : Int32)), v3] h0 (Q_m26_13 Z p0 p1 v3 h0 n0) := by
 refine MetN.of (plainFor_of_name pn_4) ?_
 intro p e s m below meth c s₁ hret hx hby hml hown hnm hlk hZ X0 e0
 have N0 := Fr.nil n0
 rw [ef_m26_13 m p0 p1 v3 r_v3]
 refine w_iloadN X0 hx (d26_0 hby) rfl (pq 1) ?_
 refine w_ifN X0 hx (d26_1 hby) (flt hP_1).1 (pq 4) ?_
 refine w_iloadN X0 hx (d26_4 hby) rfl (pq 5) ?_
 refine w_iloadN X0 hx (d26_5 hby) rfl (pq 6) ?_
 refine w_icN X0 hx (d26_6 hby) (flt hP_2).2.2.1 (pq 9) ?_
 refine w_iloadN X0 hx (d26_9 hby) rfl (pq 10) ?_
 refine w_iloadN X0 hx (d26_10 hby) rfl (pq 11) ?_
 refine w_icY X0 hx (d26_11 hby) (flt hP_3).2.2.2 (pc' := 22) (by decide) (by decide) ?_
 refine w_iloadN X0 hx (d26_22 hby) rfl (pq 23) ?_
 exact w_done X0 hlk (v := some (.int p0)) e0 (fun h => by rw [hret] at h; cases h) (fun fs hr => retI X0 hx hret (d26_23 hby) hr) (by decide) (by decide) (⟨rfl, N0, rfl⟩)
theorem ef_m25_12 (m : MethodId) (p0 : Int32) (p1 : Int32)  : entryFrame m #[(.int p0), (.int p1), (.int (12 : Int32))] 3 = mkF m 0 #[.val (.int p0), .val (.int p1), .val (.int (12 : Int32))] [] := by first | (simp [entryFrame, mkF, argsToLocals, Value.category]; done) | rfl
def Q_m25_12 (Z : State) (p0 : Int32) (p1 : Int32) (jj0 : Value) (h0 : Heap) (n0 : Nat) (v : Option Value) (h : Heap) (L : List Loc) : Prop := v = none ∧ Fr n0 L ∧ h = h0
theorem rm_m25_12 (l : Launch) (Z : State) (aZ : Array Value) (hw : ∀ d ∈ tables_1, d.before aZ Z = true) (ws : List Jvm.Cond) (p0 : Int32) (p1 : Int32) (jj0 : Value) (h0 : Heap) (n0 : Nat) (Z0 : n0 ≤ h0.size) (zz1 : jj0.isRef = true) (zz2 : Sta Z Z.heap kc3 "SIOOBE_FORMATTER" "Ljava/util/function/BiFunction;" jj0) (O0 : Old Z n0 h0) (hP_3 : ¬ (p0 < (0 : Int32))) (hP_4 : ¬ (p1 < p0)) (hP_5 : ¬ ((12 : Int32) < p1)) :
    MetN l Z yn_25 jdk_42_method_158_code 3 none ws ({ frames := 1, cells := 0, slots := 0, locals := 15 } : Room) #[(.int p0), (.int p1), (.int (12 : Int32))] h0 (Q_m25_12 Z p0 p1 jj0 h0 n0) := by
 refine MetN.of (plainFor_of_name pn_3) ?_
 intro p e s m below meth c s₁ hret hx hby hml hown hnm hlk hZ X0 e0
 have N0 := Fr.nil n0
 rw [ef_m25_12 m p0 p1]
 refine w_iloadN X0 hx (d25_0 hby) rfl (pq 1) ?_
 refine w_iloadN X0 hx (d25_1 hby) rfl (pq 2) ?_
 refine w_iloadN X0 hx (d25_2 hby) rfl (pq 3) ?_
 refine w_getS X0 hx "" hZ hown (Or.inl (wd_92 hw)) Via.refl e0 (zz2.ext O0.2) (d25_3 hby) (pq 6) ?_
 intro T20 X20 e20
 refine w_static X20 hx (y := yn_26) hown (mvT hZ (wd_109 hw)) (mvT hZ (wd_110 hw)) (mvT hZ (wd_93 hw)) (mvT hZ (wd_111 hw)) (by decide) (backOf (W := 0) (rm_m26_13 l Z aZ hw [] p0 p1 jj0 h0 n0 Z0 zz1 hP_3 hP_4 hP_5) hZ (wd_111 hw) (wd_93 hw) (by decide) (by decide)) (by rw [hml]; rfl) [(.int p0), (.int p1), (.int (12 : Int32)), jj0] (lenOf pd_13 rfl) rfl (Nat.le_of_eq rfl) (d25_6 hby) (fun _ _ => ⟨rfl, e20, (by decide : 0 + 0 ≤ _), (by decide : 0 + 0 ≤ _)⟩) (pq 9) ?_
 rintro _ _ ⟨T21, L21, k21, n21⟩ X21 ⟨Lc21, hQ21, l21, y21, z21⟩
 dsimp only [Pt.U, Pt.locs, Pt.cells, Pt.slots] at X21 l21 y21 z21 hQ21 ⊢
 rw [l21, y21, z21] at X21
 obtain ⟨rfl, N21q, e21⟩ := hQ21
 have N22 := Fr.app N0 N21q
 show Runs _ _ _ _ (T21.setTop (mkF m 9 _ [(.int p0)]))
 refine w_pop X21 hx (d25_9 hby) rfl (pq 10) ?_
 exact w_done X21 hlk (v := none) e21 (fun _ => rfl) (fun fs hr => X21.returnOut hx hret (d25_10 hby) hr) (by decide) (by decide) (⟨rfl, N22, rfl⟩)
theorem ef_m30_18 (m : MethodId) (p0 : Int32) (p1 : Int32)  : entryFrame m #[(.int p0), (.int p1)] 2 = mkF m 0 #[.val (.int p0), .val (.int p1)] [] := by first | (simp [entryFrame, mkF, argsToLocals, Value.category]; done) | rfl
def Q_m30_18 (Z : State) (p0 : Int32) (p1 : Int32) (h0 : Heap) (n0 : Nat) (v : Option Value) (h : Heap) (L : List Loc) : Prop := v = none ∧ Fr n0 L ∧ h = h0
theorem rm_m30_18 (l : Launch) (Z : State) (aZ : Array Value) (hw : ∀ d ∈ tables_1, d.before aZ Z = true) (ws : List Jvm.Cond) (p0 : Int32) (p1 : Int32) (h0 : Heap) (n0 : Nat) (Z0 : n0 ≤ h0.size) (hP_0 : ¬ (p1 < p0)) :
    MetN l Z yn_30 jdk_65_method_131_code 2 none ws ({ frames := 0, cells := 0, slots := 0, locals := 0 } : Room) #[(.int p0), (.int p1)] h0 (Q_m30_18 Z p0 p1 h0 n0) := by
 refine MetN.of (plainFor_of_name pn_6) ?_
 intro p e s m below meth c s₁ hret hx hby hml hown hnm hlk hZ X0 e0
 have N0 := Fr.nil n0
 rw [ef_m30_18 m p0 p1]
 refine w_iloadN X0 hx (d30_0 hby) rfl (pq 1) ?_
 refine w_iloadN X0 hx (d30_1 hby) rfl (pq 2) ?_
 refine w_icY X0 hx (d30_2 hby) (flt hP_0).2.1 (pc' := 37) (by decide) (by decide) ?_
 exact w_done X0 hlk (v := none) e0 (fun _ => rfl) (fun fs hr => X0.returnOut hx hret (d30_37 hby) hr) (by decide) (by decide) (⟨rfl, N0, rfl⟩)
theorem ef_m29_17 (m : MethodId) (a0 : Addr) (p1 : Int32) (p2 : Int32)  : entryFrame m #[(.ref a0), (.int p1), (.int p2)] 5 = mkF m 0 #[.val (.ref a0), .val (.int p1), .val (.int p2), .unset, .unset] [] := by first | (simp [entryFrame, mkF, argsToLocals, Value.category]; done) | rfl
def Q_m29_17 (Z : State) (a0 : Addr) (p1 : Int32) (p2 : Int32) (k_a0 : ClassId) (l_a0 : List Int32) (h0 : Heap) (n0 : Nat) (v : Option Value) (h : Heap) (L : List Loc) : Prop := ∃ (t : Addr) (kb : ClassId), v = some (.ref t) ∧ Fr n0 L ∧ Keep h0 h [] ∧ h0.size ≤ t ∧ Arv Z h t kb .byte (p2 - p1) (mI (cprL l_a0 p1 p2)) (.int (0 : Int32))
theorem rm_m29_17 (l : Launch) (Z : State) (aZ : Array Value) (hw : ∀ d ∈ tables_1, d.before aZ Z = true) (ws : List Jvm.Cond) (a0 : Addr) (p1 : Int32) (p2 : Int32) (k_a0 : ClassId) (l_a0 : List Int32) (h0 : Heap) (n0 : Nat) (Z0 : n0 ≤ h0.size) (V_a0 : Arv Z h0 a0 k_a0 .byte (12 : Int32) (mI l_a0) (.int (0 : Int32))) (hX_1 : CPR (12 : Int32) p1 p2) (hX_2 : l_a0.length = ((12 : Int32)).toNatClampNeg) :
    MetN l Z yn_29 jdk_65_method_133_code 5 (some (.array .byte)) ws ({ frames := 1, cells := 1, slots := 12, locals := 18 } : Room) #[(.ref a0), (.int p1), (.int p2)] h0 (Q_m29_17 Z a0 p1 p2 k_a0 l_a0 h0 n0) := by
 refine MetN.of (plainFor_of_name pn_6) ?_
 intro p e s m below meth c s₁ hret hx hby hml hown hnm hlk hZ X0 e0
 have N0 := Fr.nil n0
 rw [ef_m29_17 m a0 p1 p2]
 refine w_iloadN X0 hx (d29_0 hby) rfl (pq 1) ?_
 refine w_iloadN X0 hx (d29_1 hby) rfl (pq 2) ?_
 refine w_static X0 hx (y := yn_30) hown (mvT hZ (wd_123 hw)) (mvT hZ (wd_124 hw)) (mvT hZ (wd_118 hw)) (mvT hZ (wd_125 hw)) (by decide) (backOf (W := 0) (rm_m30_18 l Z aZ hw [] p1 p2 h0 n0 Z0 (own_cprL hX_1)) hZ (wd_125 hw) (wd_118 hw) (by decide) (by decide)) (by rw [hml]; rfl) [(.int p1), (.int p2)] (lenOf pd_11 rfl) rfl (Nat.le_of_eq rfl) (d29_2 hby) (fun _ _ => ⟨rfl, e0, (by decide : 0 + 0 ≤ _), (by decide : 0 + 0 ≤ _)⟩) (pq 5) ?_
 rintro _ _ ⟨T20, L20, k20, n20⟩ X20 ⟨Lc20, hQ20, l20, y20, z20⟩
 dsimp only [Pt.U, Pt.locs, Pt.cells, Pt.slots] at X20 l20 y20 z20 hQ20 ⊢
 rw [l20, y20, z20] at X20
 obtain ⟨rfl, N20q, e20⟩ := hQ20
 have N21 := Fr.app N0 N20q
 show Runs _ _ _ _ (T20.setTop (mkF m 5 _ []))
 refine w_iloadN X20 hx (d29_5 hby) rfl (pq 6) ?_
 refine w_iloadN X20 hx (d29_6 hby) rfl (pq 7) ?_
 refine w_isub X20 hx (d29_7 hby) (pq 8) ?_
 refine w_istoreN X20 hx (d29_8 hby) (L' := #[.val (.ref a0), .val (.int p1), .val (.int p2), .val (.int (p2 - p1)), .unset]) rfl (pq 9) ?_
 refine w_iloadN X20 hx (d29_9 hby) rfl (pq 10) ?_
 refine w_newP X20 hx .byte .byte 12 rfl hZ (wd_39 hw) e20 (d29_10 hby) (own_cprN hX_1).2 (own_cprN hX_1).1 (by decide) (by decide) (by decide) (pq 12) ?_
 intro T22 h22 k22 b22 X22 e22 E22 g22 A22
 have ge23 : n0 ≤ b22 := Nat.le_trans Z0 (Nat.le_of_eq g22.symm)
 have sz24 : h0.size ≤ b22 := Nat.le_trans (Nat.le_refl _) (Nat.le_of_eq g22.symm)
 have K25 : Keep h0 h22 [] := (Keep.refl h0 []).ext E22
 have V26 : Arv Z h22 b22 k22 .byte (p2 - p1) (mI (zeroL (p2 - p1))) (.int (0 : Int32)) := (Arv.new A22 (own_cprN hX_1).2).pad (own_zpad _)
 refine w_astore X22 hx (d29_12 hby) rfl (L' := #[.val (.ref a0), .val (.int p1), .val (.int p2), .val (.int (p2 - p1)), .val (.ref b22)]) rfl (pq 14) ?_
 refine w_aloadN X22 hx (d29_14 hby) rfl rfl (pq 15) ?_
 refine w_iloadN X22 hx (d29_15 hby) rfl (pq 16) ?_
 refine w_aload X22 hx (d29_16 hby) rfl rfl (pq 18) ?_
 refine w_iconst X22 hx (d29_18 hby) (v := (0 : Int32)) rfl (pq 19) ?_
 refine w_aloadN X22 hx (d29_19 hby) rfl rfl (pq 20) ?_
 have f27 : Arv Z h22 a0 k_a0 .byte (12 : Int32) (mI l_a0) (.int (0 : Int32)) := (V_a0.ext E22)
 refine w_alen X22 hx hZ e22 f27 (d29_20 hby) (pq 21) ?_
 refine w_iloadN X22 hx (d29_21 hby) rfl (pq 22) ?_
 refine w_isub X22 hx (d29_22 hby) (pq 23) ?_
 refine w_iloadN X22 hx (d29_23 hby) rfl (pq 24) ?_
 refine w_static X22 hx (y := yn_31) hown (mvT hZ (wd_126 hw)) (mvT hZ (wd_127 hw)) (mvT hZ (wd_128 hw)) (mvT hZ (wd_129 hw)) (by decide) (backOf (W := 4) (rm_min l Z aZ hw [] ((12 : Int32) - p1) (p2 - p1) h22 n0 (Nat.le_trans Z0 E22.1) ) hZ (wd_129 hw) (wd_128 hw) (by decide) (by decide)) (by rw [hml]; rfl) [(.int ((12 : Int32) - p1)), (.int (p2 - p1))] (lenOf pd_15 rfl) rfl (Nat.le_of_eq rfl) (d29_24 hby) (fun _ _ => ⟨rfl, e22, (by decide : 1 + 0 ≤ _), (by decide : 12 + 0 ≤ _)⟩) (pq 27) ?_
 rintro _ _ ⟨T28, L28, k28, n28⟩ X28 ⟨Lc28, hQ28, l28, y28, z28⟩
 dsimp only [Pt.U, Pt.locs, Pt.cells, Pt.slots] at X28 l28 y28 z28 hQ28 ⊢
 rw [l28, y28, z28] at X28
 obtain ⟨rfl, N28q, e28⟩ := hQ28
 have N29 := Fr.app N21 N28q
 show Runs _ _ _ _ (T28.setTop (mkF m 27 _ [(.int (minF ((12 : Int32) - p1) (p2 - p1))), (.int (0 : Int32)), (.ref b22), (.int p1), (.ref a0)]))
 refine w_cpA X28 hx (us := (mI (cprL l_a0 p1 p2))) (vr := mI (cprL l_a0 p1 p2)) 0 hZ hown (wd_130 hw) (wd_133 hw) (wd_131 hw) (wd_132 hw) e28 f27 V26 (Or.inl ⟨rfl, rfl⟩) (own_cp1 hX_1 hX_2) (own_cp2 hX_1 hX_2) (own_cp3 hX_1 hX_2) (own_cp4 hX_1 hX_2) (own_cp5 hX_1 hX_2) (own_cp6 hX_1 hX_2) (own_cp7 hX_1 hX_2) (own_cp8 hX_1 hX_2) N29 ge23 (by rw [hml]; rfl) (d29_27 hby) (by decide) (Nat.le_of_eq rfl) (by decide) (pq 30) ?_
 intro T30 h30 L30 X30 e30 N30 K30 A30
 have K31 : Keep h0 h30 [] := K25.trans K30 (allS (Or.inr sz24) (all0 (P := fun x => x ∈ [] ∨ h0.size ≤ x)))
 refine w_aload X30 hx (d29_30 hby) rfl rfl (pq 32) ?_
 exact w_done X30 hlk (v := some (.ref b22)) e30 (fun h => by rw [hret] at h; cases h) (fun fs hr => retOut X30 hx hret rfl (Or.inr (Or.inr (Or.inr (Or.inr ⟨rfl, rfl, rfl⟩)))) (d29_32 hby) hr) (by decide) (by decide) (⟨b22, k22, rfl, N30, K31, sz24, A30⟩)
theorem ef_m28_16 (m : MethodId) (a0 : Addr) (p1 : Int32) (p2 : Int32)  : entryFrame m #[(.ref a0), (.int p1), (.int p2)] 3 = mkF m 0 #[.val (.ref a0), .val (.int p1), .val (.int p2)] [] := by first | (simp [entryFrame, mkF, argsToLocals, Value.category]; done) | rfl
def Q_m28_16 (Z : State) (a0 : Addr) (p1 : Int32) (p2 : Int32) (k_a0 : ClassId) (l_a0 : List Int32) (h0 : Heap) (n0 : Nat) (v : Option Value) (h : Heap) (L : List Loc) : Prop := ∃ (r0 : Addr) (c0 : ClassId), v = some (.ref r0) ∧ Fr n0 L ∧ Keep h0 h [] ∧ h0.size ≤ r0 ∧ Arv Z h r0 c0 .byte (p2 - p1) (mI (cprL l_a0 p1 p2)) (.int (0 : Int32))
theorem rm_m28_16 (l : Launch) (Z : State) (aZ : Array Value) (hw : ∀ d ∈ tables_1, d.before aZ Z = true) (ws : List Jvm.Cond) (a0 : Addr) (p1 : Int32) (p2 : Int32) (k_a0 : ClassId) (l_a0 : List Int32) (h0 : Heap) (n0 : Nat) (Z0 : n0 ≤ h0.size) (hP_0 : p1 = (0 : Int32)) (V_a0 : Arv Z h0 a0 k_a0 .byte (12 : Int32) (mI l_a0) (.int (0 : Int32))) (hP_2 : ¬ (p2 = (12 : Int32))) (hX_3 : CPR (12 : Int32) p1 p2) (hX_4 : l_a0.length = ((12 : Int32)).toNatClampNeg) :
    MetN l Z yn_28 jdk_65_method_132_code 3 (some (.array .byte)) ws ({ frames := 2, cells := 1, slots := 12, locals := 34 } : Room) #[(.ref a0), (.int p1), (.int p2)] h0 (Q_m28_16 Z a0 p1 p2 k_a0 l_a0 h0 n0) := by
 refine MetN.of (plainFor_of_name pn_6) ?_
 intro p e s m below meth c s₁ hret hx hby hml hown hnm hlk hZ X0 e0
 have N0 := Fr.nil n0
 rw [ef_m28_16 m a0 p1 p2]
 refine w_iloadN X0 hx (d28_0 hby) rfl (pq 1) ?_
 refine w_ifN X0 hx (d28_1 hby) (teq hP_0).2 (pq 4) ?_
 refine w_iloadN X0 hx (d28_4 hby) rfl (pq 5) ?_
 refine w_aloadN X0 hx (d28_5 hby) rfl rfl (pq 6) ?_
 refine w_alen X0 hx hZ e0 V_a0 (d28_6 hby) (pq 7) ?_
 refine w_icN X0 hx (d28_7 hby) (feq hP_2).1 (pq 10) ?_
 refine w_aloadN X0 hx (d28_10 hby) rfl rfl (pq 11) ?_
 refine w_iloadN X0 hx (d28_11 hby) rfl (pq 12) ?_
 refine w_iloadN X0 hx (d28_12 hby) rfl (pq 13) ?_
 refine w_static X0 hx (y := yn_29) hown (mvT hZ (wd_120 hw)) (mvT hZ (wd_121 hw)) (mvT hZ (wd_118 hw)) (mvT hZ (wd_122 hw)) (by decide) (backOf (W := 0) (rm_m29_17 l Z aZ hw [] a0 p1 p2 k_a0 l_a0 h0 n0 Z0 V_a0 hX_3 hX_4) hZ (wd_122 hw) (wd_118 hw) (by decide) (by decide)) (by rw [hml]; rfl) [(.ref a0), (.int p1), (.int p2)] (lenOf pd_16 rfl) rfl (Nat.le_of_eq rfl) (d28_13 hby) (fun _ _ => ⟨rfl, e0, (by decide : 0 + 1 ≤ _), (by decide : 0 + 12 ≤ _)⟩) (pq 16) ?_
 rintro _ _ ⟨T20, L20, k20, n20⟩ X20 ⟨Lc20, hQ20, l20, y20, z20⟩
 dsimp only [Pt.U, Pt.locs, Pt.cells, Pt.slots] at X20 l20 y20 z20 hQ20 ⊢
 rw [l20, y20, z20] at X20
 obtain ⟨t_20, kb_20, rfl, N20q, K20, g20_0, g20_1⟩ := hQ20
 have N21 := Fr.app N0 N20q
 have K22 : Keep h0 T20.heap [] := (Keep.refl h0 []).trans K20 (all0 (P := fun x => x ∈ [] ∨ h0.size ≤ x))
 have ge23 : n0 ≤ t_20 := Nat.le_trans Z0 g20_0
 have sz24 : h0.size ≤ t_20 := Nat.le_trans (Nat.le_refl _) g20_0
 show Runs _ _ _ _ (T20.setTop (mkF m 16 _ [(.ref t_20)]))
 exact w_done X20 hlk (v := some (.ref t_20)) rfl (fun h => by rw [hret] at h; cases h) (fun fs hr => retOut X20 hx hret rfl (Or.inr (Or.inr (Or.inr (Or.inr ⟨rfl, rfl, rfl⟩)))) (d28_16 hby) hr) (by decide) (by decide) (⟨t_20, kb_20, rfl, N21, K22, sz24, g20_1⟩)
theorem ef_m32_19 (m : MethodId) (a0 : Addr) (a1 : Addr)  : entryFrame m #[(.ref a0), (.ref a1), (.int (0 : Int32))] 3 = mkF m 0 #[.val (.ref a0), .val (.ref a1), .val (.int (0 : Int32))] [] := by first | (simp [entryFrame, mkF, argsToLocals, Value.category]; done) | rfl
def Q_m32_19 (Z : State) (a0 : Addr) (a1 : Addr) (h0 : Heap) (n0 : Nat) (v : Option Value) (h : Heap) (L : List Loc) : Prop := v = none ∧ Fr n0 L ∧ Keep h0 h [a0] ∧ Exa Z h a0 kc0 ∧ Fld Z h a0 kc0 "value" "[B" (.ref a1) ∧ Fld Z h a0 kc0 "coder" "B" (.int (0 : Int32))
theorem rm_m32_19 (l : Launch) (Z : State) (aZ : Array Value) (hw : ∀ d ∈ tables_1, d.before aZ Z = true) (ws : List Jvm.Cond) (a0 : Addr) (a1 : Addr) (h0 : Heap) (n0 : Nat) (Z0 : n0 ≤ h0.size) (E_a0 : Exa Z h0 a0 kc0) (zz0 : Fld Z h0 a0 kc0 "value" "[B" .null) (zz1 : n0 ≤ a0) (zz2 : Fld Z h0 a0 kc0 "coder" "B" (.int (0 : Int32))) :
    MetN l Z yn_32 jdk_42_method_151_code 3 none ws ({ frames := 1, cells := 0, slots := 0, locals := 12 } : Room) #[(.ref a0), (.ref a1), (.int (0 : Int32))] h0 (Q_m32_19 Z a0 a1 h0 n0) := by
 refine MetN.of (plainFor_of_name pn_3) ?_
 intro p e s m below meth c s₁ hret hx hby hml hown hnm hlk hZ X0 e0
 have N0 := Fr.nil n0
 rw [ef_m32_19 m a0 a1]
 refine w_aloadN X0 hx (d32_0 hby) rfl rfl (pq 1) ?_
 refine w_initO X0 hx 0 hZ hown (wd_31 hw) (wd_32 hw) (wd_33 hw) e0 (by rw [hml]; rfl) (d32_1 hby) (by decide) (Nat.le_of_eq rfl) (by decide) (pq 4) ?_
 intro T20 X20 e20
 refine w_aloadN X20 hx (d32_4 hby) rfl rfl (pq 5) ?_
 refine w_aloadN X20 hx (d32_5 hby) rfl rfl (pq 6) ?_
 refine w_putF X20 hx "" hZ hown (Or.inl (wd_48 hw)) Via.refl e20 zz0 E_a0 (Or.inr ⟨(wd_49 hw), rfl, hnm⟩) (wd_22 hw) (ty := (.array .byte)) (by decide) rfl rfl (d32_6 hby) (pq 9) ?_
 intro T21 h21 X21 e21 W21
 have f22 : Fld Z h21 a0 kc0 "value" "[B" (.ref a1) := zz0.same W21
 have K23 : Keep h0 h21 [a0] := (Keep.refl h0 [a0]).wr W21 (Or.inl (by simp))
 have N24 := Fr.snoc X21 N0 zz1
 refine w_aloadN X21 hx (d32_9 hby) rfl rfl (pq 10) ?_
 refine w_iloadN X21 hx (d32_10 hby) rfl (pq 11) ?_
 have f25 : Exa Z h21 a0 kc0 := (E_a0.wr W21)
 have f26 : Fld Z h21 a0 kc0 "coder" "B" (.int (0 : Int32)) := (zz2.other W21 (Or.inr (slot_ne (Or.inr (wd_47 hw)) (Or.inr (wd_49 hw)) (by decide) (t := .byte) (t' := (.array .byte)) (by decide) (by decide))))
 refine w_putF X21 hx "" hZ hown (Or.inl (wd_46 hw)) Via.refl e21 f26 f25 (Or.inr ⟨(wd_47 hw), rfl, hnm⟩) (wd_22 hw) (ty := .byte) (by decide) rfl rfl (d32_11 hby) (pq 14) ?_
 intro T27 h27 X27 e27 W27
 have f28 : Fld Z h27 a0 kc0 "coder" "B" (.int (0 : Int32)) := f26.same W27
 have K29 : Keep h0 h27 [a0] := K23.wr W27 (Or.inl (by simp))
 have N30 := Fr.snoc X27 N24 zz1
 have f31 : Exa Z h27 a0 kc0 := (f25.wr W27)
 have f32 : Fld Z h27 a0 kc0 "value" "[B" (.ref a1) := (f22.other W27 (Or.inr (slot_ne (Or.inr (wd_49 hw)) (Or.inr (wd_47 hw)) (by decide) (t := (.array .byte)) (t' := .byte) (by decide) (by decide))))
 exact w_done X27 hlk (v := none) e27 (fun _ => rfl) (fun fs hr => X27.returnOut hx hret (d32_14 hby) hr) (by decide) (by decide) (⟨rfl, N30, K29, f31, f32, f28⟩)
theorem ef_m27_15 (m : MethodId) (a0 : Addr) (p1 : Int32) (p2 : Int32)  : entryFrame m #[(.ref a0), (.int p1), (.int p2)] 3 = mkF m 0 #[.val (.ref a0), .val (.int p1), .val (.int p2)] [] := by first | (simp [entryFrame, mkF, argsToLocals, Value.category]; done) | rfl
def Q_m27_15 (Z : State) (a0 : Addr) (p1 : Int32) (p2 : Int32) (k_a0 : ClassId) (l_a0 : List Int32) (h0 : Heap) (n0 : Nat) (v : Option Value) (h : Heap) (L : List Loc) : Prop := ∃ (r0 : Addr) (r1 : Addr) (c0 : ClassId), v = some (.ref r0) ∧ Fr n0 L ∧ Keep h0 h [] ∧ h0.size ≤ r0 ∧ h0.size ≤ r1 ∧ Exa Z h r0 kc0 ∧ Fld Z h r0 kc0 "coder" "B" (.int (0 : Int32)) ∧ Fld Z h r0 kc0 "value" "[B" (.ref r1) ∧ Arv Z h r1 c0 .byte ((p1 + p2) - p1) (mI (cprL l_a0 p1 (p1 + p2))) (.int (0 : Int32))
theorem rm_m27_15 (l : Launch) (Z : State) (aZ : Array Value) (hw : ∀ d ∈ tables_1, d.before aZ Z = true) (ws : List Jvm.Cond) (a0 : Addr) (p1 : Int32) (p2 : Int32) (k_a0 : ClassId) (l_a0 : List Int32) (h0 : Heap) (n0 : Nat) (Z0 : n0 ≤ h0.size) (hP_0 : ¬ (p2 = (0 : Int32))) (hP_1 : p1 = (0 : Int32)) (V_a0 : Arv Z h0 a0 k_a0 .byte (12 : Int32) (mI l_a0) (.int (0 : Int32))) (hP_3 : ¬ ((p1 + p2) = (12 : Int32))) (hX_4 : CPR (12 : Int32) p1 (p1 + p2)) (hX_5 : l_a0.length = ((12 : Int32)).toNatClampNeg) :
    MetN l Z yn_27 jdk_43_method_47_code 3 (some (.object kc0)) ws ({ frames := 3, cells := 2, slots := 16, locals := 50 } : Room) #[(.ref a0), (.int p1), (.int p2)] h0 (Q_m27_15 Z a0 p1 p2 k_a0 l_a0 h0 n0) := by
 refine MetN.of (plainFor_of_name pn_5) ?_
 intro p e s m below meth c s₁ hret hx hby hml hown hnm hlk hZ X0 e0
 have N0 := Fr.nil n0
 rw [ef_m27_15 m a0 p1 p2]
 refine w_iloadN X0 hx (d27_0 hby) rfl (pq 1) ?_
 refine w_ifY X0 hx (d27_1 hby) (feq hP_0).2 (pc' := 7) (by decide) (by decide) ?_
 refine w_new X0 hx hZ hown (wd_115 hw) (wd_22 hw) (wd_23 hw) e0 (d27_7 hby) (by decide) (by decide) (pq 10) ?_
 intro T20 h20 b20 X20 e20 E20 g20 A20 D20
 have ge21 : n0 ≤ b20 := Nat.le_trans Z0 (Nat.le_of_eq g20.symm)
 have sz22 : h0.size ≤ b20 := Nat.le_trans (Nat.le_refl _) (Nat.le_of_eq g20.symm)
 have K23 : Keep h0 h20 [] := (Keep.refl h0 []).ext E20
 have f24 : Fld Z h20 b20 kc0 "coder" "B" (.int (0 : Int32)) := D20 (Or.inr (wd_47 hw)) (ty := .byte) (by decide)
 have f25 : Fld Z h20 b20 kc0 "value" "[B" .null := D20 (Or.inr (wd_49 hw)) (ty := (.array .byte)) (by decide)
 refine w_dup X20 hx (d27_10 hby) rfl (pq 11) ?_
 refine w_aloadN X20 hx (d27_11 hby) rfl rfl (pq 12) ?_
 refine w_iloadN X20 hx (d27_12 hby) rfl (pq 13) ?_
 refine w_iloadN X20 hx (d27_13 hby) rfl (pq 14) ?_
 refine w_iloadN X20 hx (d27_14 hby) rfl (pq 15) ?_
 refine w_iadd X20 hx (d27_15 hby) (pq 16) ?_
 have f26 : Arv Z h20 a0 k_a0 .byte (12 : Int32) (mI l_a0) (.int (0 : Int32)) := (V_a0.ext E20)
 refine w_static X20 hx (y := yn_28) hown (mvT hZ (wd_116 hw)) (mvT hZ (wd_117 hw)) (mvT hZ (wd_118 hw)) (mvT hZ (wd_119 hw)) (by decide) (backOf (W := 2) (rm_m28_16 l Z aZ hw [] a0 p1 (p1 + p2) k_a0 l_a0 h20 n0 (Nat.le_trans Z0 E20.1) hP_1 f26 hP_3 hX_4 hX_5) hZ (wd_119 hw) (wd_118 hw) (by decide) (by decide)) (by rw [hml]; rfl) [(.ref a0), (.int p1), (.int (p1 + p2))] (lenOf pd_16 rfl) rfl (Nat.le_of_eq rfl) (d27_16 hby) (fun _ _ => ⟨rfl, e20, (by decide : 1 + 1 ≤ _), (by decide : 4 + 12 ≤ _)⟩) (pq 19) ?_
 rintro _ _ ⟨T27, L27, k27, n27⟩ X27 ⟨Lc27, hQ27, l27, y27, z27⟩
 dsimp only [Pt.U, Pt.locs, Pt.cells, Pt.slots] at X27 l27 y27 z27 hQ27 ⊢
 rw [l27, y27, z27] at X27
 obtain ⟨r0_27, c0_27, rfl, N27q, K27, g27_0, g27_1⟩ := hQ27
 have N28 := Fr.app N0 N27q
 have K29 : Keep h0 T27.heap [] := K23.trans K27 (all0 (P := fun x => x ∈ [] ∨ h0.size ≤ x))
 have ge30 : n0 ≤ r0_27 := Nat.le_trans (Nat.le_trans Z0 E20.1) g27_0
 have sz31 : h0.size ≤ r0_27 := Nat.le_trans E20.1 g27_0
 show Runs _ _ _ _ (T27.setTop (mkF m 19 _ [(.ref r0_27), (.ref b20), (.ref b20)]))
 refine w_iconst X27 hx (d27_19 hby) (v := (0 : Int32)) rfl (pq 20) ?_
 have f32 : Exa Z T27.heap b20 kc0 := (A20.keep K27)
 have f33 : Fld Z T27.heap b20 kc0 "value" "[B" .null := (f25.keep K27 nin0)
 have f34 : Fld Z T27.heap b20 kc0 "coder" "B" (.int (0 : Int32)) := (f24.keep K27 nin0)
 have le35 : h0.size ≤ T27.heap.size := (Nat.le_trans E20.1 K27.1)
 refine w_special X27 hx (y := yn_32) rfl hown (mvT hZ (wd_134 hw)) (mvT hZ (wd_135 hw)) (mvT hZ (wd_136 hw)) (by decide) (backOf (W := 1) (rm_m32_19 l Z aZ hw [] b20 r0_27 T27.heap n0 (Nat.le_trans Z0 le35) f32 f33 ge21 f34) hZ (wd_136 hw) (wd_23 hw) (by decide) (by decide)) (by rw [hml]; rfl) [(.ref r0_27), (.int (0 : Int32))] (lenOf pd_17 rfl) rfl (Nat.le_of_eq rfl) (d27_20 hby) (fun _ _ => ⟨rfl, rfl, (by decide : 2 + 0 ≤ _), (by decide : 16 + 0 ≤ _)⟩) (pq 23) ?_
 rintro _ _ ⟨T36, L36, k36, n36⟩ X36 ⟨Lc36, hQ36, l36, y36, z36⟩
 dsimp only [Pt.U, Pt.locs, Pt.cells, Pt.slots] at X36 l36 y36 z36 hQ36 ⊢
 rw [l36, y36, z36] at X36
 obtain ⟨rfl, N36q, K36, g36_0, g36_1, g36_2⟩ := hQ36
 have N37 := Fr.app N28 N36q
 have K38 : Keep h0 T36.heap [] := K29.trans K36 (allS (Or.inr sz22) (all0 (P := fun x => x ∈ [] ∨ h0.size ≤ x)))
 show Runs _ _ _ _ (T36.setTop (mkF m 23 _ [(.ref b20)]))
 have ne39 : b20 ≠ r0_27 := (Nat.ne_of_lt (Nat.lt_of_lt_of_le A20.lt (Nat.le_trans (Nat.le_refl _) g27_0)))
 have f40 : Arv Z T36.heap r0_27 c0_27 .byte ((p1 + p2) - p1) (mI (cprL l_a0 p1 (p1 + p2))) (.int (0 : Int32)) := (g27_1.keep K36 (ninS (Ne.symm ne39) nin0))
 exact w_done X36 hlk (v := some (.ref b20)) rfl (fun h => by rw [hret] at h; cases h) (fun fs hr => retOut X36 hx hret rfl (Or.inr (Or.inr (Or.inr (Or.inr ⟨rfl, rfl, rfl⟩)))) (d27_23 hby) hr) (by decide) (by decide) (⟨b20, r0_27, c0_27, rfl, N37, K38, sz22, sz31, g36_0, g36_2, g36_1, f40⟩)
theorem ef_m24_14 (m : MethodId) (a0 : Addr) (p1 : Int32) (p2 : Int32)  : entryFrame m #[(.ref a0), (.int p1), (.int p2)] 5 = mkF m 0 #[.val (.ref a0), .val (.int p1), .val (.int p2), .unset, .unset] [] := by first | (simp [entryFrame, mkF, argsToLocals, Value.category]; done) | rfl
def Q_m24_14 (Z : State) (a0 : Addr) (p1 : Int32) (p2 : Int32) (jj0 : Addr) (jj1 : ClassId) (jj2 : List Int32) (jj3 : Int32) (jj4 : Value) (h0 : Heap) (n0 : Nat) (v : Option Value) (h : Heap) (L : List Loc) : Prop := ∃ (r0 : Addr) (r1 : Addr) (c0 : ClassId), v = some (.ref r0) ∧ Fr n0 L ∧ Keep h0 h [] ∧ h0.size ≤ r0 ∧ h0.size ≤ r1 ∧ Exa Z h r0 kc0 ∧ Fld Z h r0 kc0 "coder" "B" (.int (0 : Int32)) ∧ Fld Z h r0 kc0 "value" "[B" (.ref r1) ∧ Arv Z h r1 c0 .byte ((p1 + (p2 - p1)) - p1) (mI (cprL jj2 p1 (p1 + (p2 - p1)))) (.int (0 : Int32))
theorem rm_m24_14 (l : Launch) (Z : State) (aZ : Array Value) (hw : ∀ d ∈ tables_1, d.before aZ Z = true) (ws : List Jvm.Cond) (a0 : Addr) (p1 : Int32) (p2 : Int32) (jj0 : Addr) (jj1 : ClassId) (jj2 : List Int32) (jj3 : Int32) (jj4 : Value) (h0 : Heap) (n0 : Nat) (Z0 : n0 ≤ h0.size) (E_a0 : Exa Z h0 a0 kc0) (zz5 : Fld Z h0 a0 kc0 "value" "[B" (.ref jj0)) (zz6 : Arv Z h0 jj0 jj1 .byte (12 : Int32) (mI jj2) (.int (0 : Int32))) (zz7 : Fld Z h0 a0 kc0 "coder" "B" (.int (0 : Int32))) (zz8 : Sta Z Z.heap kc0 "COMPACT_STRINGS" "Z" (.int jj3)) (O0 : Old Z n0 h0) (hP_6 : ¬ (jj3 = (0 : Int32))) (zz9 : jj4.isRef = true) (zz10 : Sta Z Z.heap kc3 "SIOOBE_FORMATTER" "Ljava/util/function/BiFunction;" jj4) (hP_9 : ¬ (p1 < (0 : Int32))) (zz11 : ¬ (p2 < p1)) (zz12 : ¬ ((12 : Int32) < p2)) (zz13 : p1 = (0 : Int32)) (zz14 : ¬ (p2 = (12 : Int32))) (zz15 : ¬ ((p2 - p1) = (0 : Int32))) (zz16 : ¬ ((p1 + (p2 - p1)) = (12 : Int32))) (zz17 : CPR (12 : Int32) p1 (p1 + (p2 - p1))) (zz18 : jj2.length = ((12 : Int32)).toNatClampNeg) :
    MetN l Z yn_24 jdk_42_method_92_code 5 (some (.object kc0)) ws ({ frames := 4, cells := 2, slots := 16, locals := 64 } : Room) #[(.ref a0), (.int p1), (.int p2)] h0 (Q_m24_14 Z a0 p1 p2 jj0 jj1 jj2 jj3 jj4 h0 n0) := by
 refine MetN.of (plainFor_of_name pn_3) ?_
 intro p e s m below meth c s₁ hret hx hby hml hown hnm hlk hZ X0 e0
 have N0 := Fr.nil n0
 rw [ef_m24_14 m a0 p1 p2]
 refine w_aloadN X0 hx (d24_0 hby) rfl rfl (pq 1) ?_
 obtain ⟨cq20, kq20, q20a, q20b, q20c⟩ := isOf hZ e0 E_a0
 refine w_virtual X0 hx (y := yn_16) (z := yn_16) hown (mvT hZ (wd_105 hw)) (mvT hZ (wd_66 hw)) (notFace_of_selects (args := #[]) (mvT hZ (wd_68 hw))) (mvT hZ (wd_68 hw)) (mvT hZ (wd_67 hw)) (by decide) (backOf (W := 0) (rm_m16_4 l Z aZ hw [] a0 jj0 jj1 jj2 jj3 h0 n0 Z0 zz5 zz6 E_a0 hP_6 zz7 zz8 O0) hZ (wd_69 hw) (wd_23 hw) (by decide) (by decide)) q20a q20c (by rw [hml]; rfl) [] (lenOf pd_8 rfl) rfl (Nat.le_of_eq rfl) (d24_1 hby) (fun _ _ => ⟨rfl, e0, (by decide : 0 + 0 ≤ _), (by decide : 0 + 0 ≤ _)⟩) (pq 4) ?_
 rintro _ _ ⟨T20, L20, k20, n20⟩ X20 ⟨Lc20, hQ20, l20, y20, z20⟩
 dsimp only [Pt.U, Pt.locs, Pt.cells, Pt.slots] at X20 l20 y20 z20 hQ20 ⊢
 rw [l20, y20, z20] at X20
 obtain ⟨rfl, N20q, e20⟩ := hQ20
 have N21 := Fr.app N0 N20q
 show Runs _ _ _ _ (T20.setTop (mkF m 4 _ [(.int (12 : Int32))]))
 refine w_istoreN X20 hx (d24_4 hby) (L' := #[.val (.ref a0), .val (.int p1), .val (.int p2), .val (.int (12 : Int32)), .unset]) rfl (pq 5) ?_
 refine w_iloadN X20 hx (d24_5 hby) rfl (pq 6) ?_
 refine w_iloadN X20 hx (d24_6 hby) rfl (pq 7) ?_
 refine w_iloadN X20 hx (d24_7 hby) rfl (pq 8) ?_
 refine w_static X20 hx (y := yn_25) hown (mvT hZ (wd_106 hw)) (mvT hZ (wd_107 hw)) (mvT hZ (wd_23 hw)) (mvT hZ (wd_108 hw)) (by decide) (backOf (W := 0) (rm_m25_12 l Z aZ hw [] p1 p2 jj4 h0 n0 Z0 zz9 zz10 O0 hP_9 zz11 zz12) hZ (wd_108 hw) (wd_23 hw) (by decide) (by decide)) (by rw [hml]; rfl) [(.int p1), (.int p2), (.int (12 : Int32))] (lenOf pd_14 rfl) rfl (Nat.le_of_eq rfl) (d24_8 hby) (fun _ _ => ⟨rfl, e20, (by decide : 0 + 0 ≤ _), (by decide : 0 + 0 ≤ _)⟩) (pq 11) ?_
 rintro _ _ ⟨T22, L22, k22, n22⟩ X22 ⟨Lc22, hQ22, l22, y22, z22⟩
 dsimp only [Pt.U, Pt.locs, Pt.cells, Pt.slots] at X22 l22 y22 z22 hQ22 ⊢
 rw [l22, y22, z22] at X22
 obtain ⟨rfl, N22q, e22⟩ := hQ22
 have N23 := Fr.app N21 N22q
 show Runs _ _ _ _ (T22.setTop (mkF m 11 _ []))
 refine w_iloadN X22 hx (d24_11 hby) rfl (pq 12) ?_
 refine w_ifN X22 hx (d24_12 hby) (teq zz13).2 (pq 15) ?_
 refine w_iloadN X22 hx (d24_15 hby) rfl (pq 16) ?_
 refine w_iloadN X22 hx (d24_16 hby) rfl (pq 17) ?_
 refine w_icY X22 hx (d24_17 hby) (feq zz14).2 (pc' := 22) (by decide) (by decide) ?_
 refine w_iloadN X22 hx (d24_22 hby) rfl (pq 23) ?_
 refine w_iloadN X22 hx (d24_23 hby) rfl (pq 24) ?_
 refine w_isub X22 hx (d24_24 hby) (pq 25) ?_
 refine w_istore X22 hx (d24_25 hby) (L' := #[.val (.ref a0), .val (.int p1), .val (.int p2), .val (.int (12 : Int32)), .val (.int (p2 - p1))]) rfl (pq 27) ?_
 refine w_aloadN X22 hx (d24_27 hby) rfl rfl (pq 28) ?_
 obtain ⟨cq24, kq24, q24a, q24b, q24c⟩ := isOf hZ e22 E_a0
 refine w_virtual X22 hx (y := yn_19) (z := yn_19) hown (mvT hZ (wd_80 hw)) (mvT hZ (wd_81 hw)) (notFace_of_selects (args := #[]) (mvT hZ (wd_83 hw))) (mvT hZ (wd_83 hw)) (mvT hZ (wd_82 hw)) (by decide) (backOf (W := 0) (rm_m19_7 l Z aZ hw [] a0 jj3 h0 n0 Z0 zz8 O0 hP_6 zz7) hZ (wd_84 hw) (wd_23 hw) (by decide) (by decide)) q24a q24c (by rw [hml]; rfl) [] (lenOf pd_9 rfl) rfl (Nat.le_of_eq rfl) (d24_28 hby) (fun _ _ => ⟨rfl, e22, (by decide : 0 + 0 ≤ _), (by decide : 0 + 0 ≤ _)⟩) (pq 31) ?_
 rintro _ _ ⟨T24, L24, k24, n24⟩ X24 ⟨Lc24, hQ24, l24, y24, z24⟩
 dsimp only [Pt.U, Pt.locs, Pt.cells, Pt.slots] at X24 l24 y24 z24 hQ24 ⊢
 rw [l24, y24, z24] at X24
 obtain ⟨rfl, N24q, e24⟩ := hQ24
 have N25 := Fr.app N23 N24q
 show Runs _ _ _ _ (T24.setTop (mkF m 31 _ [(.int (1 : Int32))]))
 refine w_ifN X24 hx (d24_31 hby) (feq (by decide : ¬ ((1 : Int32) = (0 : Int32)))).1 (pq 34) ?_
 refine w_aloadN X24 hx (d24_34 hby) rfl rfl (pq 35) ?_
 refine w_getF X24 hx "" hZ hown (Or.inl (wd_48 hw)) Via.refl e24 zz5 (d24_35 hby) (pq 38) ?_
 intro T26 X26 e26
 refine w_iloadN X26 hx (d24_38 hby) rfl (pq 39) ?_
 refine w_iload X26 hx (d24_39 hby) rfl (pq 41) ?_
 refine w_static X26 hx (y := yn_27) hown (mvT hZ (wd_112 hw)) (mvT hZ (wd_113 hw)) (mvT hZ (wd_87 hw)) (mvT hZ (wd_114 hw)) (by decide) (backOf (W := 0) (rm_m27_15 l Z aZ hw [] jj0 p1 (p2 - p1) jj1 jj2 h0 n0 Z0 zz15 zz13 zz6 zz16 zz17 zz18) hZ (wd_114 hw) (wd_87 hw) (by decide) (by decide)) (by rw [hml]; rfl) [(.ref jj0), (.int p1), (.int (p2 - p1))] (lenOf pd_18 rfl) rfl (Nat.le_of_eq rfl) (d24_41 hby) (fun _ _ => ⟨rfl, e26, (by decide : 0 + 2 ≤ _), (by decide : 0 + 16 ≤ _)⟩) (pq 44) ?_
 rintro _ _ ⟨T27, L27, k27, n27⟩ X27 ⟨Lc27, hQ27, l27, y27, z27⟩
 dsimp only [Pt.U, Pt.locs, Pt.cells, Pt.slots] at X27 l27 y27 z27 hQ27 ⊢
 rw [l27, y27, z27] at X27
 obtain ⟨r0_27, r1_27, c0_27, rfl, N27q, K27, g27_0, g27_1, g27_2, g27_3, g27_4, g27_5⟩ := hQ27
 have N28 := Fr.app N25 N27q
 have K29 : Keep h0 T27.heap [] := (Keep.refl h0 []).trans K27 (all0 (P := fun x => x ∈ [] ∨ h0.size ≤ x))
 have ge30 : n0 ≤ r0_27 := Nat.le_trans Z0 g27_0
 have sz31 : h0.size ≤ r0_27 := Nat.le_trans (Nat.le_refl _) g27_0
 have ge32 : n0 ≤ r1_27 := Nat.le_trans Z0 g27_1
 have sz33 : h0.size ≤ r1_27 := Nat.le_trans (Nat.le_refl _) g27_1
 show Runs _ _ _ _ (T27.setTop (mkF m 44 _ [(.ref r0_27)]))
 refine w_goto X27 hx (d24_44 hby) (pc' := 57) (by decide) (by decide) ?_
 exact w_done X27 hlk (v := some (.ref r0_27)) rfl (fun h => by rw [hret] at h; cases h) (fun fs hr => retOut X27 hx hret rfl (Or.inr (Or.inr (Or.inr (Or.inr ⟨rfl, rfl, rfl⟩)))) (d24_57 hby) hr) (by decide) (by decide) (⟨r0_27, r1_27, c0_27, rfl, N28, K29, sz31, sz33, g27_2, g27_3, g27_4, g27_5⟩)
theorem ef_m28_22 (m : MethodId) (a0 : Addr) (p1 : Int32) (p2 : Int32)  : entryFrame m #[(.ref a0), (.int p1), (.int p2)] 3 = mkF m 0 #[.val (.ref a0), .val (.int p1), .val (.int p2)] [] := by first | (simp [entryFrame, mkF, argsToLocals, Value.category]; done) | rfl
def Q_m28_22 (Z : State) (a0 : Addr) (p1 : Int32) (p2 : Int32) (k_a0 : ClassId) (l_a0 : List Int32) (h0 : Heap) (n0 : Nat) (v : Option Value) (h : Heap) (L : List Loc) : Prop := ∃ (r0 : Addr) (c0 : ClassId), v = some (.ref r0) ∧ Fr n0 L ∧ Keep h0 h [] ∧ h0.size ≤ r0 ∧ Arv Z h r0 c0 .byte (p2 - p1) (mI (cprL l_a0 p1 p2)) (.int (0 : Int32))
theorem rm_m28_22 (l : Launch) (Z : State) (aZ : Array Value) (hw : ∀ d ∈ tables_1, d.before aZ Z = true) (ws : List Jvm.Cond) (a0 : Addr) (p1 : Int32) (p2 : Int32) (k_a0 : ClassId) (l_a0 : List Int32) (h0 : Heap) (n0 : Nat) (Z0 : n0 ≤ h0.size) (hP_0 : ¬ (p1 = (0 : Int32))) (V_a0 : Arv Z h0 a0 k_a0 .byte (12 : Int32) (mI l_a0) (.int (0 : Int32))) (hX_2 : CPR (12 : Int32) p1 p2) (hX_3 : l_a0.length = ((12 : Int32)).toNatClampNeg) :
    MetN l Z yn_28 jdk_65_method_132_code 3 (some (.array .byte)) ws ({ frames := 2, cells := 1, slots := 12, locals := 34 } : Room) #[(.ref a0), (.int p1), (.int p2)] h0 (Q_m28_22 Z a0 p1 p2 k_a0 l_a0 h0 n0) := by
 refine MetN.of (plainFor_of_name pn_6) ?_
 intro p e s m below meth c s₁ hret hx hby hml hown hnm hlk hZ X0 e0
 have N0 := Fr.nil n0
 rw [ef_m28_22 m a0 p1 p2]
 refine w_iloadN X0 hx (d28_0 hby) rfl (pq 1) ?_
 refine w_ifY X0 hx (d28_1 hby) (feq hP_0).2 (pc' := 10) (by decide) (by decide) ?_
 refine w_aloadN X0 hx (d28_10 hby) rfl rfl (pq 11) ?_
 refine w_iloadN X0 hx (d28_11 hby) rfl (pq 12) ?_
 refine w_iloadN X0 hx (d28_12 hby) rfl (pq 13) ?_
 refine w_static X0 hx (y := yn_29) hown (mvT hZ (wd_120 hw)) (mvT hZ (wd_121 hw)) (mvT hZ (wd_118 hw)) (mvT hZ (wd_122 hw)) (by decide) (backOf (W := 0) (rm_m29_17 l Z aZ hw [] a0 p1 p2 k_a0 l_a0 h0 n0 Z0 V_a0 hX_2 hX_3) hZ (wd_122 hw) (wd_118 hw) (by decide) (by decide)) (by rw [hml]; rfl) [(.ref a0), (.int p1), (.int p2)] (lenOf pd_16 rfl) rfl (Nat.le_of_eq rfl) (d28_13 hby) (fun _ _ => ⟨rfl, e0, (by decide : 0 + 1 ≤ _), (by decide : 0 + 12 ≤ _)⟩) (pq 16) ?_
 rintro _ _ ⟨T20, L20, k20, n20⟩ X20 ⟨Lc20, hQ20, l20, y20, z20⟩
 dsimp only [Pt.U, Pt.locs, Pt.cells, Pt.slots] at X20 l20 y20 z20 hQ20 ⊢
 rw [l20, y20, z20] at X20
 obtain ⟨t_20, kb_20, rfl, N20q, K20, g20_0, g20_1⟩ := hQ20
 have N21 := Fr.app N0 N20q
 have K22 : Keep h0 T20.heap [] := (Keep.refl h0 []).trans K20 (all0 (P := fun x => x ∈ [] ∨ h0.size ≤ x))
 have ge23 : n0 ≤ t_20 := Nat.le_trans Z0 g20_0
 have sz24 : h0.size ≤ t_20 := Nat.le_trans (Nat.le_refl _) g20_0
 show Runs _ _ _ _ (T20.setTop (mkF m 16 _ [(.ref t_20)]))
 exact w_done X20 hlk (v := some (.ref t_20)) rfl (fun h => by rw [hret] at h; cases h) (fun fs hr => retOut X20 hx hret rfl (Or.inr (Or.inr (Or.inr (Or.inr ⟨rfl, rfl, rfl⟩)))) (d28_16 hby) hr) (by decide) (by decide) (⟨t_20, kb_20, rfl, N21, K22, sz24, g20_1⟩)
theorem ef_m27_21 (m : MethodId) (a0 : Addr) (p1 : Int32) (p2 : Int32)  : entryFrame m #[(.ref a0), (.int p1), (.int p2)] 3 = mkF m 0 #[.val (.ref a0), .val (.int p1), .val (.int p2)] [] := by first | (simp [entryFrame, mkF, argsToLocals, Value.category]; done) | rfl
def Q_m27_21 (Z : State) (a0 : Addr) (p1 : Int32) (p2 : Int32) (k_a0 : ClassId) (l_a0 : List Int32) (h0 : Heap) (n0 : Nat) (v : Option Value) (h : Heap) (L : List Loc) : Prop := ∃ (r0 : Addr) (r1 : Addr) (c0 : ClassId), v = some (.ref r0) ∧ Fr n0 L ∧ Keep h0 h [] ∧ h0.size ≤ r0 ∧ h0.size ≤ r1 ∧ Exa Z h r0 kc0 ∧ Fld Z h r0 kc0 "coder" "B" (.int (0 : Int32)) ∧ Fld Z h r0 kc0 "value" "[B" (.ref r1) ∧ Arv Z h r1 c0 .byte ((p1 + p2) - p1) (mI (cprL l_a0 p1 (p1 + p2))) (.int (0 : Int32))
theorem rm_m27_21 (l : Launch) (Z : State) (aZ : Array Value) (hw : ∀ d ∈ tables_1, d.before aZ Z = true) (ws : List Jvm.Cond) (a0 : Addr) (p1 : Int32) (p2 : Int32) (k_a0 : ClassId) (l_a0 : List Int32) (h0 : Heap) (n0 : Nat) (Z0 : n0 ≤ h0.size) (hP_0 : ¬ (p2 = (0 : Int32))) (hP_1 : ¬ (p1 = (0 : Int32))) (V_a0 : Arv Z h0 a0 k_a0 .byte (12 : Int32) (mI l_a0) (.int (0 : Int32))) (hX_3 : CPR (12 : Int32) p1 (p1 + p2)) (hX_4 : l_a0.length = ((12 : Int32)).toNatClampNeg) :
    MetN l Z yn_27 jdk_43_method_47_code 3 (some (.object kc0)) ws ({ frames := 3, cells := 2, slots := 16, locals := 50 } : Room) #[(.ref a0), (.int p1), (.int p2)] h0 (Q_m27_21 Z a0 p1 p2 k_a0 l_a0 h0 n0) := by
 refine MetN.of (plainFor_of_name pn_5) ?_
 intro p e s m below meth c s₁ hret hx hby hml hown hnm hlk hZ X0 e0
 have N0 := Fr.nil n0
 rw [ef_m27_21 m a0 p1 p2]
 refine w_iloadN X0 hx (d27_0 hby) rfl (pq 1) ?_
 refine w_ifY X0 hx (d27_1 hby) (feq hP_0).2 (pc' := 7) (by decide) (by decide) ?_
 refine w_new X0 hx hZ hown (wd_115 hw) (wd_22 hw) (wd_23 hw) e0 (d27_7 hby) (by decide) (by decide) (pq 10) ?_
 intro T20 h20 b20 X20 e20 E20 g20 A20 D20
 have ge21 : n0 ≤ b20 := Nat.le_trans Z0 (Nat.le_of_eq g20.symm)
 have sz22 : h0.size ≤ b20 := Nat.le_trans (Nat.le_refl _) (Nat.le_of_eq g20.symm)
 have K23 : Keep h0 h20 [] := (Keep.refl h0 []).ext E20
 have f24 : Fld Z h20 b20 kc0 "coder" "B" (.int (0 : Int32)) := D20 (Or.inr (wd_47 hw)) (ty := .byte) (by decide)
 have f25 : Fld Z h20 b20 kc0 "value" "[B" .null := D20 (Or.inr (wd_49 hw)) (ty := (.array .byte)) (by decide)
 refine w_dup X20 hx (d27_10 hby) rfl (pq 11) ?_
 refine w_aloadN X20 hx (d27_11 hby) rfl rfl (pq 12) ?_
 refine w_iloadN X20 hx (d27_12 hby) rfl (pq 13) ?_
 refine w_iloadN X20 hx (d27_13 hby) rfl (pq 14) ?_
 refine w_iloadN X20 hx (d27_14 hby) rfl (pq 15) ?_
 refine w_iadd X20 hx (d27_15 hby) (pq 16) ?_
 have f27 : Arv Z h20 a0 k_a0 .byte (12 : Int32) (mI l_a0) (.int (0 : Int32)) := (V_a0.ext E20)
 refine w_static X20 hx (y := yn_28) hown (mvT hZ (wd_116 hw)) (mvT hZ (wd_117 hw)) (mvT hZ (wd_118 hw)) (mvT hZ (wd_119 hw)) (by decide) (backOf (W := 2) (rm_m28_22 l Z aZ hw [] a0 p1 (p1 + p2) k_a0 l_a0 h20 n0 (Nat.le_trans Z0 E20.1) hP_1 f27 hX_3 hX_4) hZ (wd_119 hw) (wd_118 hw) (by decide) (by decide)) (by rw [hml]; rfl) [(.ref a0), (.int p1), (.int (p1 + p2))] (lenOf pd_16 rfl) rfl (Nat.le_of_eq rfl) (d27_16 hby) (fun _ _ => ⟨rfl, e20, (by decide : 1 + 1 ≤ _), (by decide : 4 + 12 ≤ _)⟩) (pq 19) ?_
 rintro _ _ ⟨T28, L28, k28, n28⟩ X28 ⟨Lc28, hQ28, l28, y28, z28⟩
 dsimp only [Pt.U, Pt.locs, Pt.cells, Pt.slots] at X28 l28 y28 z28 hQ28 ⊢
 rw [l28, y28, z28] at X28
 obtain ⟨r0_28, c0_28, rfl, N28q, K28, g28_0, g28_1⟩ := hQ28
 have N29 := Fr.app N0 N28q
 have K30 : Keep h0 T28.heap [] := K23.trans K28 (all0 (P := fun x => x ∈ [] ∨ h0.size ≤ x))
 have ge31 : n0 ≤ r0_28 := Nat.le_trans (Nat.le_trans Z0 E20.1) g28_0
 have sz32 : h0.size ≤ r0_28 := Nat.le_trans E20.1 g28_0
 show Runs _ _ _ _ (T28.setTop (mkF m 19 _ [(.ref r0_28), (.ref b20), (.ref b20)]))
 refine w_iconst X28 hx (d27_19 hby) (v := (0 : Int32)) rfl (pq 20) ?_
 have f33 : Exa Z T28.heap b20 kc0 := (A20.keep K28)
 have f34 : Fld Z T28.heap b20 kc0 "value" "[B" .null := (f25.keep K28 nin0)
 have f35 : Fld Z T28.heap b20 kc0 "coder" "B" (.int (0 : Int32)) := (f24.keep K28 nin0)
 have le36 : h0.size ≤ T28.heap.size := (Nat.le_trans E20.1 K28.1)
 refine w_special X28 hx (y := yn_32) rfl hown (mvT hZ (wd_134 hw)) (mvT hZ (wd_135 hw)) (mvT hZ (wd_136 hw)) (by decide) (backOf (W := 1) (rm_m32_19 l Z aZ hw [] b20 r0_28 T28.heap n0 (Nat.le_trans Z0 le36) f33 f34 ge21 f35) hZ (wd_136 hw) (wd_23 hw) (by decide) (by decide)) (by rw [hml]; rfl) [(.ref r0_28), (.int (0 : Int32))] (lenOf pd_17 rfl) rfl (Nat.le_of_eq rfl) (d27_20 hby) (fun _ _ => ⟨rfl, rfl, (by decide : 2 + 0 ≤ _), (by decide : 16 + 0 ≤ _)⟩) (pq 23) ?_
 rintro _ _ ⟨T37, L37, k37, n37⟩ X37 ⟨Lc37, hQ37, l37, y37, z37⟩
 dsimp only [Pt.U, Pt.locs, Pt.cells, Pt.slots] at X37 l37 y37 z37 hQ37 ⊢
 rw [l37, y37, z37] at X37
 obtain ⟨rfl, N37q, K37, g37_0, g37_1, g37_2⟩ := hQ37
 have N38 := Fr.app N29 N37q
 have K39 : Keep h0 T37.heap [] := K30.trans K37 (allS (Or.inr sz22) (all0 (P := fun x => x ∈ [] ∨ h0.size ≤ x)))
 show Runs _ _ _ _ (T37.setTop (mkF m 23 _ [(.ref b20)]))
 have ne40 : b20 ≠ r0_28 := (Nat.ne_of_lt (Nat.lt_of_lt_of_le A20.lt (Nat.le_trans (Nat.le_refl _) g28_0)))
 have f41 : Arv Z T37.heap r0_28 c0_28 .byte ((p1 + p2) - p1) (mI (cprL l_a0 p1 (p1 + p2))) (.int (0 : Int32)) := (g28_1.keep K37 (ninS (Ne.symm ne40) nin0))
 exact w_done X37 hlk (v := some (.ref b20)) rfl (fun h => by rw [hret] at h; cases h) (fun fs hr => retOut X37 hx hret rfl (Or.inr (Or.inr (Or.inr (Or.inr ⟨rfl, rfl, rfl⟩)))) (d27_23 hby) hr) (by decide) (by decide) (⟨b20, r0_28, c0_28, rfl, N38, K39, sz22, sz32, g37_0, g37_2, g37_1, f41⟩)
theorem ef_m24_20 (m : MethodId) (a0 : Addr) (p1 : Int32) (p2 : Int32)  : entryFrame m #[(.ref a0), (.int p1), (.int p2)] 5 = mkF m 0 #[.val (.ref a0), .val (.int p1), .val (.int p2), .unset, .unset] [] := by first | (simp [entryFrame, mkF, argsToLocals, Value.category]; done) | rfl
def Q_m24_20 (Z : State) (a0 : Addr) (p1 : Int32) (p2 : Int32) (jj0 : Addr) (jj1 : ClassId) (jj2 : List Int32) (jj3 : Int32) (jj4 : Value) (h0 : Heap) (n0 : Nat) (v : Option Value) (h : Heap) (L : List Loc) : Prop := ∃ (r0 : Addr) (r1 : Addr) (c0 : ClassId), v = some (.ref r0) ∧ Fr n0 L ∧ Keep h0 h [] ∧ h0.size ≤ r0 ∧ h0.size ≤ r1 ∧ Exa Z h r0 kc0 ∧ Fld Z h r0 kc0 "coder" "B" (.int (0 : Int32)) ∧ Fld Z h r0 kc0 "value" "[B" (.ref r1) ∧ Arv Z h r1 c0 .byte ((p1 + (p2 - p1)) - p1) (mI (cprL jj2 p1 (p1 + (p2 - p1)))) (.int (0 : Int32))
theorem rm_m24_20 (l : Launch) (Z : State) (aZ : Array Value) (hw : ∀ d ∈ tables_1, d.before aZ Z = true) (ws : List Jvm.Cond) (a0 : Addr) (p1 : Int32) (p2 : Int32) (jj0 : Addr) (jj1 : ClassId) (jj2 : List Int32) (jj3 : Int32) (jj4 : Value) (h0 : Heap) (n0 : Nat) (Z0 : n0 ≤ h0.size) (E_a0 : Exa Z h0 a0 kc0) (zz5 : Fld Z h0 a0 kc0 "value" "[B" (.ref jj0)) (zz6 : Arv Z h0 jj0 jj1 .byte (12 : Int32) (mI jj2) (.int (0 : Int32))) (zz7 : Fld Z h0 a0 kc0 "coder" "B" (.int (0 : Int32))) (zz8 : Sta Z Z.heap kc0 "COMPACT_STRINGS" "Z" (.int jj3)) (O0 : Old Z n0 h0) (hP_6 : ¬ (jj3 = (0 : Int32))) (zz9 : jj4.isRef = true) (zz10 : Sta Z Z.heap kc3 "SIOOBE_FORMATTER" "Ljava/util/function/BiFunction;" jj4) (hP_9 : ¬ (p1 < (0 : Int32))) (zz11 : ¬ (p2 < p1)) (zz12 : ¬ ((12 : Int32) < p2)) (zz13 : ¬ (p1 = (0 : Int32))) (zz14 : ¬ ((p2 - p1) = (0 : Int32))) (zz15 : CPR (12 : Int32) p1 (p1 + (p2 - p1))) (zz16 : jj2.length = ((12 : Int32)).toNatClampNeg) :
    MetN l Z yn_24 jdk_42_method_92_code 5 (some (.object kc0)) ws ({ frames := 4, cells := 2, slots := 16, locals := 64 } : Room) #[(.ref a0), (.int p1), (.int p2)] h0 (Q_m24_20 Z a0 p1 p2 jj0 jj1 jj2 jj3 jj4 h0 n0) := by
 refine MetN.of (plainFor_of_name pn_3) ?_
 intro p e s m below meth c s₁ hret hx hby hml hown hnm hlk hZ X0 e0
 have N0 := Fr.nil n0
 rw [ef_m24_20 m a0 p1 p2]
 refine w_aloadN X0 hx (d24_0 hby) rfl rfl (pq 1) ?_
 obtain ⟨cq20, kq20, q20a, q20b, q20c⟩ := isOf hZ e0 E_a0
 refine w_virtual X0 hx (y := yn_16) (z := yn_16) hown (mvT hZ (wd_105 hw)) (mvT hZ (wd_66 hw)) (notFace_of_selects (args := #[]) (mvT hZ (wd_68 hw))) (mvT hZ (wd_68 hw)) (mvT hZ (wd_67 hw)) (by decide) (backOf (W := 0) (rm_m16_4 l Z aZ hw [] a0 jj0 jj1 jj2 jj3 h0 n0 Z0 zz5 zz6 E_a0 hP_6 zz7 zz8 O0) hZ (wd_69 hw) (wd_23 hw) (by decide) (by decide)) q20a q20c (by rw [hml]; rfl) [] (lenOf pd_8 rfl) rfl (Nat.le_of_eq rfl) (d24_1 hby) (fun _ _ => ⟨rfl, e0, (by decide : 0 + 0 ≤ _), (by decide : 0 + 0 ≤ _)⟩) (pq 4) ?_
 rintro _ _ ⟨T20, L20, k20, n20⟩ X20 ⟨Lc20, hQ20, l20, y20, z20⟩
 dsimp only [Pt.U, Pt.locs, Pt.cells, Pt.slots] at X20 l20 y20 z20 hQ20 ⊢
 rw [l20, y20, z20] at X20
 obtain ⟨rfl, N20q, e20⟩ := hQ20
 have N21 := Fr.app N0 N20q
 show Runs _ _ _ _ (T20.setTop (mkF m 4 _ [(.int (12 : Int32))]))
 refine w_istoreN X20 hx (d24_4 hby) (L' := #[.val (.ref a0), .val (.int p1), .val (.int p2), .val (.int (12 : Int32)), .unset]) rfl (pq 5) ?_
 refine w_iloadN X20 hx (d24_5 hby) rfl (pq 6) ?_
 refine w_iloadN X20 hx (d24_6 hby) rfl (pq 7) ?_
 refine w_iloadN X20 hx (d24_7 hby) rfl (pq 8) ?_
 refine w_static X20 hx (y := yn_25) hown (mvT hZ (wd_106 hw)) (mvT hZ (wd_107 hw)) (mvT hZ (wd_23 hw)) (mvT hZ (wd_108 hw)) (by decide) (backOf (W := 0) (rm_m25_12 l Z aZ hw [] p1 p2 jj4 h0 n0 Z0 zz9 zz10 O0 hP_9 zz11 zz12) hZ (wd_108 hw) (wd_23 hw) (by decide) (by decide)) (by rw [hml]; rfl) [(.int p1), (.int p2), (.int (12 : Int32))] (lenOf pd_14 rfl) rfl (Nat.le_of_eq rfl) (d24_8 hby) (fun _ _ => ⟨rfl, e20, (by decide : 0 + 0 ≤ _), (by decide : 0 + 0 ≤ _)⟩) (pq 11) ?_
 rintro _ _ ⟨T22, L22, k22, n22⟩ X22 ⟨Lc22, hQ22, l22, y22, z22⟩
 dsimp only [Pt.U, Pt.locs, Pt.cells, Pt.slots] at X22 l22 y22 z22 hQ22 ⊢
 rw [l22, y22, z22] at X22
 obtain ⟨rfl, N22q, e22⟩ := hQ22
 have N23 := Fr.app N21 N22q
 show Runs _ _ _ _ (T22.setTop (mkF m 11 _ []))
 refine w_iloadN X22 hx (d24_11 hby) rfl (pq 12) ?_
 refine w_ifY X22 hx (d24_12 hby) (feq zz13).2 (pc' := 22) (by decide) (by decide) ?_
 refine w_iloadN X22 hx (d24_22 hby) rfl (pq 23) ?_
 refine w_iloadN X22 hx (d24_23 hby) rfl (pq 24) ?_
 refine w_isub X22 hx (d24_24 hby) (pq 25) ?_
 refine w_istore X22 hx (d24_25 hby) (L' := #[.val (.ref a0), .val (.int p1), .val (.int p2), .val (.int (12 : Int32)), .val (.int (p2 - p1))]) rfl (pq 27) ?_
 refine w_aloadN X22 hx (d24_27 hby) rfl rfl (pq 28) ?_
 obtain ⟨cq24, kq24, q24a, q24b, q24c⟩ := isOf hZ e22 E_a0
 refine w_virtual X22 hx (y := yn_19) (z := yn_19) hown (mvT hZ (wd_80 hw)) (mvT hZ (wd_81 hw)) (notFace_of_selects (args := #[]) (mvT hZ (wd_83 hw))) (mvT hZ (wd_83 hw)) (mvT hZ (wd_82 hw)) (by decide) (backOf (W := 0) (rm_m19_7 l Z aZ hw [] a0 jj3 h0 n0 Z0 zz8 O0 hP_6 zz7) hZ (wd_84 hw) (wd_23 hw) (by decide) (by decide)) q24a q24c (by rw [hml]; rfl) [] (lenOf pd_9 rfl) rfl (Nat.le_of_eq rfl) (d24_28 hby) (fun _ _ => ⟨rfl, e22, (by decide : 0 + 0 ≤ _), (by decide : 0 + 0 ≤ _)⟩) (pq 31) ?_
 rintro _ _ ⟨T24, L24, k24, n24⟩ X24 ⟨Lc24, hQ24, l24, y24, z24⟩
 dsimp only [Pt.U, Pt.locs, Pt.cells, Pt.slots] at X24 l24 y24 z24 hQ24 ⊢
 rw [l24, y24, z24] at X24
 obtain ⟨rfl, N24q, e24⟩ := hQ24
 have N25 := Fr.app N23 N24q
 show Runs _ _ _ _ (T24.setTop (mkF m 31 _ [(.int (1 : Int32))]))
 refine w_ifN X24 hx (d24_31 hby) (feq (by decide : ¬ ((1 : Int32) = (0 : Int32)))).1 (pq 34) ?_
 refine w_aloadN X24 hx (d24_34 hby) rfl rfl (pq 35) ?_
 refine w_getF X24 hx "" hZ hown (Or.inl (wd_48 hw)) Via.refl e24 zz5 (d24_35 hby) (pq 38) ?_
 intro T26 X26 e26
 refine w_iloadN X26 hx (d24_38 hby) rfl (pq 39) ?_
 refine w_iload X26 hx (d24_39 hby) rfl (pq 41) ?_
 refine w_static X26 hx (y := yn_27) hown (mvT hZ (wd_112 hw)) (mvT hZ (wd_113 hw)) (mvT hZ (wd_87 hw)) (mvT hZ (wd_114 hw)) (by decide) (backOf (W := 0) (rm_m27_21 l Z aZ hw [] jj0 p1 (p2 - p1) jj1 jj2 h0 n0 Z0 zz14 zz13 zz6 zz15 zz16) hZ (wd_114 hw) (wd_87 hw) (by decide) (by decide)) (by rw [hml]; rfl) [(.ref jj0), (.int p1), (.int (p2 - p1))] (lenOf pd_18 rfl) rfl (Nat.le_of_eq rfl) (d24_41 hby) (fun _ _ => ⟨rfl, e26, (by decide : 0 + 2 ≤ _), (by decide : 0 + 16 ≤ _)⟩) (pq 44) ?_
 rintro _ _ ⟨T27, L27, k27, n27⟩ X27 ⟨Lc27, hQ27, l27, y27, z27⟩
 dsimp only [Pt.U, Pt.locs, Pt.cells, Pt.slots] at X27 l27 y27 z27 hQ27 ⊢
 rw [l27, y27, z27] at X27
 obtain ⟨r0_27, r1_27, c0_27, rfl, N27q, K27, g27_0, g27_1, g27_2, g27_3, g27_4, g27_5⟩ := hQ27
 have N28 := Fr.app N25 N27q
 have K29 : Keep h0 T27.heap [] := (Keep.refl h0 []).trans K27 (all0 (P := fun x => x ∈ [] ∨ h0.size ≤ x))
 have ge30 : n0 ≤ r0_27 := Nat.le_trans Z0 g27_0
 have sz31 : h0.size ≤ r0_27 := Nat.le_trans (Nat.le_refl _) g27_0
 have ge32 : n0 ≤ r1_27 := Nat.le_trans Z0 g27_1
 have sz33 : h0.size ≤ r1_27 := Nat.le_trans (Nat.le_refl _) g27_1
 show Runs _ _ _ _ (T27.setTop (mkF m 44 _ [(.ref r0_27)]))
 refine w_goto X27 hx (d24_44 hby) (pc' := 57) (by decide) (by decide) ?_
 exact w_done X27 hlk (v := some (.ref r0_27)) rfl (fun h => by rw [hret] at h; cases h) (fun fs hr => retOut X27 hx hret rfl (Or.inr (Or.inr (Or.inr (Or.inr ⟨rfl, rfl, rfl⟩)))) (d24_57 hby) hr) (by decide) (by decide) (⟨r0_27, r1_27, c0_27, rfl, N28, K29, sz31, sz33, g27_2, g27_3, g27_4, g27_5⟩)
theorem ef_m15_3 (m : MethodId) (a0 : Addr)  : entryFrame m #[(.ref a0)] 3 = mkF m 0 #[.val (.ref a0), .unset, .unset] [] := by first | (simp [entryFrame, mkF, argsToLocals, Value.category]; done) | rfl
def Q_m15_3 (Z : State) (a0 : Addr) (qq : Int32) (nn : Int32) (k0 : Int32) (k1 : Int32) (k2 : Int32) (k3 : Int32) (jj0 : Addr) (jj1 : ClassId) (jj2 : List Int32) (jj3 : Int32) (jj4 : Value) (h0 : Heap) (n0 : Nat) (v : Option Value) (h : Heap) (L : List Loc) : Prop := ∃ (r : Addr) (t : Addr) (kb : ClassId), v = some (.ref r) ∧ Fr n0 L ∧ Keep h0 h [] ∧ h0.size ≤ r ∧ Exa Z h r kc0 ∧ Fld Z h r kc0 "coder" "B" (.int (0 : Int32)) ∧ Fld Z h r kc0 "value" "[B" (.ref t) ∧ h0.size ≤ t ∧ Arv Z h t kb .byte (lenK qq nn k0 k1 k2 k3) (mI (lowL (encK qq nn k0 k1 k2 k3))) (.int (0 : Int32))
theorem rm_m15_3 (l : Launch) (Z : State) (aZ : Array Value) (hw : ∀ d ∈ tables_1, d.before aZ Z = true) (ws : List Jvm.Cond) (a0 : Addr) (qq : Int32) (nn : Int32) (k0 : Int32) (k1 : Int32) (k2 : Int32) (k3 : Int32) (jj0 : Addr) (jj1 : ClassId) (jj2 : List Int32) (jj3 : Int32) (jj4 : Value) (h0 : Heap) (n0 : Nat) (Z0 : n0 ≤ h0.size) (zz5 : Fld Z h0 a0 kc0 "value" "[B" (.ref jj0)) (zz6 : Arv Z h0 jj0 jj1 .byte (12 : Int32) (mI jj2) (.int (0 : Int32))) (hX_2 : TRI jj2 (encK qq nn k0 k1 k2 k3)) (E_a0 : Exa Z h0 a0 kc0) (zz7 : Fld Z h0 a0 kc0 "coder" "B" (.int (0 : Int32))) (zz8 : Sta Z Z.heap kc0 "COMPACT_STRINGS" "Z" (.int jj3)) (O0 : Old Z n0 h0) (hP_7 : ¬ (jj3 = (0 : Int32))) (zz9 : jj4.isRef = true) (zz10 : Sta Z Z.heap kc3 "SIOOBE_FORMATTER" "Ljava/util/function/BiFunction;" jj4) (zz11 : jj2.length = ((12 : Int32)).toNatClampNeg) :
    MetN l Z yn_15 prog_3_method_3_code 3 (some (.object kc0)) ws ({ frames := 5, cells := 2, slots := 16, locals := 80 } : Room) #[(.ref a0)] h0 (Q_m15_3 Z a0 qq nn k0 k1 k2 k3 jj0 jj1 jj2 jj3 jj4 h0 n0) := by
 refine MetN.of (plainFor_of_name pn_1) ?_
 intro p e s m below meth c s₁ hret hx hby hml hown hnm hlk hZ X0 e0
 have N0 := Fr.nil n0
 rw [ef_m15_3 m a0]
 obtain ⟨na, nb, hT⟩ := hX_2
 refine w_iconst X0 hx (d15_0 hby) (v := (0 : Int32)) rfl (pq 1) ?_
 refine w_istoreN X0 hx (d15_1 hby) (L' := #[.val (.ref a0), .val (.int (0 : Int32)), .unset]) rfl (pq 2) ?_
 refine w_aloadN X0 hx (d15_2 hby) rfl rfl (pq 3) ?_
 obtain ⟨cq20, kq20, q20a, q20b, q20c⟩ := isOf hZ e0 E_a0
 refine w_virtual X0 hx (y := yn_16) (z := yn_16) hown (mvT hZ (wd_65 hw)) (mvT hZ (wd_66 hw)) (notFace_of_selects (args := #[]) (mvT hZ (wd_68 hw))) (mvT hZ (wd_68 hw)) (mvT hZ (wd_67 hw)) (by decide) (backOf (W := 0) (rm_m16_4 l Z aZ hw [] a0 jj0 jj1 jj2 jj3 h0 n0 Z0 zz5 zz6 E_a0 hP_7 zz7 zz8 O0) hZ (wd_69 hw) (wd_23 hw) (by decide) (by decide)) q20a q20c (by rw [hml]; rfl) [] (lenOf pd_8 rfl) rfl (Nat.le_of_eq rfl) (d15_3 hby) (fun _ _ => ⟨rfl, e0, (by decide : 0 + 0 ≤ _), (by decide : 0 + 0 ≤ _)⟩) (pq 6) ?_
 rintro _ _ ⟨T20, L20, k20, n20⟩ X20 ⟨Lc20, hQ20, l20, y20, z20⟩
 dsimp only [Pt.U, Pt.locs, Pt.cells, Pt.slots] at X20 l20 y20 z20 hQ20 ⊢
 rw [l20, y20, z20] at X20
 obtain ⟨rfl, N20q, e20⟩ := hQ20
 have N21 := Fr.app N0 N20q
 show Runs _ _ _ _ (T20.setTop (mkF m 6 _ [(.int (12 : Int32))]))
 refine w_istoreN X20 hx (d15_6 hby) (L' := #[.val (.ref a0), .val (.int (0 : Int32)), .val (.int (12 : Int32))]) rfl (pq 7) ?_
 suffices lp22 : ∀ (d28 : Nat) (T23 : State) (L24 : List Loc), Stand p l e ({ frames := 5, cells := 2, slots := 16, locals := 80 } : Room) s m #[(.ref a0)] below meth c T23 L24 0 0 → T23.heap = h0 → Fr n0 L24 → d28 ≤ na → Runs p e below (EndN s (Q_m15_3 Z a0 qq nn k0 k1 k2 k3 jj0 jj1 jj2 jj3 jj4 h0 n0) ({ frames := 5, cells := 2, slots := 16, locals := 80 } : Room).cells ({ frames := 5, cells := 2, slots := 16, locals := 80 } : Room).slots) (T23.setTop (mkF m 7 #[.val (.ref a0), .val (.int (Int32.ofNat (na - d28))), .val (.int (12 : Int32))] [])) by
  have z := lp22 (na) _ _ X20 e20 N21 (Nat.le_refl _)
  rw [Nat.sub_self] at z
  exact z
 intro d28
 induction d28 with
 | zero =>
  intro T23 L24 X25 e26 N27 _
  show Runs _ _ _ _ (T23.setTop (mkF m 7 #[.val (.ref a0), .val (.int (Int32.ofNat na)), .val (.int (12 : Int32))] []))
  refine w_iloadN X25 hx (d15_7 hby) rfl (pq 8) ?_
  refine w_iloadN X25 hx (d15_8 hby) rfl (pq 9) ?_
  refine w_icN X25 hx (d15_9 hby) (tlt (own_trA hT).2.1).2.1 (pq 12) ?_
  refine w_aloadN X25 hx (d15_12 hby) rfl rfl (pq 13) ?_
  refine w_iloadN X25 hx (d15_13 hby) rfl (pq 14) ?_
  obtain ⟨cq29, kq29, q29a, q29b, q29c⟩ := isOf hZ e26 E_a0
  refine w_virtual X25 hx (y := yn_18) (z := yn_18) hown (mvT hZ (wd_75 hw)) (mvT hZ (wd_76 hw)) (notFace_of_selects (args := #[]) (mvT hZ (wd_78 hw))) (mvT hZ (wd_78 hw)) (mvT hZ (wd_77 hw)) (by decide) (backOf (W := 0) (rm_m18_6 l Z aZ hw [] a0 (Int32.ofNat na) jj3 jj0 jj1 jj2 jj4 h0 n0 Z0 E_a0 hP_7 zz7 zz8 O0 zz5 zz6 (own_trA hT).1 (own_trA hT).2.1 zz9 zz10) hZ (wd_79 hw) (wd_23 hw) (by decide) (by decide)) q29a q29c (by rw [hml]; rfl) [(.int (Int32.ofNat na))] (lenOf pd_1 rfl) rfl (Nat.le_of_eq rfl) (d15_14 hby) (fun _ _ => ⟨rfl, e26, (by decide : 0 + 0 ≤ _), (by decide : 0 + 0 ≤ _)⟩) (pq 17) ?_
  rintro _ _ ⟨T29, L29, k29, n29⟩ X29 ⟨Lc29, hQ29, l29, y29, z29⟩
  dsimp only [Pt.U, Pt.locs, Pt.cells, Pt.slots] at X29 l29 y29 z29 hQ29 ⊢
  rw [l29, y29, z29] at X29
  obtain ⟨rfl, N29q, e29⟩ := hQ29
  have N30 := Fr.app N27 N29q
  show Runs _ _ _ _ (T29.setTop (mkF m 17 _ [(.int (((gI jj2 (Int32.ofNat na)) &&& (255 : Int32)).toUInt32.toUInt16.toUInt32.toInt32))]))
  refine w_static X29 hx (y := yn_23) hown (mvT hZ (wd_97 hw)) (mvT hZ (wd_98 hw)) (mvT hZ (wd_52 hw)) (mvT hZ (wd_99 hw)) (by decide) (backOf (W := 0) (rm_isws l Z aZ hw [] (((gI jj2 (Int32.ofNat na)) &&& (255 : Int32)).toUInt32.toUInt16.toUInt32.toInt32) h0 n0 Z0 ) hZ (wd_99 hw) (wd_52 hw) (by decide) (by decide)) (by rw [hml]; rfl) [(.int (((gI jj2 (Int32.ofNat na)) &&& (255 : Int32)).toUInt32.toUInt16.toUInt32.toInt32))] (lenOf pd_0 rfl) rfl (Nat.le_of_eq rfl) (d15_17 hby) (fun _ _ => ⟨rfl, e29, (by decide : 0 + 0 ≤ _), (by decide : 0 + 0 ≤ _)⟩) (pq 20) ?_
  rintro _ _ ⟨T31, L31, k31, n31⟩ X31 ⟨Lc31, hQ31, l31, y31, z31⟩
  dsimp only [Pt.U, Pt.locs, Pt.cells, Pt.slots] at X31 l31 y31 z31 hQ31 ⊢
  rw [l31, y31, z31] at X31
  obtain ⟨rfl, N31q, e31⟩ := hQ31
  have N32 := Fr.app N30 N31q
  show Runs _ _ _ _ (T31.setTop (mkF m 20 _ [(.int (wsF (((gI jj2 (Int32.ofNat na)) &&& (255 : Int32)).toUInt32.toUInt16.toUInt32.toInt32)))]))
  refine w_ifY X31 hx (d15_20 hby) (teq (own_trA hT).2.2).1 (pc' := 29) (by decide) (by decide) ?_
  suffices lp33 : ∀ (d39 : Nat) (T34 : State) (L35 : List Loc), Stand p l e ({ frames := 5, cells := 2, slots := 16, locals := 80 } : Room) s m #[(.ref a0)] below meth c T34 L35 0 0 → T34.heap = h0 → Fr n0 L35 → d39 ≤ 12 - nb → Runs p e below (EndN s (Q_m15_3 Z a0 qq nn k0 k1 k2 k3 jj0 jj1 jj2 jj3 jj4 h0 n0) ({ frames := 5, cells := 2, slots := 16, locals := 80 } : Room).cells ({ frames := 5, cells := 2, slots := 16, locals := 80 } : Room).slots) (T34.setTop (mkF m 29 #[.val (.ref a0), .val (.int (Int32.ofNat na)), .val (.int (Int32.ofNat (nb + d39)))] [])) by
   have z := lp33 (12 - nb) _ _ X31 e31 N32 (Nat.le_refl _)
   rw [own_b12 hT] at z
   exact z
  intro d39
  induction d39 with
  | zero =>
   intro T34 L35 X36 e37 N38 _
   show Runs _ _ _ _ (T34.setTop (mkF m 29 #[.val (.ref a0), .val (.int (Int32.ofNat na)), .val (.int (Int32.ofNat nb))] []))
   refine w_iloadN X36 hx (d15_29 hby) rfl (pq 30) ?_
   refine w_iloadN X36 hx (d15_30 hby) rfl (pq 31) ?_
   refine w_icN X36 hx (d15_31 hby) (tlt (own_trB hT).1).2.2.2 (pq 34) ?_
   refine w_aloadN X36 hx (d15_34 hby) rfl rfl (pq 35) ?_
   refine w_iloadN X36 hx (d15_35 hby) rfl (pq 36) ?_
   refine w_iconst X36 hx (d15_36 hby) (v := (1 : Int32)) rfl (pq 37) ?_
   refine w_isub X36 hx (d15_37 hby) (pq 38) ?_
   obtain ⟨cq40, kq40, q40a, q40b, q40c⟩ := isOf hZ e37 E_a0
   refine w_virtual X36 hx (y := yn_18) (z := yn_18) hown (mvT hZ (wd_75 hw)) (mvT hZ (wd_76 hw)) (notFace_of_selects (args := #[]) (mvT hZ (wd_78 hw))) (mvT hZ (wd_78 hw)) (mvT hZ (wd_77 hw)) (by decide) (backOf (W := 0) (rm_m18_6 l Z aZ hw [] a0 ((Int32.ofNat nb) - (1 : Int32)) jj3 jj0 jj1 jj2 jj4 h0 n0 Z0 E_a0 hP_7 zz7 zz8 O0 zz5 zz6 (own_trB hT).2.1 (own_trB hT).2.2.1 zz9 zz10) hZ (wd_79 hw) (wd_23 hw) (by decide) (by decide)) q40a q40c (by rw [hml]; rfl) [(.int ((Int32.ofNat nb) - (1 : Int32)))] (lenOf pd_1 rfl) rfl (Nat.le_of_eq rfl) (d15_38 hby) (fun _ _ => ⟨rfl, e37, (by decide : 0 + 0 ≤ _), (by decide : 0 + 0 ≤ _)⟩) (pq 41) ?_
   rintro _ _ ⟨T40, L40, k40, n40⟩ X40 ⟨Lc40, hQ40, l40, y40, z40⟩
   dsimp only [Pt.U, Pt.locs, Pt.cells, Pt.slots] at X40 l40 y40 z40 hQ40 ⊢
   rw [l40, y40, z40] at X40
   obtain ⟨rfl, N40q, e40⟩ := hQ40
   have N41 := Fr.app N38 N40q
   show Runs _ _ _ _ (T40.setTop (mkF m 41 _ [(.int (((gI jj2 ((Int32.ofNat nb) - (1 : Int32))) &&& (255 : Int32)).toUInt32.toUInt16.toUInt32.toInt32))]))
   refine w_static X40 hx (y := yn_23) hown (mvT hZ (wd_97 hw)) (mvT hZ (wd_98 hw)) (mvT hZ (wd_52 hw)) (mvT hZ (wd_99 hw)) (by decide) (backOf (W := 0) (rm_isws l Z aZ hw [] (((gI jj2 ((Int32.ofNat nb) - (1 : Int32))) &&& (255 : Int32)).toUInt32.toUInt16.toUInt32.toInt32) h0 n0 Z0 ) hZ (wd_99 hw) (wd_52 hw) (by decide) (by decide)) (by rw [hml]; rfl) [(.int (((gI jj2 ((Int32.ofNat nb) - (1 : Int32))) &&& (255 : Int32)).toUInt32.toUInt16.toUInt32.toInt32))] (lenOf pd_0 rfl) rfl (Nat.le_of_eq rfl) (d15_41 hby) (fun _ _ => ⟨rfl, e40, (by decide : 0 + 0 ≤ _), (by decide : 0 + 0 ≤ _)⟩) (pq 44) ?_
   rintro _ _ ⟨T42, L42, k42, n42⟩ X42 ⟨Lc42, hQ42, l42, y42, z42⟩
   dsimp only [Pt.U, Pt.locs, Pt.cells, Pt.slots] at X42 l42 y42 z42 hQ42 ⊢
   rw [l42, y42, z42] at X42
   obtain ⟨rfl, N42q, e42⟩ := hQ42
   have N43 := Fr.app N41 N42q
   show Runs _ _ _ _ (T42.setTop (mkF m 44 _ [(.int (wsF (((gI jj2 ((Int32.ofNat nb) - (1 : Int32))) &&& (255 : Int32)).toUInt32.toUInt16.toUInt32.toInt32)))]))
   refine w_ifY X42 hx (d15_44 hby) (teq (own_trB hT).2.2.2.1).1 (pc' := 53) (by decide) (by decide) ?_
   refine w_aloadN X42 hx (d15_53 hby) rfl rfl (pq 54) ?_
   refine w_iloadN X42 hx (d15_54 hby) rfl (pq 55) ?_
   refine w_iloadN X42 hx (d15_55 hby) rfl (pq 56) ?_
   by_cases hc44 : (Int32.ofNat na) = (0 : Int32)
   · obtain ⟨cq45, kq45, q45a, q45b, q45c⟩ := isOf hZ e42 E_a0
     refine w_virtual X42 hx (y := yn_24) (z := yn_24) hown (mvT hZ (wd_100 hw)) (mvT hZ (wd_101 hw)) (notFace_of_selects (args := #[]) (mvT hZ (wd_103 hw))) (mvT hZ (wd_103 hw)) (mvT hZ (wd_102 hw)) (by decide) (backOf (W := 0) (rm_m24_14 l Z aZ hw [] a0 (Int32.ofNat na) (Int32.ofNat nb) jj0 jj1 jj2 jj3 jj4 h0 n0 Z0 E_a0 zz5 zz6 zz7 zz8 O0 hP_7 zz9 zz10 (own_trA hT).1 (own_trB hT).2.2.2.2.1 (own_trB hT).2.2.2.2.2.1 hc44 (own_trN hT hc44) (own_trB hT).2.2.2.2.2.2 (own_trN2 hT hc44) (own_trC hT) zz11) hZ (wd_104 hw) (wd_23 hw) (by decide) (by decide)) q45a q45c (by rw [hml]; rfl) [(.int (Int32.ofNat na)), (.int (Int32.ofNat nb))] (lenOf pd_19 rfl) rfl (Nat.le_of_eq rfl) (d15_56 hby) (fun _ _ => ⟨rfl, e42, (by decide : 0 + 2 ≤ _), (by decide : 0 + 16 ≤ _)⟩) (pq 59) ?_
     rintro _ _ ⟨T45, L45, k45, n45⟩ X45 ⟨Lc45, hQ45, l45, y45, z45⟩
     dsimp only [Pt.U, Pt.locs, Pt.cells, Pt.slots] at X45 l45 y45 z45 hQ45 ⊢
     rw [l45, y45, z45] at X45
     obtain ⟨r0_45, r1_45, c0_45, rfl, N45q, K45, g45_0, g45_1, g45_2, g45_3, g45_4, g45_5⟩ := hQ45
     have N46 := Fr.app N43 N45q
     have K47 : Keep h0 T45.heap [] := (Keep.refl h0 []).trans K45 (all0 (P := fun x => x ∈ [] ∨ h0.size ≤ x))
     have ge48 : n0 ≤ r0_45 := Nat.le_trans Z0 g45_0
     have sz49 : h0.size ≤ r0_45 := Nat.le_trans (Nat.le_refl _) g45_0
     have ge50 : n0 ≤ r1_45 := Nat.le_trans Z0 g45_1
     have sz51 : h0.size ≤ r1_45 := Nat.le_trans (Nat.le_refl _) g45_1
     show Runs _ _ _ _ (T45.setTop (mkF m 59 _ [(.ref r0_45)]))
     exact w_done X45 hlk (v := some (.ref r0_45)) rfl (fun h => by rw [hret] at h; cases h) (fun fs hr => retOut X45 hx hret rfl (Or.inr (Or.inr (Or.inr (Or.inr ⟨rfl, rfl, rfl⟩)))) (d15_59 hby) hr) (by decide) (by decide) (⟨r0_45, r1_45, c0_45, rfl, N46, K47, sz49, g45_2, g45_3, g45_4, sz51, (by have z := g45_5; rw [own_trE hT, own_trn hT] at z; exact z)⟩)
   · obtain ⟨cq52, kq52, q52a, q52b, q52c⟩ := isOf hZ e42 E_a0
     refine w_virtual X42 hx (y := yn_24) (z := yn_24) hown (mvT hZ (wd_100 hw)) (mvT hZ (wd_101 hw)) (notFace_of_selects (args := #[]) (mvT hZ (wd_103 hw))) (mvT hZ (wd_103 hw)) (mvT hZ (wd_102 hw)) (by decide) (backOf (W := 0) (rm_m24_20 l Z aZ hw [] a0 (Int32.ofNat na) (Int32.ofNat nb) jj0 jj1 jj2 jj3 jj4 h0 n0 Z0 E_a0 zz5 zz6 zz7 zz8 O0 hP_7 zz9 zz10 (own_trA hT).1 (own_trB hT).2.2.2.2.1 (own_trB hT).2.2.2.2.2.1 hc44 (own_trB hT).2.2.2.2.2.2 (own_trC hT) zz11) hZ (wd_104 hw) (wd_23 hw) (by decide) (by decide)) q52a q52c (by rw [hml]; rfl) [(.int (Int32.ofNat na)), (.int (Int32.ofNat nb))] (lenOf pd_19 rfl) rfl (Nat.le_of_eq rfl) (d15_56 hby) (fun _ _ => ⟨rfl, e42, (by decide : 0 + 2 ≤ _), (by decide : 0 + 16 ≤ _)⟩) (pq 59) ?_
     rintro _ _ ⟨T52, L52, k52, n52⟩ X52 ⟨Lc52, hQ52, l52, y52, z52⟩
     dsimp only [Pt.U, Pt.locs, Pt.cells, Pt.slots] at X52 l52 y52 z52 hQ52 ⊢
     rw [l52, y52, z52] at X52
     obtain ⟨r0_52, r1_52, c0_52, rfl, N52q, K52, g52_0, g52_1, g52_2, g52_3, g52_4, g52_5⟩ := hQ52
     have N53 := Fr.app N43 N52q
     have K54 : Keep h0 T52.heap [] := (Keep.refl h0 []).trans K52 (all0 (P := fun x => x ∈ [] ∨ h0.size ≤ x))
     have ge55 : n0 ≤ r0_52 := Nat.le_trans Z0 g52_0
     have sz56 : h0.size ≤ r0_52 := Nat.le_trans (Nat.le_refl _) g52_0
     have ge57 : n0 ≤ r1_52 := Nat.le_trans Z0 g52_1
     have sz58 : h0.size ≤ r1_52 := Nat.le_trans (Nat.le_refl _) g52_1
     show Runs _ _ _ _ (T52.setTop (mkF m 59 _ [(.ref r0_52)]))
     exact w_done X52 hlk (v := some (.ref r0_52)) rfl (fun h => by rw [hret] at h; cases h) (fun fs hr => retOut X52 hx hret rfl (Or.inr (Or.inr (Or.inr (Or.inr ⟨rfl, rfl, rfl⟩)))) (d15_59 hby) hr) (by decide) (by decide) (⟨r0_52, r1_52, c0_52, rfl, N53, K54, sz56, g52_2, g52_3, g52_4, sz58, (by have z := g52_5; rw [own_trE hT, own_trn hT] at z; exact z)⟩)
  | succ d39 ih =>
   intro T34 L35 X36 e37 N38 hd
   obtain ⟨jj59, hq60⟩ := own_trT hT hd
   rw [hq60.1]
   refine w_iloadN X36 hx (d15_29 hby) rfl (pq 30) ?_
   refine w_iloadN X36 hx (d15_30 hby) rfl (pq 31) ?_
   refine w_icN X36 hx (d15_31 hby) (tlt hq60.2.1).2.2.2 (pq 34) ?_
   refine w_aloadN X36 hx (d15_34 hby) rfl rfl (pq 35) ?_
   refine w_iloadN X36 hx (d15_35 hby) rfl (pq 36) ?_
   refine w_iconst X36 hx (d15_36 hby) (v := (1 : Int32)) rfl (pq 37) ?_
   refine w_isub X36 hx (d15_37 hby) (pq 38) ?_
   obtain ⟨cq61, kq61, q61a, q61b, q61c⟩ := isOf hZ e37 E_a0
   refine w_virtual X36 hx (y := yn_18) (z := yn_18) hown (mvT hZ (wd_75 hw)) (mvT hZ (wd_76 hw)) (notFace_of_selects (args := #[]) (mvT hZ (wd_78 hw))) (mvT hZ (wd_78 hw)) (mvT hZ (wd_77 hw)) (by decide) (backOf (W := 0) (rm_m18_6 l Z aZ hw [] a0 (jj59 - (1 : Int32)) jj3 jj0 jj1 jj2 jj4 h0 n0 Z0 E_a0 hP_7 zz7 zz8 O0 zz5 zz6 hq60.2.2.1 hq60.2.2.2.1 zz9 zz10) hZ (wd_79 hw) (wd_23 hw) (by decide) (by decide)) q61a q61c (by rw [hml]; rfl) [(.int (jj59 - (1 : Int32)))] (lenOf pd_1 rfl) rfl (Nat.le_of_eq rfl) (d15_38 hby) (fun _ _ => ⟨rfl, e37, (by decide : 0 + 0 ≤ _), (by decide : 0 + 0 ≤ _)⟩) (pq 41) ?_
   rintro _ _ ⟨T61, L61, k61, n61⟩ X61 ⟨Lc61, hQ61, l61, y61, z61⟩
   dsimp only [Pt.U, Pt.locs, Pt.cells, Pt.slots] at X61 l61 y61 z61 hQ61 ⊢
   rw [l61, y61, z61] at X61
   obtain ⟨rfl, N61q, e61⟩ := hQ61
   have N62 := Fr.app N38 N61q
   show Runs _ _ _ _ (T61.setTop (mkF m 41 _ [(.int (((gI jj2 (jj59 - (1 : Int32))) &&& (255 : Int32)).toUInt32.toUInt16.toUInt32.toInt32))]))
   refine w_static X61 hx (y := yn_23) hown (mvT hZ (wd_97 hw)) (mvT hZ (wd_98 hw)) (mvT hZ (wd_52 hw)) (mvT hZ (wd_99 hw)) (by decide) (backOf (W := 0) (rm_isws l Z aZ hw [] (((gI jj2 (jj59 - (1 : Int32))) &&& (255 : Int32)).toUInt32.toUInt16.toUInt32.toInt32) h0 n0 Z0 ) hZ (wd_99 hw) (wd_52 hw) (by decide) (by decide)) (by rw [hml]; rfl) [(.int (((gI jj2 (jj59 - (1 : Int32))) &&& (255 : Int32)).toUInt32.toUInt16.toUInt32.toInt32))] (lenOf pd_0 rfl) rfl (Nat.le_of_eq rfl) (d15_41 hby) (fun _ _ => ⟨rfl, e61, (by decide : 0 + 0 ≤ _), (by decide : 0 + 0 ≤ _)⟩) (pq 44) ?_
   rintro _ _ ⟨T63, L63, k63, n63⟩ X63 ⟨Lc63, hQ63, l63, y63, z63⟩
   dsimp only [Pt.U, Pt.locs, Pt.cells, Pt.slots] at X63 l63 y63 z63 hQ63 ⊢
   rw [l63, y63, z63] at X63
   obtain ⟨rfl, N63q, e63⟩ := hQ63
   have N64 := Fr.app N62 N63q
   show Runs _ _ _ _ (T63.setTop (mkF m 44 _ [(.int (wsF (((gI jj2 (jj59 - (1 : Int32))) &&& (255 : Int32)).toUInt32.toUInt16.toUInt32.toInt32)))]))
   refine w_ifN X63 hx (d15_44 hby) (feq hq60.2.2.2.2.1).1 (pq 47) ?_
   refine w_iinc X63 hx (d15_47 hby) (v := (-1 : Int32)) rfl rfl (L' := #[.val (.ref a0), .val (.int (Int32.ofNat na)), .val (.int (jj59 + (-1 : Int32)))]) rfl (pq 50) ?_
   refine w_goto X63 hx (d15_50 hby) (pc' := 29) (by decide) (by decide) ?_
   rw [hq60.2.2.2.2.2]
   exact ih _ _ X63 e63 N64 (by omega)
 | succ d28 ih =>
  intro T23 L24 X25 e26 N27 hd
  obtain ⟨ii65, hq66⟩ := own_trS hT hd
  rw [hq66.1]
  refine w_iloadN X25 hx (d15_7 hby) rfl (pq 8) ?_
  refine w_iloadN X25 hx (d15_8 hby) rfl (pq 9) ?_
  refine w_icN X25 hx (d15_9 hby) (tlt hq66.2.2.1).2.1 (pq 12) ?_
  refine w_aloadN X25 hx (d15_12 hby) rfl rfl (pq 13) ?_
  refine w_iloadN X25 hx (d15_13 hby) rfl (pq 14) ?_
  obtain ⟨cq67, kq67, q67a, q67b, q67c⟩ := isOf hZ e26 E_a0
  refine w_virtual X25 hx (y := yn_18) (z := yn_18) hown (mvT hZ (wd_75 hw)) (mvT hZ (wd_76 hw)) (notFace_of_selects (args := #[]) (mvT hZ (wd_78 hw))) (mvT hZ (wd_78 hw)) (mvT hZ (wd_77 hw)) (by decide) (backOf (W := 0) (rm_m18_6 l Z aZ hw [] a0 ii65 jj3 jj0 jj1 jj2 jj4 h0 n0 Z0 E_a0 hP_7 zz7 zz8 O0 zz5 zz6 hq66.2.1 hq66.2.2.1 zz9 zz10) hZ (wd_79 hw) (wd_23 hw) (by decide) (by decide)) q67a q67c (by rw [hml]; rfl) [(.int ii65)] (lenOf pd_1 rfl) rfl (Nat.le_of_eq rfl) (d15_14 hby) (fun _ _ => ⟨rfl, e26, (by decide : 0 + 0 ≤ _), (by decide : 0 + 0 ≤ _)⟩) (pq 17) ?_
  rintro _ _ ⟨T67, L67, k67, n67⟩ X67 ⟨Lc67, hQ67, l67, y67, z67⟩
  dsimp only [Pt.U, Pt.locs, Pt.cells, Pt.slots] at X67 l67 y67 z67 hQ67 ⊢
  rw [l67, y67, z67] at X67
  obtain ⟨rfl, N67q, e67⟩ := hQ67
  have N68 := Fr.app N27 N67q
  show Runs _ _ _ _ (T67.setTop (mkF m 17 _ [(.int (((gI jj2 ii65) &&& (255 : Int32)).toUInt32.toUInt16.toUInt32.toInt32))]))
  refine w_static X67 hx (y := yn_23) hown (mvT hZ (wd_97 hw)) (mvT hZ (wd_98 hw)) (mvT hZ (wd_52 hw)) (mvT hZ (wd_99 hw)) (by decide) (backOf (W := 0) (rm_isws l Z aZ hw [] (((gI jj2 ii65) &&& (255 : Int32)).toUInt32.toUInt16.toUInt32.toInt32) h0 n0 Z0 ) hZ (wd_99 hw) (wd_52 hw) (by decide) (by decide)) (by rw [hml]; rfl) [(.int (((gI jj2 ii65) &&& (255 : Int32)).toUInt32.toUInt16.toUInt32.toInt32))] (lenOf pd_0 rfl) rfl (Nat.le_of_eq rfl) (d15_17 hby) (fun _ _ => ⟨rfl, e67, (by decide : 0 + 0 ≤ _), (by decide : 0 + 0 ≤ _)⟩) (pq 20) ?_
  rintro _ _ ⟨T69, L69, k69, n69⟩ X69 ⟨Lc69, hQ69, l69, y69, z69⟩
  dsimp only [Pt.U, Pt.locs, Pt.cells, Pt.slots] at X69 l69 y69 z69 hQ69 ⊢
  rw [l69, y69, z69] at X69
  obtain ⟨rfl, N69q, e69⟩ := hQ69
  have N70 := Fr.app N68 N69q
  show Runs _ _ _ _ (T69.setTop (mkF m 20 _ [(.int (wsF (((gI jj2 ii65) &&& (255 : Int32)).toUInt32.toUInt16.toUInt32.toInt32)))]))
  refine w_ifN X69 hx (d15_20 hby) (feq hq66.2.2.2.1).1 (pq 23) ?_
  refine w_iinc X69 hx (d15_23 hby) (v := (1 : Int32)) rfl rfl (L' := #[.val (.ref a0), .val (.int (ii65 + (1 : Int32))), .val (.int (12 : Int32))]) rfl (pq 26) ?_
  refine w_goto X69 hx (d15_26 hby) (pc' := 7) (by decide) (by decide) ?_
  rw [hq66.2.2.2.2]
  exact ih _ _ X69 e69 N70 (by omega)
theorem ef_m16_25 (m : MethodId) (a0 : Addr)  : entryFrame m #[(.ref a0)] 1 = mkF m 0 #[.val (.ref a0)] [] := by first | (simp [entryFrame, mkF, argsToLocals, Value.category]; done) | rfl
def Q_m16_25 (Z : State) (a0 : Addr) (jj0 : Addr) (jj1 : ClassId) (jj2 : Int32) (jj3 : List Int32) (jj4 : Int32) (h0 : Heap) (n0 : Nat) (v : Option Value) (h : Heap) (L : List Loc) : Prop := v = some (.int (jj2 >>> ((0 : Int32) &&& 31))) ∧ Fr n0 L ∧ h = h0
theorem rm_m16_25 (l : Launch) (Z : State) (aZ : Array Value) (hw : ∀ d ∈ tables_1, d.before aZ Z = true) (ws : List Jvm.Cond) (a0 : Addr) (jj0 : Addr) (jj1 : ClassId) (jj2 : Int32) (jj3 : List Int32) (jj4 : Int32) (h0 : Heap) (n0 : Nat) (Z0 : n0 ≤ h0.size) (zz5 : Fld Z h0 a0 kc0 "value" "[B" (.ref jj0)) (zz6 : Arv Z h0 jj0 jj1 .byte jj2 (mI jj3) (.int (0 : Int32))) (E_a0 : Exa Z h0 a0 kc0) (zz7 : Sta Z Z.heap kc0 "COMPACT_STRINGS" "Z" (.int jj4)) (O0 : Old Z n0 h0) (zz8 : Fld Z h0 a0 kc0 "coder" "B" (.int (0 : Int32))) (hP_6 : ¬ (jj4 = (0 : Int32))) :
    MetN l Z yn_16 jdk_42_method_54_code 1 (some .int) ws ({ frames := 1, cells := 0, slots := 0, locals := 13 } : Room) #[(.ref a0)] h0 (Q_m16_25 Z a0 jj0 jj1 jj2 jj3 jj4 h0 n0) := by
 refine MetN.of (plainFor_of_name pn_3) ?_
 intro p e s m below meth c s₁ hret hx hby hml hown hnm hlk hZ X0 e0
 have N0 := Fr.nil n0
 rw [ef_m16_25 m a0]
 refine w_aloadN X0 hx (d16_0 hby) rfl rfl (pq 1) ?_
 refine w_getF X0 hx "" hZ hown (Or.inl (wd_48 hw)) Via.refl e0 zz5 (d16_1 hby) (pq 4) ?_
 intro T20 X20 e20
 refine w_alen X20 hx hZ e20 zz6 (d16_4 hby) (pq 5) ?_
 refine w_aloadN X20 hx (d16_5 hby) rfl rfl (pq 6) ?_
 obtain ⟨cq21, kq21, q21a, q21b, q21c⟩ := isOf hZ e20 E_a0
 refine w_virtual X20 hx (y := yn_17) (z := yn_17) hown (mvT hZ (wd_70 hw)) (mvT hZ (wd_71 hw)) (notFace_of_selects (args := #[]) (mvT hZ (wd_73 hw))) (mvT hZ (wd_73 hw)) (mvT hZ (wd_72 hw)) (by decide) (backOf (W := 1) (rm_m17_5 l Z aZ hw [] a0 jj4 h0 n0 Z0 zz7 O0 hP_6 zz8) hZ (wd_74 hw) (wd_23 hw) (by decide) (by decide)) q21a q21c (by rw [hml]; rfl) [] (lenOf pd_7 rfl) rfl (Nat.le_of_eq rfl) (d16_6 hby) (fun _ _ => ⟨rfl, e20, (by decide : 0 + 0 ≤ _), (by decide : 0 + 0 ≤ _)⟩) (pq 9) ?_
 rintro _ _ ⟨T21, L21, k21, n21⟩ X21 ⟨Lc21, hQ21, l21, y21, z21⟩
 dsimp only [Pt.U, Pt.locs, Pt.cells, Pt.slots] at X21 l21 y21 z21 hQ21 ⊢
 rw [l21, y21, z21] at X21
 obtain ⟨rfl, N21q, e21⟩ := hQ21
 have N22 := Fr.app N0 N21q
 show Runs _ _ _ _ (T21.setTop (mkF m 9 _ [(.int (0 : Int32)), (.int jj2)]))
 refine w_ishr X21 hx (d16_9 hby) (pq 10) ?_
 exact w_done X21 hlk (v := some (.int (jj2 >>> ((0 : Int32) &&& 31)))) e21 (fun h => by rw [hret] at h; cases h) (fun fs hr => retI X21 hx hret (d16_10 hby) hr) (by decide) (by decide) (⟨rfl, N22, rfl⟩)
theorem ef_m16_26 (m : MethodId) (a0 : Addr)  : entryFrame m #[(.ref a0)] 1 = mkF m 0 #[.val (.ref a0)] [] := by first | (simp [entryFrame, mkF, argsToLocals, Value.category]; done) | rfl
def Q_m16_26 (Z : State) (a0 : Addr) (jj0 : Addr) (jj1 : ClassId) (jj2 : Int32) (h0 : Heap) (n0 : Nat) (v : Option Value) (h : Heap) (L : List Loc) : Prop := v = some (.int (1 : Int32)) ∧ Fr n0 L ∧ h = h0
theorem rm_m16_26 (l : Launch) (Z : State) (aZ : Array Value) (hw : ∀ d ∈ tables_1, d.before aZ Z = true) (ws : List Jvm.Cond) (a0 : Addr) (jj0 : Addr) (jj1 : ClassId) (jj2 : Int32) (h0 : Heap) (n0 : Nat) (Z0 : n0 ≤ h0.size) (zz3 : Fld Z h0 a0 kc0 "value" "[B" (.ref jj0)) (zz4 : Arv Z h0 jj0 jj1 .byte (1 : Int32) [(.int (34 : Int32))] (.int (0 : Int32))) (E_a0 : Exa Z h0 a0 kc0) (zz5 : Sta Z Z.heap kc0 "COMPACT_STRINGS" "Z" (.int jj2)) (O0 : Old Z n0 h0) (zz6 : Fld Z h0 a0 kc0 "coder" "B" (.int (0 : Int32))) (hP_6 : ¬ (jj2 = (0 : Int32))) :
    MetN l Z yn_16 jdk_42_method_54_code 1 (some .int) ws ({ frames := 1, cells := 0, slots := 0, locals := 13 } : Room) #[(.ref a0)] h0 (Q_m16_26 Z a0 jj0 jj1 jj2 h0 n0) := by
 refine MetN.of (plainFor_of_name pn_3) ?_
 intro p e s m below meth c s₁ hret hx hby hml hown hnm hlk hZ X0 e0
 have N0 := Fr.nil n0
 rw [ef_m16_26 m a0]
 refine w_aloadN X0 hx (d16_0 hby) rfl rfl (pq 1) ?_
 refine w_getF X0 hx "" hZ hown (Or.inl (wd_48 hw)) Via.refl e0 zz3 (d16_1 hby) (pq 4) ?_
 intro T20 X20 e20
 refine w_alen X20 hx hZ e20 zz4 (d16_4 hby) (pq 5) ?_
 refine w_aloadN X20 hx (d16_5 hby) rfl rfl (pq 6) ?_
 obtain ⟨cq21, kq21, q21a, q21b, q21c⟩ := isOf hZ e20 E_a0
 refine w_virtual X20 hx (y := yn_17) (z := yn_17) hown (mvT hZ (wd_70 hw)) (mvT hZ (wd_71 hw)) (notFace_of_selects (args := #[]) (mvT hZ (wd_73 hw))) (mvT hZ (wd_73 hw)) (mvT hZ (wd_72 hw)) (by decide) (backOf (W := 1) (rm_m17_5 l Z aZ hw [] a0 jj2 h0 n0 Z0 zz5 O0 hP_6 zz6) hZ (wd_74 hw) (wd_23 hw) (by decide) (by decide)) q21a q21c (by rw [hml]; rfl) [] (lenOf pd_7 rfl) rfl (Nat.le_of_eq rfl) (d16_6 hby) (fun _ _ => ⟨rfl, e20, (by decide : 0 + 0 ≤ _), (by decide : 0 + 0 ≤ _)⟩) (pq 9) ?_
 rintro _ _ ⟨T21, L21, k21, n21⟩ X21 ⟨Lc21, hQ21, l21, y21, z21⟩
 dsimp only [Pt.U, Pt.locs, Pt.cells, Pt.slots] at X21 l21 y21 z21 hQ21 ⊢
 rw [l21, y21, z21] at X21
 obtain ⟨rfl, N21q, e21⟩ := hQ21
 have N22 := Fr.app N0 N21q
 show Runs _ _ _ _ (T21.setTop (mkF m 9 _ [(.int (0 : Int32)), (.int (1 : Int32))]))
 refine w_ishr X21 hx (d16_9 hby) (pq 10) ?_
 rw [show ((1 : Int32) >>> ((0 : Int32) &&& 31)) = (1 : Int32) from by decide]
 exact w_done X21 hlk (v := some (.int (1 : Int32))) e21 (fun h => by rw [hret] at h; cases h) (fun fs hr => retI X21 hx hret (d16_10 hby) hr) (by decide) (by decide) (⟨rfl, N22, rfl⟩)
theorem ef_m35_27 (m : MethodId) (a0 : Addr) (a2 : Addr)  : entryFrame m #[(.ref a0), (.int (0 : Int32)), (.ref a2), (.int (0 : Int32)), (.int (1 : Int32))] 8 = mkF m 0 #[.val (.ref a0), .val (.int (0 : Int32)), .val (.ref a2), .val (.int (0 : Int32)), .val (.int (1 : Int32)), .unset, .unset, .unset] [] := by first | (simp [entryFrame, mkF, argsToLocals, Value.category]; done) | rfl
def Q_m35_27 (Z : State) (a0 : Addr) (a2 : Addr) (k_a0 : ClassId) (jj0 : Int32) (l_a0 : List Int32) (k_a2 : ClassId) (h0 : Heap) (n0 : Nat) (v : Option Value) (h : Heap) (L : List Loc) : Prop := v = some (.int (0 : Int32)) ∧ Fr n0 L ∧ h = h0
theorem rm_m35_27 (l : Launch) (Z : State) (aZ : Array Value) (hw : ∀ d ∈ tables_1, d.before aZ Z = true) (ws : List Jvm.Cond) (a0 : Addr) (a2 : Addr) (k_a0 : ClassId) (jj0 : Int32) (l_a0 : List Int32) (k_a2 : ClassId) (h0 : Heap) (n0 : Nat) (Z0 : n0 ≤ h0.size) (V_a0 : Arv Z h0 a0 k_a0 .byte jj0 (mI l_a0) (.int (0 : Int32))) (hP_1 : (0 : Int32) < jj0) (V_a2 : Arv Z h0 a2 k_a2 .byte (1 : Int32) [(.int (34 : Int32))] (.int (0 : Int32))) (hP_3 : ¬ ((gI l_a0 (0 : Int32)) = (34 : Int32))) :
    MetN l Z yn_35 jdk_48_method_14_code 8 (some .int) ws ({ frames := 0, cells := 0, slots := 0, locals := 0 } : Room) #[(.ref a0), (.int (0 : Int32)), (.ref a2), (.int (0 : Int32)), (.int (1 : Int32))] h0 (Q_m35_27 Z a0 a2 k_a0 jj0 l_a0 k_a2 h0 n0) := by
 refine MetN.of (plainFor_of_name pn_7) ?_
 intro p e s m below meth c s₁ hret hx hby hml hown hnm hlk hZ X0 e0
 have N0 := Fr.nil n0
 rw [ef_m35_27 m a0 a2]
 refine w_iconst X0 hx (d35_0 hby) (v := (0 : Int32)) rfl (pq 1) ?_
 refine w_istore X0 hx (d35_1 hby) (L' := #[.val (.ref a0), .val (.int (0 : Int32)), .val (.ref a2), .val (.int (0 : Int32)), .val (.int (1 : Int32)), .val (.int (0 : Int32)), .unset, .unset]) rfl (pq 3) ?_
 refine w_iload X0 hx (d35_3 hby) rfl (pq 5) ?_
 refine w_bipush X0 hx (d35_5 hby) (v := (7 : Int32)) rfl (pq 7) ?_
 refine w_icY X0 hx (d35_7 hby) (flt (by decide : ¬ ((7 : Int32) < (1 : Int32)))).2.2.2 (pc' := 70) (by decide) (by decide) ?_
 refine w_iload X0 hx (d35_70 hby) rfl (pq 72) ?_
 refine w_iload X0 hx (d35_72 hby) rfl (pq 74) ?_
 refine w_icN X0 hx (d35_74 hby) (tlt (by decide : (0 : Int32) < (1 : Int32))).2.1 (pq 77) ?_
 refine w_aloadN X0 hx (d35_77 hby) rfl rfl (pq 78) ?_
 refine w_iloadN X0 hx (d35_78 hby) rfl (pq 79) ?_
 refine w_iload X0 hx (d35_79 hby) rfl (pq 81) ?_
 refine w_iadd X0 hx (d35_81 hby) (pq 82) ?_
 rw [show ((0 : Int32) + (0 : Int32)) = (0 : Int32) from by decide]
 obtain ⟨clu20, Aru20, qu20, Su20, Nu20, Hu20, Gu20⟩ := id V_a0
 have hinu20 := inb_of (j := (0 : Int32)) Su20 ⟨(by decide : ¬ ((0 : Int32) < (0 : Int32))), hP_1⟩
 refine w_baload X0 hx hZ e0 Aru20 hinu20 (Hu20.at hinu20 (own_gI l_a0 (0 : Int32))) (d35_82 hby) (pq 83) ?_
 refine w_aloadN X0 hx (d35_83 hby) rfl rfl (pq 84) ?_
 refine w_iloadN X0 hx (d35_84 hby) rfl (pq 85) ?_
 refine w_iload X0 hx (d35_85 hby) rfl (pq 87) ?_
 refine w_iadd X0 hx (d35_87 hby) (pq 88) ?_
 rw [show ((0 : Int32) + (0 : Int32)) = (0 : Int32) from by decide]
 obtain ⟨clu21, Aru21, qu21, Su21, Nu21, Hu21, Gu21⟩ := id V_a2
 have hinu21 := inb_of (j := (0 : Int32)) Su21 ⟨by decide, by decide⟩
 refine w_baload X0 hx hZ e0 Aru21 hinu21 (Hu21.at hinu21 rfl) (d35_88 hby) (pq 89) ?_
 refine w_icN X0 hx (d35_89 hby) (feq hP_3).1 (pq 92) ?_
 refine w_iload X0 hx (d35_92 hby) rfl (pq 94) ?_
 exact w_done X0 hlk (v := some (.int (0 : Int32))) e0 (fun h => by rw [hret] at h; cases h) (fun fs hr => retI X0 hx hret (d35_94 hby) hr) (by decide) (by decide) (⟨rfl, N0, rfl⟩)
theorem ef_m34_24 (m : MethodId) (a0 : Addr) (a1 : Addr)  : entryFrame m #[(.ref a0), (.ref a1), (.int (0 : Int32))] 8 = mkF m 0 #[.val (.ref a0), .val (.ref a1), .val (.int (0 : Int32)), .unset, .unset, .unset, .unset, .unset] [] := by first | (simp [entryFrame, mkF, argsToLocals, Value.category]; done) | rfl
def Q_m34_24 (Z : State) (a0 : Addr) (a1 : Addr) (jj0 : Addr) (jj1 : ClassId) (jj2 : Int32) (jj3 : List Int32) (jj4 : Int32) (jj5 : Addr) (jj6 : ClassId) (h0 : Heap) (n0 : Nat) (v : Option Value) (h : Heap) (L : List Loc) : Prop := v = some (.int (0 : Int32)) ∧ Fr n0 L ∧ h = h0
theorem rm_m34_24 (l : Launch) (Z : State) (aZ : Array Value) (hw : ∀ d ∈ tables_1, d.before aZ Z = true) (ws : List Jvm.Cond) (a0 : Addr) (a1 : Addr) (jj0 : Addr) (jj1 : ClassId) (jj2 : Int32) (jj3 : List Int32) (jj4 : Int32) (jj5 : Addr) (jj6 : ClassId) (h0 : Heap) (n0 : Nat) (Z0 : n0 ≤ h0.size) (E_a0 : Exa Z h0 a0 kc0) (zz7 : Fld Z h0 a0 kc0 "value" "[B" (.ref jj0)) (zz8 : Arv Z h0 jj0 jj1 .byte jj2 (mI jj3) (.int (0 : Int32))) (zz9 : Fld Z h0 a0 kc0 "coder" "B" (.int (0 : Int32))) (zz10 : Sta Z Z.heap kc0 "COMPACT_STRINGS" "Z" (.int jj4)) (O0 : Old Z n0 h0) (hP_6 : ¬ (jj4 = (0 : Int32))) (E_a1 : Exa Z h0 a1 kc0) (zz11 : Fld Z h0 a1 kc0 "value" "[B" (.ref jj5)) (zz12 : Arv Z h0 jj5 jj6 .byte (1 : Int32) [(.int (34 : Int32))] (.int (0 : Int32))) (zz13 : Fld Z h0 a1 kc0 "coder" "B" (.int (0 : Int32))) (zz14 : ¬ (((jj2 >>> ((0 : Int32) &&& 31)) - (1 : Int32)) < (0 : Int32))) (zz15 : (0 : Int32) < jj2) (zz16 : ¬ ((gI jj3 (0 : Int32)) = (34 : Int32))) :
    MetN l Z yn_34 jdk_42_method_75_code 8 (some .boolean) ws ({ frames := 2, cells := 0, slots := 0, locals := 27 } : Room) #[(.ref a0), (.ref a1), (.int (0 : Int32))] h0 (Q_m34_24 Z a0 a1 jj0 jj1 jj2 jj3 jj4 jj5 jj6 h0 n0) := by
 refine MetN.of (plainFor_of_name pn_3) ?_
 intro p e s m below meth c s₁ hret hx hby hml hown hnm hlk hZ X0 e0
 have N0 := Fr.nil n0
 rw [ef_m34_24 m a0 a1]
 refine w_iloadN X0 hx (d34_0 hby) rfl (pq 1) ?_
 refine w_ifN X0 hx (d34_1 hby) (flt (by decide : ¬ ((0 : Int32) < (0 : Int32)))).1 (pq 4) ?_
 refine w_iloadN X0 hx (d34_4 hby) rfl (pq 5) ?_
 refine w_aloadN X0 hx (d34_5 hby) rfl rfl (pq 6) ?_
 obtain ⟨cq20, kq20, q20a, q20b, q20c⟩ := isOf hZ e0 E_a0
 refine w_virtual X0 hx (y := yn_16) (z := yn_16) hown (mvT hZ (wd_105 hw)) (mvT hZ (wd_66 hw)) (notFace_of_selects (args := #[]) (mvT hZ (wd_68 hw))) (mvT hZ (wd_68 hw)) (mvT hZ (wd_67 hw)) (by decide) (backOf (W := 1) (rm_m16_25 l Z aZ hw [] a0 jj0 jj1 jj2 jj3 jj4 h0 n0 Z0 zz7 zz8 E_a0 zz10 O0 zz9 hP_6) hZ (wd_69 hw) (wd_23 hw) (by decide) (by decide)) q20a q20c (by rw [hml]; rfl) [] (lenOf pd_8 rfl) rfl (Nat.le_of_eq rfl) (d34_6 hby) (fun _ _ => ⟨rfl, e0, (by decide : 0 + 0 ≤ _), (by decide : 0 + 0 ≤ _)⟩) (pq 9) ?_
 rintro _ _ ⟨T20, L20, k20, n20⟩ X20 ⟨Lc20, hQ20, l20, y20, z20⟩
 dsimp only [Pt.U, Pt.locs, Pt.cells, Pt.slots] at X20 l20 y20 z20 hQ20 ⊢
 rw [l20, y20, z20] at X20
 obtain ⟨rfl, N20q, e20⟩ := hQ20
 have N21 := Fr.app N0 N20q
 show Runs _ _ _ _ (T20.setTop (mkF m 9 _ [(.int (jj2 >>> ((0 : Int32) &&& 31))), (.int (0 : Int32))]))
 refine w_aloadN X20 hx (d34_9 hby) rfl rfl (pq 10) ?_
 obtain ⟨cq22, kq22, q22a, q22b, q22c⟩ := isOf hZ e20 E_a1
 refine w_virtual X20 hx (y := yn_16) (z := yn_16) hown (mvT hZ (wd_105 hw)) (mvT hZ (wd_66 hw)) (notFace_of_selects (args := #[]) (mvT hZ (wd_68 hw))) (mvT hZ (wd_68 hw)) (mvT hZ (wd_67 hw)) (by decide) (backOf (W := 2) (rm_m16_26 l Z aZ hw [] a1 jj5 jj6 jj4 h0 n0 Z0 zz11 zz12 E_a1 zz10 O0 zz13 hP_6) hZ (wd_69 hw) (wd_23 hw) (by decide) (by decide)) q22a q22c (by rw [hml]; rfl) [] (lenOf pd_8 rfl) rfl (Nat.le_of_eq rfl) (d34_10 hby) (fun _ _ => ⟨rfl, e20, (by decide : 0 + 0 ≤ _), (by decide : 0 + 0 ≤ _)⟩) (pq 13) ?_
 rintro _ _ ⟨T22, L22, k22, n22⟩ X22 ⟨Lc22, hQ22, l22, y22, z22⟩
 dsimp only [Pt.U, Pt.locs, Pt.cells, Pt.slots] at X22 l22 y22 z22 hQ22 ⊢
 rw [l22, y22, z22] at X22
 obtain ⟨rfl, N22q, e22⟩ := hQ22
 have N23 := Fr.app N21 N22q
 show Runs _ _ _ _ (T22.setTop (mkF m 13 _ [(.int (1 : Int32)), (.int (jj2 >>> ((0 : Int32) &&& 31))), (.int (0 : Int32))]))
 refine w_isub X22 hx (d34_13 hby) (pq 14) ?_
 refine w_icY X22 hx (d34_14 hby) (flt zz14).2.2.2 (pc' := 19) (by decide) (by decide) ?_
 refine w_aloadN X22 hx (d34_19 hby) rfl rfl (pq 20) ?_
 refine w_getF X22 hx "" hZ hown (Or.inl (wd_48 hw)) Via.refl e22 zz7 (d34_20 hby) (pq 23) ?_
 intro T24 X24 e24
 refine w_astoreN X24 hx (d34_23 hby) rfl (L' := #[.val (.ref a0), .val (.ref a1), .val (.int (0 : Int32)), .val (.ref jj0), .unset, .unset, .unset, .unset]) rfl (pq 24) ?_
 refine w_aloadN X24 hx (d34_24 hby) rfl rfl (pq 25) ?_
 refine w_getF X24 hx "" hZ hown (Or.inl (wd_48 hw)) Via.refl e24 zz11 (d34_25 hby) (pq 28) ?_
 intro T25 X25 e25
 refine w_astore X25 hx (d34_28 hby) rfl (L' := #[.val (.ref a0), .val (.ref a1), .val (.int (0 : Int32)), .val (.ref jj0), .val (.ref jj5), .unset, .unset, .unset]) rfl (pq 30) ?_
 refine w_iconst X25 hx (d34_30 hby) (v := (0 : Int32)) rfl (pq 31) ?_
 refine w_istore X25 hx (d34_31 hby) (L' := #[.val (.ref a0), .val (.ref a1), .val (.int (0 : Int32)), .val (.ref jj0), .val (.ref jj5), .val (.int (0 : Int32)), .unset, .unset]) rfl (pq 33) ?_
 refine w_aload X25 hx (d34_33 hby) rfl rfl (pq 35) ?_
 refine w_alen X25 hx hZ e25 zz12 (d34_35 hby) (pq 36) ?_
 refine w_istore X25 hx (d34_36 hby) (L' := #[.val (.ref a0), .val (.ref a1), .val (.int (0 : Int32)), .val (.ref jj0), .val (.ref jj5), .val (.int (0 : Int32)), .val (.int (1 : Int32)), .unset]) rfl (pq 38) ?_
 refine w_aloadN X25 hx (d34_38 hby) rfl rfl (pq 39) ?_
 obtain ⟨cq26, kq26, q26a, q26b, q26c⟩ := isOf hZ e25 E_a0
 refine w_virtual X25 hx (y := yn_17) (z := yn_17) hown (mvT hZ (wd_70 hw)) (mvT hZ (wd_71 hw)) (notFace_of_selects (args := #[]) (mvT hZ (wd_73 hw))) (mvT hZ (wd_73 hw)) (mvT hZ (wd_72 hw)) (by decide) (backOf (W := 0) (rm_m17_5 l Z aZ hw [] a0 jj4 h0 n0 Z0 zz10 O0 hP_6 zz9) hZ (wd_74 hw) (wd_23 hw) (by decide) (by decide)) q26a q26c (by rw [hml]; rfl) [] (lenOf pd_7 rfl) rfl (Nat.le_of_eq rfl) (d34_39 hby) (fun _ _ => ⟨rfl, e25, (by decide : 0 + 0 ≤ _), (by decide : 0 + 0 ≤ _)⟩) (pq 42) ?_
 rintro _ _ ⟨T26, L26, k26, n26⟩ X26 ⟨Lc26, hQ26, l26, y26, z26⟩
 dsimp only [Pt.U, Pt.locs, Pt.cells, Pt.slots] at X26 l26 y26 z26 hQ26 ⊢
 rw [l26, y26, z26] at X26
 obtain ⟨rfl, N26q, e26⟩ := hQ26
 have N27 := Fr.app N23 N26q
 show Runs _ _ _ _ (T26.setTop (mkF m 42 _ [(.int (0 : Int32))]))
 refine w_istore X26 hx (d34_42 hby) (L' := #[.val (.ref a0), .val (.ref a1), .val (.int (0 : Int32)), .val (.ref jj0), .val (.ref jj5), .val (.int (0 : Int32)), .val (.int (1 : Int32)), .val (.int (0 : Int32))]) rfl (pq 44) ?_
 refine w_iload X26 hx (d34_44 hby) rfl (pq 46) ?_
 refine w_aloadN X26 hx (d34_46 hby) rfl rfl (pq 47) ?_
 obtain ⟨cq28, kq28, q28a, q28b, q28c⟩ := isOf hZ e26 E_a1
 refine w_virtual X26 hx (y := yn_17) (z := yn_17) hown (mvT hZ (wd_70 hw)) (mvT hZ (wd_71 hw)) (notFace_of_selects (args := #[]) (mvT hZ (wd_73 hw))) (mvT hZ (wd_73 hw)) (mvT hZ (wd_72 hw)) (by decide) (backOf (W := 1) (rm_m17_5 l Z aZ hw [] a1 jj4 h0 n0 Z0 zz10 O0 hP_6 zz13) hZ (wd_74 hw) (wd_23 hw) (by decide) (by decide)) q28a q28c (by rw [hml]; rfl) [] (lenOf pd_7 rfl) rfl (Nat.le_of_eq rfl) (d34_47 hby) (fun _ _ => ⟨rfl, e26, (by decide : 0 + 0 ≤ _), (by decide : 0 + 0 ≤ _)⟩) (pq 50) ?_
 rintro _ _ ⟨T28, L28, k28, n28⟩ X28 ⟨Lc28, hQ28, l28, y28, z28⟩
 dsimp only [Pt.U, Pt.locs, Pt.cells, Pt.slots] at X28 l28 y28 z28 hQ28 ⊢
 rw [l28, y28, z28] at X28
 obtain ⟨rfl, N28q, e28⟩ := hQ28
 have N29 := Fr.app N27 N28q
 show Runs _ _ _ _ (T28.setTop (mkF m 50 _ [(.int (0 : Int32)), (.int (0 : Int32))]))
 refine w_icN X28 hx (d34_50 hby) (teq (by decide : (0 : Int32) = (0 : Int32))).2 (pq 53) ?_
 refine w_iload X28 hx (d34_53 hby) rfl (pq 55) ?_
 refine w_iconst X28 hx (d34_55 hby) (v := (1 : Int32)) rfl (pq 56) ?_
 refine w_icY X28 hx (d34_56 hby) (feq (by decide : ¬ ((0 : Int32) = (1 : Int32)))).2 (pc' := 63) (by decide) (by decide) ?_
 refine w_aloadN X28 hx (d34_63 hby) rfl rfl (pq 64) ?_
 refine w_iloadN X28 hx (d34_64 hby) rfl (pq 65) ?_
 refine w_aload X28 hx (d34_65 hby) rfl rfl (pq 67) ?_
 refine w_iconst X28 hx (d34_67 hby) (v := (0 : Int32)) rfl (pq 68) ?_
 refine w_iload X28 hx (d34_68 hby) rfl (pq 70) ?_
 refine w_static X28 hx (y := yn_35) hown (mvT hZ (wd_148 hw)) (mvT hZ (wd_149 hw)) (mvT hZ (wd_150 hw)) (mvT hZ (wd_151 hw)) (by decide) (backOf (W := 0) (rm_m35_27 l Z aZ hw [] jj0 jj5 jj1 jj2 jj3 jj6 h0 n0 Z0 zz8 zz15 zz12 zz16) hZ (wd_151 hw) (wd_150 hw) (by decide) (by decide)) (by rw [hml]; rfl) [(.ref jj0), (.int (0 : Int32)), (.ref jj5), (.int (0 : Int32)), (.int (1 : Int32))] (lenOf pd_21 rfl) rfl (Nat.le_of_eq rfl) (d34_70 hby) (fun _ _ => ⟨rfl, e28, (by decide : 0 + 0 ≤ _), (by decide : 0 + 0 ≤ _)⟩) (pq 73) ?_
 rintro _ _ ⟨T30, L30, k30, n30⟩ X30 ⟨Lc30, hQ30, l30, y30, z30⟩
 dsimp only [Pt.U, Pt.locs, Pt.cells, Pt.slots] at X30 l30 y30 z30 hQ30 ⊢
 rw [l30, y30, z30] at X30
 obtain ⟨rfl, N30q, e30⟩ := hQ30
 have N31 := Fr.app N29 N30q
 show Runs _ _ _ _ (T30.setTop (mkF m 73 _ [(.int (0 : Int32))]))
 refine w_ifY X30 hx (d34_73 hby) (flt (by decide : ¬ ((0 : Int32) < (0 : Int32)))).2.1 (pc' := 80) (by decide) (by decide) ?_
 refine w_iconst X30 hx (d34_80 hby) (v := (0 : Int32)) rfl (pq 81) ?_
 exact w_done X30 hlk (v := some (.int (0 : Int32))) e30 (fun h => by rw [hret] at h; cases h) (fun fs hr => retN X30 hx (t := .boolean) hret (by simp) (d34_81 hby) hr) (by decide) (by decide) (⟨rfl, N31, rfl⟩)
theorem ef_m33_23 (m : MethodId) (a0 : Addr) (a1 : Addr)  : entryFrame m #[(.ref a0), (.ref a1)] 2 = mkF m 0 #[.val (.ref a0), .val (.ref a1)] [] := by first | (simp [entryFrame, mkF, argsToLocals, Value.category]; done) | rfl
def Q_m33_23 (Z : State) (a0 : Addr) (a1 : Addr) (jj0 : Addr) (jj1 : ClassId) (jj2 : Int32) (jj3 : List Int32) (jj4 : Addr) (jj5 : ClassId) (jj6 : Int32) (h0 : Heap) (n0 : Nat) (v : Option Value) (h : Heap) (L : List Loc) : Prop := v = some (.int (0 : Int32)) ∧ Fr n0 L ∧ h = h0
theorem rm_m33_23 (l : Launch) (Z : State) (aZ : Array Value) (hw : ∀ d ∈ tables_1, d.before aZ Z = true) (ws : List Jvm.Cond) (a0 : Addr) (a1 : Addr) (jj0 : Addr) (jj1 : ClassId) (jj2 : Int32) (jj3 : List Int32) (jj4 : Addr) (jj5 : ClassId) (jj6 : Int32) (h0 : Heap) (n0 : Nat) (Z0 : n0 ≤ h0.size) (E_a0 : Exa Z h0 a0 kc0) (zz7 : Fld Z h0 a0 kc0 "value" "[B" (.ref jj0)) (zz8 : Arv Z h0 jj0 jj1 .byte jj2 (mI jj3) (.int (0 : Int32))) (zz9 : Fld Z h0 a0 kc0 "coder" "B" (.int (0 : Int32))) (E_a1 : Exa Z h0 a1 kc0) (zz10 : Fld Z h0 a1 kc0 "value" "[B" (.ref jj4)) (zz11 : Arv Z h0 jj4 jj5 .byte (1 : Int32) [(.int (34 : Int32))] (.int (0 : Int32))) (zz12 : Fld Z h0 a1 kc0 "coder" "B" (.int (0 : Int32))) (hP_8 : ¬ (((jj2 >>> ((0 : Int32) &&& 31)) - (1 : Int32)) < (0 : Int32))) (hP_9 : (0 : Int32) < jj2) (zz13 : ¬ ((gI jj3 (0 : Int32)) = (34 : Int32))) (zz14 : Sta Z Z.heap kc0 "COMPACT_STRINGS" "Z" (.int jj6)) (O0 : Old Z n0 h0) (zz15 : ¬ (jj6 = (0 : Int32))) :
    MetN l Z yn_33 jdk_42_method_76_code 2 (some .boolean) ws ({ frames := 3, cells := 0, slots := 0, locals := 46 } : Room) #[(.ref a0), (.ref a1)] h0 (Q_m33_23 Z a0 a1 jj0 jj1 jj2 jj3 jj4 jj5 jj6 h0 n0) := by
 refine MetN.of (plainFor_of_name pn_3) ?_
 intro p e s m below meth c s₁ hret hx hby hml hown hnm hlk hZ X0 e0
 have N0 := Fr.nil n0
 rw [ef_m33_23 m a0 a1]
 refine w_aloadN X0 hx (d33_0 hby) rfl rfl (pq 1) ?_
 refine w_aloadN X0 hx (d33_1 hby) rfl rfl (pq 2) ?_
 refine w_iconst X0 hx (d33_2 hby) (v := (0 : Int32)) rfl (pq 3) ?_
 obtain ⟨cq20, kq20, q20a, q20b, q20c⟩ := isOf hZ e0 E_a0
 refine w_virtual X0 hx (y := yn_34) (z := yn_34) hown (mvT hZ (wd_143 hw)) (mvT hZ (wd_144 hw)) (notFace_of_selects (args := #[]) (mvT hZ (wd_146 hw))) (mvT hZ (wd_146 hw)) (mvT hZ (wd_145 hw)) (by decide) (backOf (W := 0) (rm_m34_24 l Z aZ hw [] a0 a1 jj0 jj1 jj2 jj3 jj6 jj4 jj5 h0 n0 Z0 E_a0 zz7 zz8 zz9 zz14 O0 zz15 E_a1 zz10 zz11 zz12 hP_8 hP_9 zz13) hZ (wd_147 hw) (wd_23 hw) (by decide) (by decide)) q20a q20c (by rw [hml]; rfl) [(.ref a1), (.int (0 : Int32))] (lenOf pd_22 rfl) rfl (Nat.le_of_eq rfl) (d33_3 hby) (fun _ _ => ⟨rfl, e0, (by decide : 0 + 0 ≤ _), (by decide : 0 + 0 ≤ _)⟩) (pq 6) ?_
 rintro _ _ ⟨T20, L20, k20, n20⟩ X20 ⟨Lc20, hQ20, l20, y20, z20⟩
 dsimp only [Pt.U, Pt.locs, Pt.cells, Pt.slots] at X20 l20 y20 z20 hQ20 ⊢
 rw [l20, y20, z20] at X20
 obtain ⟨rfl, N20q, e20⟩ := hQ20
 have N21 := Fr.app N0 N20q
 show Runs _ _ _ _ (T20.setTop (mkF m 6 _ [(.int (0 : Int32))]))
 exact w_done X20 hlk (v := some (.int (0 : Int32))) e20 (fun h => by rw [hret] at h; cases h) (fun fs hr => retN X20 hx (t := .boolean) hret (by simp) (d33_6 hby) hr) (by decide) (by decide) (⟨rfl, N21, rfl⟩)
theorem ef_m22_32 (m : MethodId) (p1 : Int32) (v2 : Value) (r_v2 : v2.isRef = true) : entryFrame m #[(.int (0 : Int32)), (.int p1), v2] 3 = mkF m 0 #[.val (.int (0 : Int32)), .val (.int p1), .val v2] [] := by
  rcases XT.refc r_v2 with rfl | ⟨z_v2, rfl⟩ <;> first | (simp [entryFrame, mkF, argsToLocals, Value.category]; done) | rfl
def Q_m22_32 (Z : State) (p1 : Int32) (v2 : Value) (h0 : Heap) (n0 : Nat) (v : Option Value) (h : Heap) (L : List Loc) : Prop := v = some (.int (0 : Int32)) ∧ Fr n0 L ∧ h = h0
theorem rm_m22_32 (l : Launch) (Z : State) (aZ : Array Value) (hw : ∀ d ∈ tables_1, d.before aZ Z = true) (ws : List Jvm.Cond) (p1 : Int32) (v2 : Value) (h0 : Heap) (n0 : Nat) (Z0 : n0 ≤ h0.size) (r_v2 : v2.isRef = true) (hP_1 : (0 : Int32) < p1) :
    MetN l Z yn_22 jdk_41_method_11_code 3 (some .int) ws ({ frames := 0, cells := 0, slots := 0, locals := 0 } : Room) #[(.int (0 : Int32)), (.int p1), v2] h0 (Q_m22_32 Z p1 v2 h0 n0) := by
 refine MetN.of (plainFor_of_name pn_4) ?_
 intro p e s m below meth c s₁ hret hx hby hml hown hnm hlk hZ X0 e0
 have N0 := Fr.nil n0
 rw [ef_m22_32 m p1 v2 r_v2]
 refine w_iloadN X0 hx (d22_0 hby) rfl (pq 1) ?_
 refine w_ifN X0 hx (d22_1 hby) (flt (by decide : ¬ ((0 : Int32) < (0 : Int32)))).1 (pq 4) ?_
 refine w_iloadN X0 hx (d22_4 hby) rfl (pq 5) ?_
 refine w_iloadN X0 hx (d22_5 hby) rfl (pq 6) ?_
 refine w_icY X0 hx (d22_6 hby) (tlt hP_1).1 (pc' := 16) (by decide) (by decide) ?_
 refine w_iloadN X0 hx (d22_16 hby) rfl (pq 17) ?_
 exact w_done X0 hlk (v := some (.int (0 : Int32))) e0 (fun h => by rw [hret] at h; cases h) (fun fs hr => retI X0 hx hret (d22_17 hby) hr) (by decide) (by decide) (⟨rfl, N0, rfl⟩)
theorem ef_m21_31 (m : MethodId) (p1 : Int32)  : entryFrame m #[(.int (0 : Int32)), (.int p1)] 2 = mkF m 0 #[.val (.int (0 : Int32)), .val (.int p1)] [] := by first | (simp [entryFrame, mkF, argsToLocals, Value.category]; done) | rfl
def Q_m21_31 (Z : State) (p1 : Int32) (jj0 : Value) (h0 : Heap) (n0 : Nat) (v : Option Value) (h : Heap) (L : List Loc) : Prop := v = none ∧ Fr n0 L ∧ h = h0
theorem rm_m21_31 (l : Launch) (Z : State) (aZ : Array Value) (hw : ∀ d ∈ tables_1, d.before aZ Z = true) (ws : List Jvm.Cond) (p1 : Int32) (jj0 : Value) (h0 : Heap) (n0 : Nat) (Z0 : n0 ≤ h0.size) (zz1 : jj0.isRef = true) (zz2 : Sta Z Z.heap kc3 "SIOOBE_FORMATTER" "Ljava/util/function/BiFunction;" jj0) (O0 : Old Z n0 h0) (hP_3 : (0 : Int32) < p1) :
    MetN l Z yn_21 jdk_42_method_155_code 2 none ws ({ frames := 1, cells := 0, slots := 0, locals := 14 } : Room) #[(.int (0 : Int32)), (.int p1)] h0 (Q_m21_31 Z p1 jj0 h0 n0) := by
 refine MetN.of (plainFor_of_name pn_3) ?_
 intro p e s m below meth c s₁ hret hx hby hml hown hnm hlk hZ X0 e0
 have N0 := Fr.nil n0
 rw [ef_m21_31 m p1]
 refine w_iloadN X0 hx (d21_0 hby) rfl (pq 1) ?_
 refine w_iloadN X0 hx (d21_1 hby) rfl (pq 2) ?_
 refine w_getS X0 hx "" hZ hown (Or.inl (wd_92 hw)) Via.refl e0 (zz2.ext O0.2) (d21_2 hby) (pq 5) ?_
 intro T20 X20 e20
 refine w_static X20 hx (y := yn_22) hown (mvT hZ (wd_94 hw)) (mvT hZ (wd_95 hw)) (mvT hZ (wd_93 hw)) (mvT hZ (wd_96 hw)) (by decide) (backOf (W := 0) (rm_m22_32 l Z aZ hw [] p1 jj0 h0 n0 Z0 zz1 hP_3) hZ (wd_96 hw) (wd_93 hw) (by decide) (by decide)) (by rw [hml]; rfl) [(.int (0 : Int32)), (.int p1), jj0] (lenOf pd_10 rfl) rfl (Nat.le_of_eq rfl) (d21_5 hby) (fun _ _ => ⟨rfl, e20, (by decide : 0 + 0 ≤ _), (by decide : 0 + 0 ≤ _)⟩) (pq 8) ?_
 rintro _ _ ⟨T21, L21, k21, n21⟩ X21 ⟨Lc21, hQ21, l21, y21, z21⟩
 dsimp only [Pt.U, Pt.locs, Pt.cells, Pt.slots] at X21 l21 y21 z21 hQ21 ⊢
 rw [l21, y21, z21] at X21
 obtain ⟨rfl, N21q, e21⟩ := hQ21
 have N22 := Fr.app N0 N21q
 show Runs _ _ _ _ (T21.setTop (mkF m 8 _ [(.int (0 : Int32))]))
 refine w_pop X21 hx (d21_8 hby) rfl (pq 9) ?_
 exact w_done X21 hlk (v := none) e21 (fun _ => rfl) (fun fs hr => X21.returnOut hx hret (d21_9 hby) hr) (by decide) (by decide) (⟨rfl, N22, rfl⟩)
theorem ef_m20_30 (m : MethodId) (a0 : Addr)  : entryFrame m #[(.ref a0), (.int (0 : Int32))] 2 = mkF m 0 #[.val (.ref a0), .val (.int (0 : Int32))] [] := by first | (simp [entryFrame, mkF, argsToLocals, Value.category]; done) | rfl
def Q_m20_30 (Z : State) (a0 : Addr) (k_a0 : ClassId) (jj0 : Int32) (l_a0 : List Int32) (jj1 : Value) (h0 : Heap) (n0 : Nat) (v : Option Value) (h : Heap) (L : List Loc) : Prop := v = some (.int (((gI l_a0 (0 : Int32)) &&& (255 : Int32)).toUInt32.toUInt16.toUInt32.toInt32)) ∧ Fr n0 L ∧ h = h0
theorem rm_m20_30 (l : Launch) (Z : State) (aZ : Array Value) (hw : ∀ d ∈ tables_1, d.before aZ Z = true) (ws : List Jvm.Cond) (a0 : Addr) (k_a0 : ClassId) (jj0 : Int32) (l_a0 : List Int32) (jj1 : Value) (h0 : Heap) (n0 : Nat) (Z0 : n0 ≤ h0.size) (V_a0 : Arv Z h0 a0 k_a0 .byte jj0 (mI l_a0) (.int (0 : Int32))) (hP_1 : (0 : Int32) < jj0) (zz2 : jj1.isRef = true) (zz3 : Sta Z Z.heap kc3 "SIOOBE_FORMATTER" "Ljava/util/function/BiFunction;" jj1) (O0 : Old Z n0 h0) :
    MetN l Z yn_20 jdk_43_method_2_code 2 (some .char) ws ({ frames := 2, cells := 0, slots := 0, locals := 27 } : Room) #[(.ref a0), (.int (0 : Int32))] h0 (Q_m20_30 Z a0 k_a0 jj0 l_a0 jj1 h0 n0) := by
 refine MetN.of (plainFor_of_name pn_5) ?_
 intro p e s m below meth c s₁ hret hx hby hml hown hnm hlk hZ X0 e0
 have N0 := Fr.nil n0
 rw [ef_m20_30 m a0]
 refine w_iloadN X0 hx (d20_0 hby) rfl (pq 1) ?_
 refine w_aloadN X0 hx (d20_1 hby) rfl rfl (pq 2) ?_
 refine w_alen X0 hx hZ e0 V_a0 (d20_2 hby) (pq 3) ?_
 refine w_static X0 hx (y := yn_21) hown (mvT hZ (wd_89 hw)) (mvT hZ (wd_90 hw)) (mvT hZ (wd_23 hw)) (mvT hZ (wd_91 hw)) (by decide) (backOf (W := 0) (rm_m21_31 l Z aZ hw [] jj0 jj1 h0 n0 Z0 zz2 zz3 O0 hP_1) hZ (wd_91 hw) (wd_23 hw) (by decide) (by decide)) (by rw [hml]; rfl) [(.int (0 : Int32)), (.int jj0)] (lenOf pd_11 rfl) rfl (Nat.le_of_eq rfl) (d20_3 hby) (fun _ _ => ⟨rfl, e0, (by decide : 0 + 0 ≤ _), (by decide : 0 + 0 ≤ _)⟩) (pq 6) ?_
 rintro _ _ ⟨T20, L20, k20, n20⟩ X20 ⟨Lc20, hQ20, l20, y20, z20⟩
 dsimp only [Pt.U, Pt.locs, Pt.cells, Pt.slots] at X20 l20 y20 z20 hQ20 ⊢
 rw [l20, y20, z20] at X20
 obtain ⟨rfl, N20q, e20⟩ := hQ20
 have N21 := Fr.app N0 N20q
 show Runs _ _ _ _ (T20.setTop (mkF m 6 _ []))
 refine w_aloadN X20 hx (d20_6 hby) rfl rfl (pq 7) ?_
 refine w_iloadN X20 hx (d20_7 hby) rfl (pq 8) ?_
 obtain ⟨clu22, Aru22, qu22, Su22, Nu22, Hu22, Gu22⟩ := id V_a0
 have hinu22 := inb_of (j := (0 : Int32)) Su22 ⟨(by decide : ¬ ((0 : Int32) < (0 : Int32))), hP_1⟩
 refine w_baload X20 hx hZ e20 Aru22 hinu22 (Hu22.at hinu22 (own_gI l_a0 (0 : Int32))) (d20_8 hby) (pq 9) ?_
 refine w_sipush X20 hx (d20_9 hby) (v := (255 : Int32)) rfl (pq 12) ?_
 refine w_iand X20 hx (d20_12 hby) (pq 13) ?_
 refine w_i2c X20 hx (d20_13 hby) (pq 14) ?_
 exact w_done X20 hlk (v := some (.int (((gI l_a0 (0 : Int32)) &&& (255 : Int32)).toUInt32.toUInt16.toUInt32.toInt32))) e20 (fun h => by rw [hret] at h; cases h) (fun fs hr => retOut X20 hx hret (t := .char) (XT.narrow_c _) (Or.inl ⟨rfl, by simp, _, rfl⟩) (d20_14 hby) hr) (by decide) (by decide) (⟨rfl, N21, rfl⟩)
theorem ef_m18_29 (m : MethodId) (a0 : Addr)  : entryFrame m #[(.ref a0), (.int (0 : Int32))] 2 = mkF m 0 #[.val (.ref a0), .val (.int (0 : Int32))] [] := by first | (simp [entryFrame, mkF, argsToLocals, Value.category]; done) | rfl
def Q_m18_29 (Z : State) (a0 : Addr) (jj0 : Int32) (jj1 : Addr) (jj2 : ClassId) (jj3 : Int32) (jj4 : List Int32) (jj5 : Value) (h0 : Heap) (n0 : Nat) (v : Option Value) (h : Heap) (L : List Loc) : Prop := v = some (.int (((gI jj4 (0 : Int32)) &&& (255 : Int32)).toUInt32.toUInt16.toUInt32.toInt32)) ∧ Fr n0 L ∧ h = h0
theorem rm_m18_29 (l : Launch) (Z : State) (aZ : Array Value) (hw : ∀ d ∈ tables_1, d.before aZ Z = true) (ws : List Jvm.Cond) (a0 : Addr) (jj0 : Int32) (jj1 : Addr) (jj2 : ClassId) (jj3 : Int32) (jj4 : List Int32) (jj5 : Value) (h0 : Heap) (n0 : Nat) (Z0 : n0 ≤ h0.size) (E_a0 : Exa Z h0 a0 kc0) (zz6 : Sta Z Z.heap kc0 "COMPACT_STRINGS" "Z" (.int jj0)) (O0 : Old Z n0 h0) (zz7 : Fld Z h0 a0 kc0 "coder" "B" (.int (0 : Int32))) (hP_4 : ¬ (jj0 = (0 : Int32))) (zz8 : Fld Z h0 a0 kc0 "value" "[B" (.ref jj1)) (zz9 : Arv Z h0 jj1 jj2 .byte jj3 (mI jj4) (.int (0 : Int32))) (hP_7 : (0 : Int32) < jj3) (zz10 : jj5.isRef = true) (zz11 : Sta Z Z.heap kc3 "SIOOBE_FORMATTER" "Ljava/util/function/BiFunction;" jj5) :
    MetN l Z yn_18 jdk_42_method_56_code 2 (some .char) ws ({ frames := 3, cells := 0, slots := 0, locals := 40 } : Room) #[(.ref a0), (.int (0 : Int32))] h0 (Q_m18_29 Z a0 jj0 jj1 jj2 jj3 jj4 jj5 h0 n0) := by
 refine MetN.of (plainFor_of_name pn_3) ?_
 intro p e s m below meth c s₁ hret hx hby hml hown hnm hlk hZ X0 e0
 have N0 := Fr.nil n0
 rw [ef_m18_29 m a0]
 refine w_aloadN X0 hx (d18_0 hby) rfl rfl (pq 1) ?_
 obtain ⟨cq20, kq20, q20a, q20b, q20c⟩ := isOf hZ e0 E_a0
 refine w_virtual X0 hx (y := yn_19) (z := yn_19) hown (mvT hZ (wd_80 hw)) (mvT hZ (wd_81 hw)) (notFace_of_selects (args := #[]) (mvT hZ (wd_83 hw))) (mvT hZ (wd_83 hw)) (mvT hZ (wd_82 hw)) (by decide) (backOf (W := 0) (rm_m19_7 l Z aZ hw [] a0 jj0 h0 n0 Z0 zz6 O0 hP_4 zz7) hZ (wd_84 hw) (wd_23 hw) (by decide) (by decide)) q20a q20c (by rw [hml]; rfl) [] (lenOf pd_9 rfl) rfl (Nat.le_of_eq rfl) (d18_1 hby) (fun _ _ => ⟨rfl, e0, (by decide : 0 + 0 ≤ _), (by decide : 0 + 0 ≤ _)⟩) (pq 4) ?_
 rintro _ _ ⟨T20, L20, k20, n20⟩ X20 ⟨Lc20, hQ20, l20, y20, z20⟩
 dsimp only [Pt.U, Pt.locs, Pt.cells, Pt.slots] at X20 l20 y20 z20 hQ20 ⊢
 rw [l20, y20, z20] at X20
 obtain ⟨rfl, N20q, e20⟩ := hQ20
 have N21 := Fr.app N0 N20q
 show Runs _ _ _ _ (T20.setTop (mkF m 4 _ [(.int (1 : Int32))]))
 refine w_ifN X20 hx (d18_4 hby) (feq (by decide : ¬ ((1 : Int32) = (0 : Int32)))).1 (pq 7) ?_
 refine w_aloadN X20 hx (d18_7 hby) rfl rfl (pq 8) ?_
 refine w_getF X20 hx "" hZ hown (Or.inl (wd_48 hw)) Via.refl e20 zz8 (d18_8 hby) (pq 11) ?_
 intro T22 X22 e22
 refine w_iloadN X22 hx (d18_11 hby) rfl (pq 12) ?_
 refine w_static X22 hx (y := yn_20) hown (mvT hZ (wd_85 hw)) (mvT hZ (wd_86 hw)) (mvT hZ (wd_87 hw)) (mvT hZ (wd_88 hw)) (by decide) (backOf (W := 0) (rm_m20_30 l Z aZ hw [] jj1 jj2 jj3 jj4 jj5 h0 n0 Z0 zz9 hP_7 zz10 zz11 O0) hZ (wd_88 hw) (wd_87 hw) (by decide) (by decide)) (by rw [hml]; rfl) [(.ref jj1), (.int (0 : Int32))] (lenOf pd_12 rfl) rfl (Nat.le_of_eq rfl) (d18_12 hby) (fun _ _ => ⟨rfl, e22, (by decide : 0 + 0 ≤ _), (by decide : 0 + 0 ≤ _)⟩) (pq 15) ?_
 rintro _ _ ⟨T23, L23, k23, n23⟩ X23 ⟨Lc23, hQ23, l23, y23, z23⟩
 dsimp only [Pt.U, Pt.locs, Pt.cells, Pt.slots] at X23 l23 y23 z23 hQ23 ⊢
 rw [l23, y23, z23] at X23
 obtain ⟨rfl, N23q, e23⟩ := hQ23
 have N24 := Fr.app N21 N23q
 show Runs _ _ _ _ (T23.setTop (mkF m 15 _ [(.int (((gI jj4 (0 : Int32)) &&& (255 : Int32)).toUInt32.toUInt16.toUInt32.toInt32))]))
 exact w_done X23 hlk (v := some (.int (((gI jj4 (0 : Int32)) &&& (255 : Int32)).toUInt32.toUInt16.toUInt32.toInt32))) e23 (fun h => by rw [hret] at h; cases h) (fun fs hr => retOut X23 hx hret (t := .char) (XT.narrow_c _) (Or.inl ⟨rfl, by simp, _, rfl⟩) (d18_15 hby) hr) (by decide) (by decide) (⟨rfl, N24, rfl⟩)
theorem ef_m22_36 (m : MethodId) (p1 : Int32) (v2 : Value) (r_v2 : v2.isRef = true) : entryFrame m #[(.int (1 : Int32)), (.int p1), v2] 3 = mkF m 0 #[.val (.int (1 : Int32)), .val (.int p1), .val v2] [] := by
  rcases XT.refc r_v2 with rfl | ⟨z_v2, rfl⟩ <;> first | (simp [entryFrame, mkF, argsToLocals, Value.category]; done) | rfl
def Q_m22_36 (Z : State) (p1 : Int32) (v2 : Value) (h0 : Heap) (n0 : Nat) (v : Option Value) (h : Heap) (L : List Loc) : Prop := v = some (.int (1 : Int32)) ∧ Fr n0 L ∧ h = h0
theorem rm_m22_36 (l : Launch) (Z : State) (aZ : Array Value) (hw : ∀ d ∈ tables_1, d.before aZ Z = true) (ws : List Jvm.Cond) (p1 : Int32) (v2 : Value) (h0 : Heap) (n0 : Nat) (Z0 : n0 ≤ h0.size) (r_v2 : v2.isRef = true) (hP_1 : (1 : Int32) < p1) :
    MetN l Z yn_22 jdk_41_method_11_code 3 (some .int) ws ({ frames := 0, cells := 0, slots := 0, locals := 0 } : Room) #[(.int (1 : Int32)), (.int p1), v2] h0 (Q_m22_36 Z p1 v2 h0 n0) := by
 refine MetN.of (plainFor_of_name pn_4) ?_
 intro p e s m below meth c s₁ hret hx hby hml hown hnm hlk hZ X0 e0
 have N0 := Fr.nil n0
 rw [ef_m22_36 m p1 v2 r_v2]
 refine w_iloadN X0 hx (d22_0 hby) rfl (pq 1) ?_
 refine w_ifN X0 hx (d22_1 hby) (flt (by decide : ¬ ((1 : Int32) < (0 : Int32)))).1 (pq 4) ?_
 refine w_iloadN X0 hx (d22_4 hby) rfl (pq 5) ?_
 refine w_iloadN X0 hx (d22_5 hby) rfl (pq 6) ?_
 refine w_icY X0 hx (d22_6 hby) (tlt hP_1).1 (pc' := 16) (by decide) (by decide) ?_
 refine w_iloadN X0 hx (d22_16 hby) rfl (pq 17) ?_
 exact w_done X0 hlk (v := some (.int (1 : Int32))) e0 (fun h => by rw [hret] at h; cases h) (fun fs hr => retI X0 hx hret (d22_17 hby) hr) (by decide) (by decide) (⟨rfl, N0, rfl⟩)
theorem ef_m21_35 (m : MethodId) (p1 : Int32)  : entryFrame m #[(.int (1 : Int32)), (.int p1)] 2 = mkF m 0 #[.val (.int (1 : Int32)), .val (.int p1)] [] := by first | (simp [entryFrame, mkF, argsToLocals, Value.category]; done) | rfl
def Q_m21_35 (Z : State) (p1 : Int32) (jj0 : Value) (h0 : Heap) (n0 : Nat) (v : Option Value) (h : Heap) (L : List Loc) : Prop := v = none ∧ Fr n0 L ∧ h = h0
theorem rm_m21_35 (l : Launch) (Z : State) (aZ : Array Value) (hw : ∀ d ∈ tables_1, d.before aZ Z = true) (ws : List Jvm.Cond) (p1 : Int32) (jj0 : Value) (h0 : Heap) (n0 : Nat) (Z0 : n0 ≤ h0.size) (zz1 : jj0.isRef = true) (zz2 : Sta Z Z.heap kc3 "SIOOBE_FORMATTER" "Ljava/util/function/BiFunction;" jj0) (O0 : Old Z n0 h0) (hP_3 : (1 : Int32) < p1) :
    MetN l Z yn_21 jdk_42_method_155_code 2 none ws ({ frames := 1, cells := 0, slots := 0, locals := 14 } : Room) #[(.int (1 : Int32)), (.int p1)] h0 (Q_m21_35 Z p1 jj0 h0 n0) := by
 refine MetN.of (plainFor_of_name pn_3) ?_
 intro p e s m below meth c s₁ hret hx hby hml hown hnm hlk hZ X0 e0
 have N0 := Fr.nil n0
 rw [ef_m21_35 m p1]
 refine w_iloadN X0 hx (d21_0 hby) rfl (pq 1) ?_
 refine w_iloadN X0 hx (d21_1 hby) rfl (pq 2) ?_
 refine w_getS X0 hx "" hZ hown (Or.inl (wd_92 hw)) Via.refl e0 (zz2.ext O0.2) (d21_2 hby) (pq 5) ?_
 intro T20 X20 e20
 refine w_static X20 hx (y := yn_22) hown (mvT hZ (wd_94 hw)) (mvT hZ (wd_95 hw)) (mvT hZ (wd_93 hw)) (mvT hZ (wd_96 hw)) (by decide) (backOf (W := 0) (rm_m22_36 l Z aZ hw [] p1 jj0 h0 n0 Z0 zz1 hP_3) hZ (wd_96 hw) (wd_93 hw) (by decide) (by decide)) (by rw [hml]; rfl) [(.int (1 : Int32)), (.int p1), jj0] (lenOf pd_10 rfl) rfl (Nat.le_of_eq rfl) (d21_5 hby) (fun _ _ => ⟨rfl, e20, (by decide : 0 + 0 ≤ _), (by decide : 0 + 0 ≤ _)⟩) (pq 8) ?_
 rintro _ _ ⟨T21, L21, k21, n21⟩ X21 ⟨Lc21, hQ21, l21, y21, z21⟩
 dsimp only [Pt.U, Pt.locs, Pt.cells, Pt.slots] at X21 l21 y21 z21 hQ21 ⊢
 rw [l21, y21, z21] at X21
 obtain ⟨rfl, N21q, e21⟩ := hQ21
 have N22 := Fr.app N0 N21q
 show Runs _ _ _ _ (T21.setTop (mkF m 8 _ [(.int (1 : Int32))]))
 refine w_pop X21 hx (d21_8 hby) rfl (pq 9) ?_
 exact w_done X21 hlk (v := none) e21 (fun _ => rfl) (fun fs hr => X21.returnOut hx hret (d21_9 hby) hr) (by decide) (by decide) (⟨rfl, N22, rfl⟩)
theorem ef_m20_34 (m : MethodId) (a0 : Addr)  : entryFrame m #[(.ref a0), (.int (1 : Int32))] 2 = mkF m 0 #[.val (.ref a0), .val (.int (1 : Int32))] [] := by first | (simp [entryFrame, mkF, argsToLocals, Value.category]; done) | rfl
def Q_m20_34 (Z : State) (a0 : Addr) (k_a0 : ClassId) (jj0 : Int32) (l_a0 : List Int32) (jj1 : Value) (h0 : Heap) (n0 : Nat) (v : Option Value) (h : Heap) (L : List Loc) : Prop := v = some (.int (((gI l_a0 (1 : Int32)) &&& (255 : Int32)).toUInt32.toUInt16.toUInt32.toInt32)) ∧ Fr n0 L ∧ h = h0
theorem rm_m20_34 (l : Launch) (Z : State) (aZ : Array Value) (hw : ∀ d ∈ tables_1, d.before aZ Z = true) (ws : List Jvm.Cond) (a0 : Addr) (k_a0 : ClassId) (jj0 : Int32) (l_a0 : List Int32) (jj1 : Value) (h0 : Heap) (n0 : Nat) (Z0 : n0 ≤ h0.size) (V_a0 : Arv Z h0 a0 k_a0 .byte jj0 (mI l_a0) (.int (0 : Int32))) (hP_1 : (1 : Int32) < jj0) (zz2 : jj1.isRef = true) (zz3 : Sta Z Z.heap kc3 "SIOOBE_FORMATTER" "Ljava/util/function/BiFunction;" jj1) (O0 : Old Z n0 h0) :
    MetN l Z yn_20 jdk_43_method_2_code 2 (some .char) ws ({ frames := 2, cells := 0, slots := 0, locals := 27 } : Room) #[(.ref a0), (.int (1 : Int32))] h0 (Q_m20_34 Z a0 k_a0 jj0 l_a0 jj1 h0 n0) := by
 refine MetN.of (plainFor_of_name pn_5) ?_
 intro p e s m below meth c s₁ hret hx hby hml hown hnm hlk hZ X0 e0
 have N0 := Fr.nil n0
 rw [ef_m20_34 m a0]
 refine w_iloadN X0 hx (d20_0 hby) rfl (pq 1) ?_
 refine w_aloadN X0 hx (d20_1 hby) rfl rfl (pq 2) ?_
 refine w_alen X0 hx hZ e0 V_a0 (d20_2 hby) (pq 3) ?_
 refine w_static X0 hx (y := yn_21) hown (mvT hZ (wd_89 hw)) (mvT hZ (wd_90 hw)) (mvT hZ (wd_23 hw)) (mvT hZ (wd_91 hw)) (by decide) (backOf (W := 0) (rm_m21_35 l Z aZ hw [] jj0 jj1 h0 n0 Z0 zz2 zz3 O0 hP_1) hZ (wd_91 hw) (wd_23 hw) (by decide) (by decide)) (by rw [hml]; rfl) [(.int (1 : Int32)), (.int jj0)] (lenOf pd_11 rfl) rfl (Nat.le_of_eq rfl) (d20_3 hby) (fun _ _ => ⟨rfl, e0, (by decide : 0 + 0 ≤ _), (by decide : 0 + 0 ≤ _)⟩) (pq 6) ?_
 rintro _ _ ⟨T20, L20, k20, n20⟩ X20 ⟨Lc20, hQ20, l20, y20, z20⟩
 dsimp only [Pt.U, Pt.locs, Pt.cells, Pt.slots] at X20 l20 y20 z20 hQ20 ⊢
 rw [l20, y20, z20] at X20
 obtain ⟨rfl, N20q, e20⟩ := hQ20
 have N21 := Fr.app N0 N20q
 show Runs _ _ _ _ (T20.setTop (mkF m 6 _ []))
 refine w_aloadN X20 hx (d20_6 hby) rfl rfl (pq 7) ?_
 refine w_iloadN X20 hx (d20_7 hby) rfl (pq 8) ?_
 obtain ⟨clu22, Aru22, qu22, Su22, Nu22, Hu22, Gu22⟩ := id V_a0
 have hinu22 := inb_of (j := (1 : Int32)) Su22 ⟨(by decide : ¬ ((1 : Int32) < (0 : Int32))), hP_1⟩
 refine w_baload X20 hx hZ e20 Aru22 hinu22 (Hu22.at hinu22 (own_gI l_a0 (1 : Int32))) (d20_8 hby) (pq 9) ?_
 refine w_sipush X20 hx (d20_9 hby) (v := (255 : Int32)) rfl (pq 12) ?_
 refine w_iand X20 hx (d20_12 hby) (pq 13) ?_
 refine w_i2c X20 hx (d20_13 hby) (pq 14) ?_
 exact w_done X20 hlk (v := some (.int (((gI l_a0 (1 : Int32)) &&& (255 : Int32)).toUInt32.toUInt16.toUInt32.toInt32))) e20 (fun h => by rw [hret] at h; cases h) (fun fs hr => retOut X20 hx hret (t := .char) (XT.narrow_c _) (Or.inl ⟨rfl, by simp, _, rfl⟩) (d20_14 hby) hr) (by decide) (by decide) (⟨rfl, N21, rfl⟩)
theorem ef_m18_33 (m : MethodId) (a0 : Addr)  : entryFrame m #[(.ref a0), (.int (1 : Int32))] 2 = mkF m 0 #[.val (.ref a0), .val (.int (1 : Int32))] [] := by first | (simp [entryFrame, mkF, argsToLocals, Value.category]; done) | rfl
def Q_m18_33 (Z : State) (a0 : Addr) (jj0 : Int32) (jj1 : Addr) (jj2 : ClassId) (jj3 : Int32) (jj4 : List Int32) (jj5 : Value) (h0 : Heap) (n0 : Nat) (v : Option Value) (h : Heap) (L : List Loc) : Prop := v = some (.int (((gI jj4 (1 : Int32)) &&& (255 : Int32)).toUInt32.toUInt16.toUInt32.toInt32)) ∧ Fr n0 L ∧ h = h0
theorem rm_m18_33 (l : Launch) (Z : State) (aZ : Array Value) (hw : ∀ d ∈ tables_1, d.before aZ Z = true) (ws : List Jvm.Cond) (a0 : Addr) (jj0 : Int32) (jj1 : Addr) (jj2 : ClassId) (jj3 : Int32) (jj4 : List Int32) (jj5 : Value) (h0 : Heap) (n0 : Nat) (Z0 : n0 ≤ h0.size) (E_a0 : Exa Z h0 a0 kc0) (zz6 : Sta Z Z.heap kc0 "COMPACT_STRINGS" "Z" (.int jj0)) (O0 : Old Z n0 h0) (zz7 : Fld Z h0 a0 kc0 "coder" "B" (.int (0 : Int32))) (hP_4 : ¬ (jj0 = (0 : Int32))) (zz8 : Fld Z h0 a0 kc0 "value" "[B" (.ref jj1)) (zz9 : Arv Z h0 jj1 jj2 .byte jj3 (mI jj4) (.int (0 : Int32))) (hP_7 : (1 : Int32) < jj3) (zz10 : jj5.isRef = true) (zz11 : Sta Z Z.heap kc3 "SIOOBE_FORMATTER" "Ljava/util/function/BiFunction;" jj5) :
    MetN l Z yn_18 jdk_42_method_56_code 2 (some .char) ws ({ frames := 3, cells := 0, slots := 0, locals := 40 } : Room) #[(.ref a0), (.int (1 : Int32))] h0 (Q_m18_33 Z a0 jj0 jj1 jj2 jj3 jj4 jj5 h0 n0) := by
 refine MetN.of (plainFor_of_name pn_3) ?_
 intro p e s m below meth c s₁ hret hx hby hml hown hnm hlk hZ X0 e0
 have N0 := Fr.nil n0
 rw [ef_m18_33 m a0]
 refine w_aloadN X0 hx (d18_0 hby) rfl rfl (pq 1) ?_
 obtain ⟨cq20, kq20, q20a, q20b, q20c⟩ := isOf hZ e0 E_a0
 refine w_virtual X0 hx (y := yn_19) (z := yn_19) hown (mvT hZ (wd_80 hw)) (mvT hZ (wd_81 hw)) (notFace_of_selects (args := #[]) (mvT hZ (wd_83 hw))) (mvT hZ (wd_83 hw)) (mvT hZ (wd_82 hw)) (by decide) (backOf (W := 0) (rm_m19_7 l Z aZ hw [] a0 jj0 h0 n0 Z0 zz6 O0 hP_4 zz7) hZ (wd_84 hw) (wd_23 hw) (by decide) (by decide)) q20a q20c (by rw [hml]; rfl) [] (lenOf pd_9 rfl) rfl (Nat.le_of_eq rfl) (d18_1 hby) (fun _ _ => ⟨rfl, e0, (by decide : 0 + 0 ≤ _), (by decide : 0 + 0 ≤ _)⟩) (pq 4) ?_
 rintro _ _ ⟨T20, L20, k20, n20⟩ X20 ⟨Lc20, hQ20, l20, y20, z20⟩
 dsimp only [Pt.U, Pt.locs, Pt.cells, Pt.slots] at X20 l20 y20 z20 hQ20 ⊢
 rw [l20, y20, z20] at X20
 obtain ⟨rfl, N20q, e20⟩ := hQ20
 have N21 := Fr.app N0 N20q
 show Runs _ _ _ _ (T20.setTop (mkF m 4 _ [(.int (1 : Int32))]))
 refine w_ifN X20 hx (d18_4 hby) (feq (by decide : ¬ ((1 : Int32) = (0 : Int32)))).1 (pq 7) ?_
 refine w_aloadN X20 hx (d18_7 hby) rfl rfl (pq 8) ?_
 refine w_getF X20 hx "" hZ hown (Or.inl (wd_48 hw)) Via.refl e20 zz8 (d18_8 hby) (pq 11) ?_
 intro T22 X22 e22
 refine w_iloadN X22 hx (d18_11 hby) rfl (pq 12) ?_
 refine w_static X22 hx (y := yn_20) hown (mvT hZ (wd_85 hw)) (mvT hZ (wd_86 hw)) (mvT hZ (wd_87 hw)) (mvT hZ (wd_88 hw)) (by decide) (backOf (W := 0) (rm_m20_34 l Z aZ hw [] jj1 jj2 jj3 jj4 jj5 h0 n0 Z0 zz9 hP_7 zz10 zz11 O0) hZ (wd_88 hw) (wd_87 hw) (by decide) (by decide)) (by rw [hml]; rfl) [(.ref jj1), (.int (1 : Int32))] (lenOf pd_12 rfl) rfl (Nat.le_of_eq rfl) (d18_12 hby) (fun _ _ => ⟨rfl, e22, (by decide : 0 + 0 ≤ _), (by decide : 0 + 0 ≤ _)⟩) (pq 15) ?_
 rintro _ _ ⟨T23, L23, k23, n23⟩ X23 ⟨Lc23, hQ23, l23, y23, z23⟩
 dsimp only [Pt.U, Pt.locs, Pt.cells, Pt.slots] at X23 l23 y23 z23 hQ23 ⊢
 rw [l23, y23, z23] at X23
 obtain ⟨rfl, N23q, e23⟩ := hQ23
 have N24 := Fr.app N21 N23q
 show Runs _ _ _ _ (T23.setTop (mkF m 15 _ [(.int (((gI jj4 (1 : Int32)) &&& (255 : Int32)).toUInt32.toUInt16.toUInt32.toInt32))]))
 exact w_done X23 hlk (v := some (.int (((gI jj4 (1 : Int32)) &&& (255 : Int32)).toUInt32.toUInt16.toUInt32.toInt32))) e23 (fun h => by rw [hret] at h; cases h) (fun fs hr => retOut X23 hx hret (t := .char) (XT.narrow_c _) (Or.inl ⟨rfl, by simp, _, rfl⟩) (d18_15 hby) hr) (by decide) (by decide) (⟨rfl, N24, rfl⟩)
theorem ef_m22_40 (m : MethodId) (p1 : Int32) (v2 : Value) (r_v2 : v2.isRef = true) : entryFrame m #[(.int (2 : Int32)), (.int p1), v2] 3 = mkF m 0 #[.val (.int (2 : Int32)), .val (.int p1), .val v2] [] := by
  rcases XT.refc r_v2 with rfl | ⟨z_v2, rfl⟩ <;> first | (simp [entryFrame, mkF, argsToLocals, Value.category]; done) | rfl
def Q_m22_40 (Z : State) (p1 : Int32) (v2 : Value) (h0 : Heap) (n0 : Nat) (v : Option Value) (h : Heap) (L : List Loc) : Prop := v = some (.int (2 : Int32)) ∧ Fr n0 L ∧ h = h0
theorem rm_m22_40 (l : Launch) (Z : State) (aZ : Array Value) (hw : ∀ d ∈ tables_1, d.before aZ Z = true) (ws : List Jvm.Cond) (p1 : Int32) (v2 : Value) (h0 : Heap) (n0 : Nat) (Z0 : n0 ≤ h0.size) (r_v2 : v2.isRef = true) (hP_1 : (2 : Int32) < p1) :
    MetN l Z yn_22 jdk_41_method_11_code 3 (some .int) ws ({ frames := 0, cells := 0, slots := 0, locals := 0 } : Room) #[(.int (2 : Int32)), (.int p1), v2] h0 (Q_m22_40 Z p1 v2 h0 n0) := by
 refine MetN.of (plainFor_of_name pn_4) ?_
 intro p e s m below meth c s₁ hret hx hby hml hown hnm hlk hZ X0 e0
 have N0 := Fr.nil n0
 rw [ef_m22_40 m p1 v2 r_v2]
 refine w_iloadN X0 hx (d22_0 hby) rfl (pq 1) ?_
 refine w_ifN X0 hx (d22_1 hby) (flt (by decide : ¬ ((2 : Int32) < (0 : Int32)))).1 (pq 4) ?_
 refine w_iloadN X0 hx (d22_4 hby) rfl (pq 5) ?_
 refine w_iloadN X0 hx (d22_5 hby) rfl (pq 6) ?_
 refine w_icY X0 hx (d22_6 hby) (tlt hP_1).1 (pc' := 16) (by decide) (by decide) ?_
 refine w_iloadN X0 hx (d22_16 hby) rfl (pq 17) ?_
 exact w_done X0 hlk (v := some (.int (2 : Int32))) e0 (fun h => by rw [hret] at h; cases h) (fun fs hr => retI X0 hx hret (d22_17 hby) hr) (by decide) (by decide) (⟨rfl, N0, rfl⟩)
theorem ef_m21_39 (m : MethodId) (p1 : Int32)  : entryFrame m #[(.int (2 : Int32)), (.int p1)] 2 = mkF m 0 #[.val (.int (2 : Int32)), .val (.int p1)] [] := by first | (simp [entryFrame, mkF, argsToLocals, Value.category]; done) | rfl
def Q_m21_39 (Z : State) (p1 : Int32) (jj0 : Value) (h0 : Heap) (n0 : Nat) (v : Option Value) (h : Heap) (L : List Loc) : Prop := v = none ∧ Fr n0 L ∧ h = h0
theorem rm_m21_39 (l : Launch) (Z : State) (aZ : Array Value) (hw : ∀ d ∈ tables_1, d.before aZ Z = true) (ws : List Jvm.Cond) (p1 : Int32) (jj0 : Value) (h0 : Heap) (n0 : Nat) (Z0 : n0 ≤ h0.size) (zz1 : jj0.isRef = true) (zz2 : Sta Z Z.heap kc3 "SIOOBE_FORMATTER" "Ljava/util/function/BiFunction;" jj0) (O0 : Old Z n0 h0) (hP_3 : (2 : Int32) < p1) :
    MetN l Z yn_21 jdk_42_method_155_code 2 none ws ({ frames := 1, cells := 0, slots := 0, locals := 14 } : Room) #[(.int (2 : Int32)), (.int p1)] h0 (Q_m21_39 Z p1 jj0 h0 n0) := by
 refine MetN.of (plainFor_of_name pn_3) ?_
 intro p e s m below meth c s₁ hret hx hby hml hown hnm hlk hZ X0 e0
 have N0 := Fr.nil n0
 rw [ef_m21_39 m p1]
 refine w_iloadN X0 hx (d21_0 hby) rfl (pq 1) ?_
 refine w_iloadN X0 hx (d21_1 hby) rfl (pq 2) ?_
 refine w_getS X0 hx "" hZ hown (Or.inl (wd_92 hw)) Via.refl e0 (zz2.ext O0.2) (d21_2 hby) (pq 5) ?_
 intro T20 X20 e20
 refine w_static X20 hx (y := yn_22) hown (mvT hZ (wd_94 hw)) (mvT hZ (wd_95 hw)) (mvT hZ (wd_93 hw)) (mvT hZ (wd_96 hw)) (by decide) (backOf (W := 0) (rm_m22_40 l Z aZ hw [] p1 jj0 h0 n0 Z0 zz1 hP_3) hZ (wd_96 hw) (wd_93 hw) (by decide) (by decide)) (by rw [hml]; rfl) [(.int (2 : Int32)), (.int p1), jj0] (lenOf pd_10 rfl) rfl (Nat.le_of_eq rfl) (d21_5 hby) (fun _ _ => ⟨rfl, e20, (by decide : 0 + 0 ≤ _), (by decide : 0 + 0 ≤ _)⟩) (pq 8) ?_
 rintro _ _ ⟨T21, L21, k21, n21⟩ X21 ⟨Lc21, hQ21, l21, y21, z21⟩
 dsimp only [Pt.U, Pt.locs, Pt.cells, Pt.slots] at X21 l21 y21 z21 hQ21 ⊢
 rw [l21, y21, z21] at X21
 obtain ⟨rfl, N21q, e21⟩ := hQ21
 have N22 := Fr.app N0 N21q
 show Runs _ _ _ _ (T21.setTop (mkF m 8 _ [(.int (2 : Int32))]))
 refine w_pop X21 hx (d21_8 hby) rfl (pq 9) ?_
 exact w_done X21 hlk (v := none) e21 (fun _ => rfl) (fun fs hr => X21.returnOut hx hret (d21_9 hby) hr) (by decide) (by decide) (⟨rfl, N22, rfl⟩)
theorem ef_m20_38 (m : MethodId) (a0 : Addr)  : entryFrame m #[(.ref a0), (.int (2 : Int32))] 2 = mkF m 0 #[.val (.ref a0), .val (.int (2 : Int32))] [] := by first | (simp [entryFrame, mkF, argsToLocals, Value.category]; done) | rfl
def Q_m20_38 (Z : State) (a0 : Addr) (k_a0 : ClassId) (jj0 : Int32) (l_a0 : List Int32) (jj1 : Value) (h0 : Heap) (n0 : Nat) (v : Option Value) (h : Heap) (L : List Loc) : Prop := v = some (.int (((gI l_a0 (2 : Int32)) &&& (255 : Int32)).toUInt32.toUInt16.toUInt32.toInt32)) ∧ Fr n0 L ∧ h = h0
theorem rm_m20_38 (l : Launch) (Z : State) (aZ : Array Value) (hw : ∀ d ∈ tables_1, d.before aZ Z = true) (ws : List Jvm.Cond) (a0 : Addr) (k_a0 : ClassId) (jj0 : Int32) (l_a0 : List Int32) (jj1 : Value) (h0 : Heap) (n0 : Nat) (Z0 : n0 ≤ h0.size) (V_a0 : Arv Z h0 a0 k_a0 .byte jj0 (mI l_a0) (.int (0 : Int32))) (hP_1 : (2 : Int32) < jj0) (zz2 : jj1.isRef = true) (zz3 : Sta Z Z.heap kc3 "SIOOBE_FORMATTER" "Ljava/util/function/BiFunction;" jj1) (O0 : Old Z n0 h0) :
    MetN l Z yn_20 jdk_43_method_2_code 2 (some .char) ws ({ frames := 2, cells := 0, slots := 0, locals := 27 } : Room) #[(.ref a0), (.int (2 : Int32))] h0 (Q_m20_38 Z a0 k_a0 jj0 l_a0 jj1 h0 n0) := by
 refine MetN.of (plainFor_of_name pn_5) ?_
 intro p e s m below meth c s₁ hret hx hby hml hown hnm hlk hZ X0 e0
 have N0 := Fr.nil n0
 rw [ef_m20_38 m a0]
 refine w_iloadN X0 hx (d20_0 hby) rfl (pq 1) ?_
 refine w_aloadN X0 hx (d20_1 hby) rfl rfl (pq 2) ?_
 refine w_alen X0 hx hZ e0 V_a0 (d20_2 hby) (pq 3) ?_
 refine w_static X0 hx (y := yn_21) hown (mvT hZ (wd_89 hw)) (mvT hZ (wd_90 hw)) (mvT hZ (wd_23 hw)) (mvT hZ (wd_91 hw)) (by decide) (backOf (W := 0) (rm_m21_39 l Z aZ hw [] jj0 jj1 h0 n0 Z0 zz2 zz3 O0 hP_1) hZ (wd_91 hw) (wd_23 hw) (by decide) (by decide)) (by rw [hml]; rfl) [(.int (2 : Int32)), (.int jj0)] (lenOf pd_11 rfl) rfl (Nat.le_of_eq rfl) (d20_3 hby) (fun _ _ => ⟨rfl, e0, (by decide : 0 + 0 ≤ _), (by decide : 0 + 0 ≤ _)⟩) (pq 6) ?_
 rintro _ _ ⟨T20, L20, k20, n20⟩ X20 ⟨Lc20, hQ20, l20, y20, z20⟩
 dsimp only [Pt.U, Pt.locs, Pt.cells, Pt.slots] at X20 l20 y20 z20 hQ20 ⊢
 rw [l20, y20, z20] at X20
 obtain ⟨rfl, N20q, e20⟩ := hQ20
 have N21 := Fr.app N0 N20q
 show Runs _ _ _ _ (T20.setTop (mkF m 6 _ []))
 refine w_aloadN X20 hx (d20_6 hby) rfl rfl (pq 7) ?_
 refine w_iloadN X20 hx (d20_7 hby) rfl (pq 8) ?_
 obtain ⟨clu22, Aru22, qu22, Su22, Nu22, Hu22, Gu22⟩ := id V_a0
 have hinu22 := inb_of (j := (2 : Int32)) Su22 ⟨(by decide : ¬ ((2 : Int32) < (0 : Int32))), hP_1⟩
 refine w_baload X20 hx hZ e20 Aru22 hinu22 (Hu22.at hinu22 (own_gI l_a0 (2 : Int32))) (d20_8 hby) (pq 9) ?_
 refine w_sipush X20 hx (d20_9 hby) (v := (255 : Int32)) rfl (pq 12) ?_
 refine w_iand X20 hx (d20_12 hby) (pq 13) ?_
 refine w_i2c X20 hx (d20_13 hby) (pq 14) ?_
 exact w_done X20 hlk (v := some (.int (((gI l_a0 (2 : Int32)) &&& (255 : Int32)).toUInt32.toUInt16.toUInt32.toInt32))) e20 (fun h => by rw [hret] at h; cases h) (fun fs hr => retOut X20 hx hret (t := .char) (XT.narrow_c _) (Or.inl ⟨rfl, by simp, _, rfl⟩) (d20_14 hby) hr) (by decide) (by decide) (⟨rfl, N21, rfl⟩)
theorem ef_m18_37 (m : MethodId) (a0 : Addr)  : entryFrame m #[(.ref a0), (.int (2 : Int32))] 2 = mkF m 0 #[.val (.ref a0), .val (.int (2 : Int32))] [] := by first | (simp [entryFrame, mkF, argsToLocals, Value.category]; done) | rfl
def Q_m18_37 (Z : State) (a0 : Addr) (jj0 : Int32) (jj1 : Addr) (jj2 : ClassId) (jj3 : Int32) (jj4 : List Int32) (jj5 : Value) (h0 : Heap) (n0 : Nat) (v : Option Value) (h : Heap) (L : List Loc) : Prop := v = some (.int (((gI jj4 (2 : Int32)) &&& (255 : Int32)).toUInt32.toUInt16.toUInt32.toInt32)) ∧ Fr n0 L ∧ h = h0
theorem rm_m18_37 (l : Launch) (Z : State) (aZ : Array Value) (hw : ∀ d ∈ tables_1, d.before aZ Z = true) (ws : List Jvm.Cond) (a0 : Addr) (jj0 : Int32) (jj1 : Addr) (jj2 : ClassId) (jj3 : Int32) (jj4 : List Int32) (jj5 : Value) (h0 : Heap) (n0 : Nat) (Z0 : n0 ≤ h0.size) (E_a0 : Exa Z h0 a0 kc0) (zz6 : Sta Z Z.heap kc0 "COMPACT_STRINGS" "Z" (.int jj0)) (O0 : Old Z n0 h0) (zz7 : Fld Z h0 a0 kc0 "coder" "B" (.int (0 : Int32))) (hP_4 : ¬ (jj0 = (0 : Int32))) (zz8 : Fld Z h0 a0 kc0 "value" "[B" (.ref jj1)) (zz9 : Arv Z h0 jj1 jj2 .byte jj3 (mI jj4) (.int (0 : Int32))) (hP_7 : (2 : Int32) < jj3) (zz10 : jj5.isRef = true) (zz11 : Sta Z Z.heap kc3 "SIOOBE_FORMATTER" "Ljava/util/function/BiFunction;" jj5) :
    MetN l Z yn_18 jdk_42_method_56_code 2 (some .char) ws ({ frames := 3, cells := 0, slots := 0, locals := 40 } : Room) #[(.ref a0), (.int (2 : Int32))] h0 (Q_m18_37 Z a0 jj0 jj1 jj2 jj3 jj4 jj5 h0 n0) := by
 refine MetN.of (plainFor_of_name pn_3) ?_
 intro p e s m below meth c s₁ hret hx hby hml hown hnm hlk hZ X0 e0
 have N0 := Fr.nil n0
 rw [ef_m18_37 m a0]
 refine w_aloadN X0 hx (d18_0 hby) rfl rfl (pq 1) ?_
 obtain ⟨cq20, kq20, q20a, q20b, q20c⟩ := isOf hZ e0 E_a0
 refine w_virtual X0 hx (y := yn_19) (z := yn_19) hown (mvT hZ (wd_80 hw)) (mvT hZ (wd_81 hw)) (notFace_of_selects (args := #[]) (mvT hZ (wd_83 hw))) (mvT hZ (wd_83 hw)) (mvT hZ (wd_82 hw)) (by decide) (backOf (W := 0) (rm_m19_7 l Z aZ hw [] a0 jj0 h0 n0 Z0 zz6 O0 hP_4 zz7) hZ (wd_84 hw) (wd_23 hw) (by decide) (by decide)) q20a q20c (by rw [hml]; rfl) [] (lenOf pd_9 rfl) rfl (Nat.le_of_eq rfl) (d18_1 hby) (fun _ _ => ⟨rfl, e0, (by decide : 0 + 0 ≤ _), (by decide : 0 + 0 ≤ _)⟩) (pq 4) ?_
 rintro _ _ ⟨T20, L20, k20, n20⟩ X20 ⟨Lc20, hQ20, l20, y20, z20⟩
 dsimp only [Pt.U, Pt.locs, Pt.cells, Pt.slots] at X20 l20 y20 z20 hQ20 ⊢
 rw [l20, y20, z20] at X20
 obtain ⟨rfl, N20q, e20⟩ := hQ20
 have N21 := Fr.app N0 N20q
 show Runs _ _ _ _ (T20.setTop (mkF m 4 _ [(.int (1 : Int32))]))
 refine w_ifN X20 hx (d18_4 hby) (feq (by decide : ¬ ((1 : Int32) = (0 : Int32)))).1 (pq 7) ?_
 refine w_aloadN X20 hx (d18_7 hby) rfl rfl (pq 8) ?_
 refine w_getF X20 hx "" hZ hown (Or.inl (wd_48 hw)) Via.refl e20 zz8 (d18_8 hby) (pq 11) ?_
 intro T22 X22 e22
 refine w_iloadN X22 hx (d18_11 hby) rfl (pq 12) ?_
 refine w_static X22 hx (y := yn_20) hown (mvT hZ (wd_85 hw)) (mvT hZ (wd_86 hw)) (mvT hZ (wd_87 hw)) (mvT hZ (wd_88 hw)) (by decide) (backOf (W := 0) (rm_m20_38 l Z aZ hw [] jj1 jj2 jj3 jj4 jj5 h0 n0 Z0 zz9 hP_7 zz10 zz11 O0) hZ (wd_88 hw) (wd_87 hw) (by decide) (by decide)) (by rw [hml]; rfl) [(.ref jj1), (.int (2 : Int32))] (lenOf pd_12 rfl) rfl (Nat.le_of_eq rfl) (d18_12 hby) (fun _ _ => ⟨rfl, e22, (by decide : 0 + 0 ≤ _), (by decide : 0 + 0 ≤ _)⟩) (pq 15) ?_
 rintro _ _ ⟨T23, L23, k23, n23⟩ X23 ⟨Lc23, hQ23, l23, y23, z23⟩
 dsimp only [Pt.U, Pt.locs, Pt.cells, Pt.slots] at X23 l23 y23 z23 hQ23 ⊢
 rw [l23, y23, z23] at X23
 obtain ⟨rfl, N23q, e23⟩ := hQ23
 have N24 := Fr.app N21 N23q
 show Runs _ _ _ _ (T23.setTop (mkF m 15 _ [(.int (((gI jj4 (2 : Int32)) &&& (255 : Int32)).toUInt32.toUInt16.toUInt32.toInt32))]))
 exact w_done X23 hlk (v := some (.int (((gI jj4 (2 : Int32)) &&& (255 : Int32)).toUInt32.toUInt16.toUInt32.toInt32))) e23 (fun h => by rw [hret] at h; cases h) (fun fs hr => retOut X23 hx hret (t := .char) (XT.narrow_c _) (Or.inl ⟨rfl, by simp, _, rfl⟩) (d18_15 hby) hr) (by decide) (by decide) (⟨rfl, N24, rfl⟩)
theorem ef_m22_44 (m : MethodId) (p1 : Int32) (v2 : Value) (r_v2 : v2.isRef = true) : entryFrame m #[(.int (3 : Int32)), (.int p1), v2] 3 = mkF m 0 #[.val (.int (3 : Int32)), .val (.int p1), .val v2] [] := by
  rcases XT.refc r_v2 with rfl | ⟨z_v2, rfl⟩ <;> first | (simp [entryFrame, mkF, argsToLocals, Value.category]; done) | rfl
def Q_m22_44 (Z : State) (p1 : Int32) (v2 : Value) (h0 : Heap) (n0 : Nat) (v : Option Value) (h : Heap) (L : List Loc) : Prop := v = some (.int (3 : Int32)) ∧ Fr n0 L ∧ h = h0
theorem rm_m22_44 (l : Launch) (Z : State) (aZ : Array Value) (hw : ∀ d ∈ tables_1, d.before aZ Z = true) (ws : List Jvm.Cond) (p1 : Int32) (v2 : Value) (h0 : Heap) (n0 : Nat) (Z0 : n0 ≤ h0.size) (r_v2 : v2.isRef = true) (hP_1 : (3 : Int32) < p1) :
    MetN l Z yn_22 jdk_41_method_11_code 3 (some .int) ws ({ frames := 0, cells := 0, slots := 0, locals := 0 } : Room) #[(.int (3 : Int32)), (.int p1), v2] h0 (Q_m22_44 Z p1 v2 h0 n0) := by
 refine MetN.of (plainFor_of_name pn_4) ?_
 intro p e s m below meth c s₁ hret hx hby hml hown hnm hlk hZ X0 e0
 have N0 := Fr.nil n0
 rw [ef_m22_44 m p1 v2 r_v2]
 refine w_iloadN X0 hx (d22_0 hby) rfl (pq 1) ?_
 refine w_ifN X0 hx (d22_1 hby) (flt (by decide : ¬ ((3 : Int32) < (0 : Int32)))).1 (pq 4) ?_
 refine w_iloadN X0 hx (d22_4 hby) rfl (pq 5) ?_
 refine w_iloadN X0 hx (d22_5 hby) rfl (pq 6) ?_
 refine w_icY X0 hx (d22_6 hby) (tlt hP_1).1 (pc' := 16) (by decide) (by decide) ?_
 refine w_iloadN X0 hx (d22_16 hby) rfl (pq 17) ?_
 exact w_done X0 hlk (v := some (.int (3 : Int32))) e0 (fun h => by rw [hret] at h; cases h) (fun fs hr => retI X0 hx hret (d22_17 hby) hr) (by decide) (by decide) (⟨rfl, N0, rfl⟩)
theorem ef_m21_43 (m : MethodId) (p1 : Int32)  : entryFrame m #[(.int (3 : Int32)), (.int p1)] 2 = mkF m 0 #[.val (.int (3 : Int32)), .val (.int p1)] [] := by first | (simp [entryFrame, mkF, argsToLocals, Value.category]; done) | rfl
def Q_m21_43 (Z : State) (p1 : Int32) (jj0 : Value) (h0 : Heap) (n0 : Nat) (v : Option Value) (h : Heap) (L : List Loc) : Prop := v = none ∧ Fr n0 L ∧ h = h0
theorem rm_m21_43 (l : Launch) (Z : State) (aZ : Array Value) (hw : ∀ d ∈ tables_1, d.before aZ Z = true) (ws : List Jvm.Cond) (p1 : Int32) (jj0 : Value) (h0 : Heap) (n0 : Nat) (Z0 : n0 ≤ h0.size) (zz1 : jj0.isRef = true) (zz2 : Sta Z Z.heap kc3 "SIOOBE_FORMATTER" "Ljava/util/function/BiFunction;" jj0) (O0 : Old Z n0 h0) (hP_3 : (3 : Int32) < p1) :
    MetN l Z yn_21 jdk_42_method_155_code 2 none ws ({ frames := 1, cells := 0, slots := 0, locals := 14 } : Room) #[(.int (3 : Int32)), (.int p1)] h0 (Q_m21_43 Z p1 jj0 h0 n0) := by
 refine MetN.of (plainFor_of_name pn_3) ?_
 intro p e s m below meth c s₁ hret hx hby hml hown hnm hlk hZ X0 e0
 have N0 := Fr.nil n0
 rw [ef_m21_43 m p1]
 refine w_iloadN X0 hx (d21_0 hby) rfl (pq 1) ?_
 refine w_iloadN X0 hx (d21_1 hby) rfl (pq 2) ?_
 refine w_getS X0 hx "" hZ hown (Or.inl (wd_92 hw)) Via.refl e0 (zz2.ext O0.2) (d21_2 hby) (pq 5) ?_
 intro T20 X20 e20
 refine w_static X20 hx (y := yn_22) hown (mvT hZ (wd_94 hw)) (mvT hZ (wd_95 hw)) (mvT hZ (wd_93 hw)) (mvT hZ (wd_96 hw)) (by decide) (backOf (W := 0) (rm_m22_44 l Z aZ hw [] p1 jj0 h0 n0 Z0 zz1 hP_3) hZ (wd_96 hw) (wd_93 hw) (by decide) (by decide)) (by rw [hml]; rfl) [(.int (3 : Int32)), (.int p1), jj0] (lenOf pd_10 rfl) rfl (Nat.le_of_eq rfl) (d21_5 hby) (fun _ _ => ⟨rfl, e20, (by decide : 0 + 0 ≤ _), (by decide : 0 + 0 ≤ _)⟩) (pq 8) ?_
 rintro _ _ ⟨T21, L21, k21, n21⟩ X21 ⟨Lc21, hQ21, l21, y21, z21⟩
 dsimp only [Pt.U, Pt.locs, Pt.cells, Pt.slots] at X21 l21 y21 z21 hQ21 ⊢
 rw [l21, y21, z21] at X21
 obtain ⟨rfl, N21q, e21⟩ := hQ21
 have N22 := Fr.app N0 N21q
 show Runs _ _ _ _ (T21.setTop (mkF m 8 _ [(.int (3 : Int32))]))
 refine w_pop X21 hx (d21_8 hby) rfl (pq 9) ?_
 exact w_done X21 hlk (v := none) e21 (fun _ => rfl) (fun fs hr => X21.returnOut hx hret (d21_9 hby) hr) (by decide) (by decide) (⟨rfl, N22, rfl⟩)
theorem ef_m20_42 (m : MethodId) (a0 : Addr)  : entryFrame m #[(.ref a0), (.int (3 : Int32))] 2 = mkF m 0 #[.val (.ref a0), .val (.int (3 : Int32))] [] := by first | (simp [entryFrame, mkF, argsToLocals, Value.category]; done) | rfl
def Q_m20_42 (Z : State) (a0 : Addr) (k_a0 : ClassId) (jj0 : Int32) (l_a0 : List Int32) (jj1 : Value) (h0 : Heap) (n0 : Nat) (v : Option Value) (h : Heap) (L : List Loc) : Prop := v = some (.int (((gI l_a0 (3 : Int32)) &&& (255 : Int32)).toUInt32.toUInt16.toUInt32.toInt32)) ∧ Fr n0 L ∧ h = h0
theorem rm_m20_42 (l : Launch) (Z : State) (aZ : Array Value) (hw : ∀ d ∈ tables_1, d.before aZ Z = true) (ws : List Jvm.Cond) (a0 : Addr) (k_a0 : ClassId) (jj0 : Int32) (l_a0 : List Int32) (jj1 : Value) (h0 : Heap) (n0 : Nat) (Z0 : n0 ≤ h0.size) (V_a0 : Arv Z h0 a0 k_a0 .byte jj0 (mI l_a0) (.int (0 : Int32))) (hP_1 : (3 : Int32) < jj0) (zz2 : jj1.isRef = true) (zz3 : Sta Z Z.heap kc3 "SIOOBE_FORMATTER" "Ljava/util/function/BiFunction;" jj1) (O0 : Old Z n0 h0) :
    MetN l Z yn_20 jdk_43_method_2_code 2 (some .char) ws ({ frames := 2, cells := 0, slots := 0, locals := 27 } : Room) #[(.ref a0), (.int (3 : Int32))] h0 (Q_m20_42 Z a0 k_a0 jj0 l_a0 jj1 h0 n0) := by
 refine MetN.of (plainFor_of_name pn_5) ?_
 intro p e s m below meth c s₁ hret hx hby hml hown hnm hlk hZ X0 e0
 have N0 := Fr.nil n0
 rw [ef_m20_42 m a0]
 refine w_iloadN X0 hx (d20_0 hby) rfl (pq 1) ?_
 refine w_aloadN X0 hx (d20_1 hby) rfl rfl (pq 2) ?_
 refine w_alen X0 hx hZ e0 V_a0 (d20_2 hby) (pq 3) ?_
 refine w_static X0 hx (y := yn_21) hown (mvT hZ (wd_89 hw)) (mvT hZ (wd_90 hw)) (mvT hZ (wd_23 hw)) (mvT hZ (wd_91 hw)) (by decide) (backOf (W := 0) (rm_m21_43 l Z aZ hw [] jj0 jj1 h0 n0 Z0 zz2 zz3 O0 hP_1) hZ (wd_91 hw) (wd_23 hw) (by decide) (by decide)) (by rw [hml]; rfl) [(.int (3 : Int32)), (.int jj0)] (lenOf pd_11 rfl) rfl (Nat.le_of_eq rfl) (d20_3 hby) (fun _ _ => ⟨rfl, e0, (by decide : 0 + 0 ≤ _), (by decide : 0 + 0 ≤ _)⟩) (pq 6) ?_
 rintro _ _ ⟨T20, L20, k20, n20⟩ X20 ⟨Lc20, hQ20, l20, y20, z20⟩
 dsimp only [Pt.U, Pt.locs, Pt.cells, Pt.slots] at X20 l20 y20 z20 hQ20 ⊢
 rw [l20, y20, z20] at X20
 obtain ⟨rfl, N20q, e20⟩ := hQ20
 have N21 := Fr.app N0 N20q
 show Runs _ _ _ _ (T20.setTop (mkF m 6 _ []))
 refine w_aloadN X20 hx (d20_6 hby) rfl rfl (pq 7) ?_
 refine w_iloadN X20 hx (d20_7 hby) rfl (pq 8) ?_
 obtain ⟨clu22, Aru22, qu22, Su22, Nu22, Hu22, Gu22⟩ := id V_a0
 have hinu22 := inb_of (j := (3 : Int32)) Su22 ⟨(by decide : ¬ ((3 : Int32) < (0 : Int32))), hP_1⟩
 refine w_baload X20 hx hZ e20 Aru22 hinu22 (Hu22.at hinu22 (own_gI l_a0 (3 : Int32))) (d20_8 hby) (pq 9) ?_
 refine w_sipush X20 hx (d20_9 hby) (v := (255 : Int32)) rfl (pq 12) ?_
 refine w_iand X20 hx (d20_12 hby) (pq 13) ?_
 refine w_i2c X20 hx (d20_13 hby) (pq 14) ?_
 exact w_done X20 hlk (v := some (.int (((gI l_a0 (3 : Int32)) &&& (255 : Int32)).toUInt32.toUInt16.toUInt32.toInt32))) e20 (fun h => by rw [hret] at h; cases h) (fun fs hr => retOut X20 hx hret (t := .char) (XT.narrow_c _) (Or.inl ⟨rfl, by simp, _, rfl⟩) (d20_14 hby) hr) (by decide) (by decide) (⟨rfl, N21, rfl⟩)
theorem ef_m18_41 (m : MethodId) (a0 : Addr)  : entryFrame m #[(.ref a0), (.int (3 : Int32))] 2 = mkF m 0 #[.val (.ref a0), .val (.int (3 : Int32))] [] := by first | (simp [entryFrame, mkF, argsToLocals, Value.category]; done) | rfl
def Q_m18_41 (Z : State) (a0 : Addr) (jj0 : Int32) (jj1 : Addr) (jj2 : ClassId) (jj3 : Int32) (jj4 : List Int32) (jj5 : Value) (h0 : Heap) (n0 : Nat) (v : Option Value) (h : Heap) (L : List Loc) : Prop := v = some (.int (((gI jj4 (3 : Int32)) &&& (255 : Int32)).toUInt32.toUInt16.toUInt32.toInt32)) ∧ Fr n0 L ∧ h = h0
theorem rm_m18_41 (l : Launch) (Z : State) (aZ : Array Value) (hw : ∀ d ∈ tables_1, d.before aZ Z = true) (ws : List Jvm.Cond) (a0 : Addr) (jj0 : Int32) (jj1 : Addr) (jj2 : ClassId) (jj3 : Int32) (jj4 : List Int32) (jj5 : Value) (h0 : Heap) (n0 : Nat) (Z0 : n0 ≤ h0.size) (E_a0 : Exa Z h0 a0 kc0) (zz6 : Sta Z Z.heap kc0 "COMPACT_STRINGS" "Z" (.int jj0)) (O0 : Old Z n0 h0) (zz7 : Fld Z h0 a0 kc0 "coder" "B" (.int (0 : Int32))) (hP_4 : ¬ (jj0 = (0 : Int32))) (zz8 : Fld Z h0 a0 kc0 "value" "[B" (.ref jj1)) (zz9 : Arv Z h0 jj1 jj2 .byte jj3 (mI jj4) (.int (0 : Int32))) (hP_7 : (3 : Int32) < jj3) (zz10 : jj5.isRef = true) (zz11 : Sta Z Z.heap kc3 "SIOOBE_FORMATTER" "Ljava/util/function/BiFunction;" jj5) :
    MetN l Z yn_18 jdk_42_method_56_code 2 (some .char) ws ({ frames := 3, cells := 0, slots := 0, locals := 40 } : Room) #[(.ref a0), (.int (3 : Int32))] h0 (Q_m18_41 Z a0 jj0 jj1 jj2 jj3 jj4 jj5 h0 n0) := by
 refine MetN.of (plainFor_of_name pn_3) ?_
 intro p e s m below meth c s₁ hret hx hby hml hown hnm hlk hZ X0 e0
 have N0 := Fr.nil n0
 rw [ef_m18_41 m a0]
 refine w_aloadN X0 hx (d18_0 hby) rfl rfl (pq 1) ?_
 obtain ⟨cq20, kq20, q20a, q20b, q20c⟩ := isOf hZ e0 E_a0
 refine w_virtual X0 hx (y := yn_19) (z := yn_19) hown (mvT hZ (wd_80 hw)) (mvT hZ (wd_81 hw)) (notFace_of_selects (args := #[]) (mvT hZ (wd_83 hw))) (mvT hZ (wd_83 hw)) (mvT hZ (wd_82 hw)) (by decide) (backOf (W := 0) (rm_m19_7 l Z aZ hw [] a0 jj0 h0 n0 Z0 zz6 O0 hP_4 zz7) hZ (wd_84 hw) (wd_23 hw) (by decide) (by decide)) q20a q20c (by rw [hml]; rfl) [] (lenOf pd_9 rfl) rfl (Nat.le_of_eq rfl) (d18_1 hby) (fun _ _ => ⟨rfl, e0, (by decide : 0 + 0 ≤ _), (by decide : 0 + 0 ≤ _)⟩) (pq 4) ?_
 rintro _ _ ⟨T20, L20, k20, n20⟩ X20 ⟨Lc20, hQ20, l20, y20, z20⟩
 dsimp only [Pt.U, Pt.locs, Pt.cells, Pt.slots] at X20 l20 y20 z20 hQ20 ⊢
 rw [l20, y20, z20] at X20
 obtain ⟨rfl, N20q, e20⟩ := hQ20
 have N21 := Fr.app N0 N20q
 show Runs _ _ _ _ (T20.setTop (mkF m 4 _ [(.int (1 : Int32))]))
 refine w_ifN X20 hx (d18_4 hby) (feq (by decide : ¬ ((1 : Int32) = (0 : Int32)))).1 (pq 7) ?_
 refine w_aloadN X20 hx (d18_7 hby) rfl rfl (pq 8) ?_
 refine w_getF X20 hx "" hZ hown (Or.inl (wd_48 hw)) Via.refl e20 zz8 (d18_8 hby) (pq 11) ?_
 intro T22 X22 e22
 refine w_iloadN X22 hx (d18_11 hby) rfl (pq 12) ?_
 refine w_static X22 hx (y := yn_20) hown (mvT hZ (wd_85 hw)) (mvT hZ (wd_86 hw)) (mvT hZ (wd_87 hw)) (mvT hZ (wd_88 hw)) (by decide) (backOf (W := 0) (rm_m20_42 l Z aZ hw [] jj1 jj2 jj3 jj4 jj5 h0 n0 Z0 zz9 hP_7 zz10 zz11 O0) hZ (wd_88 hw) (wd_87 hw) (by decide) (by decide)) (by rw [hml]; rfl) [(.ref jj1), (.int (3 : Int32))] (lenOf pd_12 rfl) rfl (Nat.le_of_eq rfl) (d18_12 hby) (fun _ _ => ⟨rfl, e22, (by decide : 0 + 0 ≤ _), (by decide : 0 + 0 ≤ _)⟩) (pq 15) ?_
 rintro _ _ ⟨T23, L23, k23, n23⟩ X23 ⟨Lc23, hQ23, l23, y23, z23⟩
 dsimp only [Pt.U, Pt.locs, Pt.cells, Pt.slots] at X23 l23 y23 z23 hQ23 ⊢
 rw [l23, y23, z23] at X23
 obtain ⟨rfl, N23q, e23⟩ := hQ23
 have N24 := Fr.app N21 N23q
 show Runs _ _ _ _ (T23.setTop (mkF m 15 _ [(.int (((gI jj4 (3 : Int32)) &&& (255 : Int32)).toUInt32.toUInt16.toUInt32.toInt32))]))
 exact w_done X23 hlk (v := some (.int (((gI jj4 (3 : Int32)) &&& (255 : Int32)).toUInt32.toUInt16.toUInt32.toInt32))) e23 (fun h => by rw [hret] at h; cases h) (fun fs hr => retOut X23 hx hret (t := .char) (XT.narrow_c _) (Or.inl ⟨rfl, by simp, _, rfl⟩) (d18_15 hby) hr) (by decide) (by decide) (⟨rfl, N24, rfl⟩)
theorem ef_m56_28 (m : MethodId) (a0 : Addr)  : entryFrame m #[(.ref a0)] 3 = mkF m 0 #[.val (.ref a0), .unset, .unset] [] := by first | (simp [entryFrame, mkF, argsToLocals, Value.category]; done) | rfl
def Q_m56_28 (Z : State) (a0 : Addr) (qq : Int32) (nn : Int32) (k0 : Int32) (k1 : Int32) (k2 : Int32) (k3 : Int32) (jj0 : Addr) (jj1 : ClassId) (jj2 : Int32) (jj3 : Value) (h0 : Heap) (n0 : Nat) (v : Option Value) (h : Heap) (L : List Loc) : Prop := v = some (.ref a0) ∧ Fr n0 L ∧ h = h0
theorem rm_m56_28 (l : Launch) (Z : State) (aZ : Array Value) (hw : ∀ d ∈ tables_1, d.before aZ Z = true) (ws : List Jvm.Cond) (a0 : Addr) (qq : Int32) (nn : Int32) (k0 : Int32) (k1 : Int32) (k2 : Int32) (k3 : Int32) (jj0 : Addr) (jj1 : ClassId) (jj2 : Int32) (jj3 : Value) (h0 : Heap) (n0 : Nat) (Z0 : n0 ≤ h0.size) (E_a0 : Exa Z h0 a0 kc0) (zz4 : Fld Z h0 a0 kc0 "value" "[B" (.ref jj0)) (zz5 : Arv Z h0 jj0 jj1 .byte (lenK qq nn k0 k1 k2 k3) (mI (lowL (encK qq nn k0 k1 k2 k3))) (.int (0 : Int32))) (zz6 : Sta Z Z.heap kc0 "COMPACT_STRINGS" "Z" (.int jj2)) (O0 : Old Z n0 h0) (zz7 : Fld Z h0 a0 kc0 "coder" "B" (.int (0 : Int32))) (hP_6 : qq = (0 : Int32)) (hP_7 : ¬ (jj2 = (0 : Int32))) (hX_8 : ENC qq nn k0 k1 k2 k3) (zz8 : jj3.isRef = true) (zz9 : Sta Z Z.heap kc3 "SIOOBE_FORMATTER" "Ljava/util/function/BiFunction;" jj3) :
    MetN l Z yn_56 prog_3_method_7_code 3 (some (.object kc0)) ws ({ frames := 4, cells := 0, slots := 0, locals := 53 } : Room) #[(.ref a0)] h0 (Q_m56_28 Z a0 qq nn k0 k1 k2 k3 jj0 jj1 jj2 jj3 h0 n0) := by
 refine MetN.of (plainFor_of_name pn_1) ?_
 intro p e s m below meth c s₁ hret hx hby hml hown hnm hlk hZ X0 e0
 have N0 := Fr.nil n0
 rw [ef_m56_28 m a0]
 refine w_iconst X0 hx (d56_0 hby) (v := (0 : Int32)) rfl (pq 1) ?_
 refine w_istoreN X0 hx (d56_1 hby) (L' := #[.val (.ref a0), .val (.int (0 : Int32)), .unset]) rfl (pq 2) ?_
 refine w_iloadN X0 hx (d56_2 hby) rfl (pq 3) ?_
 refine w_aloadN X0 hx (d56_3 hby) rfl rfl (pq 4) ?_
 obtain ⟨cq20, kq20, q20a, q20b, q20c⟩ := isOf hZ e0 E_a0
 refine w_virtual X0 hx (y := yn_16) (z := yn_16) hown (mvT hZ (wd_65 hw)) (mvT hZ (wd_66 hw)) (notFace_of_selects (args := #[]) (mvT hZ (wd_68 hw))) (mvT hZ (wd_68 hw)) (mvT hZ (wd_67 hw)) (by decide) (backOf (W := 1) (rm_m16_25 l Z aZ hw [] a0 jj0 jj1 (lenK qq nn k0 k1 k2 k3) (lowL (encK qq nn k0 k1 k2 k3)) jj2 h0 n0 Z0 zz4 zz5 E_a0 zz6 O0 zz7 hP_7) hZ (wd_69 hw) (wd_23 hw) (by decide) (by decide)) q20a q20c (by rw [hml]; rfl) [] (lenOf pd_8 rfl) rfl (Nat.le_of_eq rfl) (d56_4 hby) (fun _ _ => ⟨rfl, e0, (by decide : 0 + 0 ≤ _), (by decide : 0 + 0 ≤ _)⟩) (pq 7) ?_
 rintro _ _ ⟨T20, L20, k20, n20⟩ X20 ⟨Lc20, hQ20, l20, y20, z20⟩
 dsimp only [Pt.U, Pt.locs, Pt.cells, Pt.slots] at X20 l20 y20 z20 hQ20 ⊢
 rw [l20, y20, z20] at X20
 obtain ⟨rfl, N20q, e20⟩ := hQ20
 have N21 := Fr.app N0 N20q
 show Runs _ _ _ _ (T20.setTop (mkF m 7 _ [(.int ((lenK qq nn k0 k1 k2 k3) >>> ((0 : Int32) &&& 31))), (.int (0 : Int32))]))
 rw [own_shr0 (lenK qq nn k0 k1 k2 k3)]
 refine w_icN X20 hx (d56_7 hby) (tlt (own_ln0 hX_8)).2.1 (pq 10) ?_
 refine w_aloadN X20 hx (d56_10 hby) rfl rfl (pq 11) ?_
 refine w_iloadN X20 hx (d56_11 hby) rfl (pq 12) ?_
 obtain ⟨cq22, kq22, q22a, q22b, q22c⟩ := isOf hZ e20 E_a0
 refine w_virtual X20 hx (y := yn_18) (z := yn_18) hown (mvT hZ (wd_75 hw)) (mvT hZ (wd_76 hw)) (notFace_of_selects (args := #[]) (mvT hZ (wd_78 hw))) (mvT hZ (wd_78 hw)) (mvT hZ (wd_77 hw)) (by decide) (backOf (W := 0) (rm_m18_29 l Z aZ hw [] a0 jj2 jj0 jj1 (lenK qq nn k0 k1 k2 k3) (lowL (encK qq nn k0 k1 k2 k3)) jj3 h0 n0 Z0 E_a0 zz6 O0 zz7 hP_7 zz4 zz5 (own_ln0 hX_8) zz8 zz9) hZ (wd_79 hw) (wd_23 hw) (by decide) (by decide)) q22a q22c (by rw [hml]; rfl) [(.int (0 : Int32))] (lenOf pd_1 rfl) rfl (Nat.le_of_eq rfl) (d56_12 hby) (fun _ _ => ⟨rfl, e20, (by decide : 0 + 0 ≤ _), (by decide : 0 + 0 ≤ _)⟩) (pq 15) ?_
 rintro _ _ ⟨T22, L22, k22, n22⟩ X22 ⟨Lc22, hQ22, l22, y22, z22⟩
 dsimp only [Pt.U, Pt.locs, Pt.cells, Pt.slots] at X22 l22 y22 z22 hQ22 ⊢
 rw [l22, y22, z22] at X22
 obtain ⟨rfl, N22q, e22⟩ := hQ22
 have N23 := Fr.app N21 N22q
 show Runs _ _ _ _ (T22.setTop (mkF m 15 _ [(.int (((gI (lowL (encK qq nn k0 k1 k2 k3)) (0 : Int32)) &&& (255 : Int32)).toUInt32.toUInt16.toUInt32.toInt32))]))
 rw [show (((gI (lowL (encK qq nn k0 k1 k2 k3)) (0 : Int32)) &&& (255 : Int32)).toUInt32.toUInt16.toUInt32.toInt32) = k0 from by rw [own_encB hP_6]; exact own_clx0 hX_8 ]
 refine w_istoreN X22 hx (d56_15 hby) (L' := #[.val (.ref a0), .val (.int (0 : Int32)), .val (.int k0)]) rfl (pq 16) ?_
 refine w_iloadN X22 hx (d56_16 hby) rfl (pq 17) ?_
 refine w_bipush X22 hx (d56_17 hby) (v := (32 : Int32)) rfl (pq 19) ?_
 refine w_icN X22 hx (d56_19 hby) (feq (own_pl32 (own_plk0 hX_8 hP_6 ))).1 (pq 22) ?_
 refine w_iloadN X22 hx (d56_22 hby) rfl (pq 23) ?_
 refine w_bipush X22 hx (d56_23 hby) (v := (44 : Int32)) rfl (pq 25) ?_
 refine w_icN X22 hx (d56_25 hby) (feq (own_pl44 (own_plk0 hX_8 hP_6 ))).1 (pq 28) ?_
 refine w_iloadN X22 hx (d56_28 hby) rfl (pq 29) ?_
 refine w_bipush X22 hx (d56_29 hby) (v := (34 : Int32)) rfl (pq 31) ?_
 refine w_icY X22 hx (d56_31 hby) (feq (own_pl34 (own_plk0 hX_8 hP_6 ))).2 (pc' := 48) (by decide) (by decide) ?_
 refine w_iinc X22 hx (d56_48 hby) (v := (1 : Int32)) rfl rfl (L' := #[.val (.ref a0), .val (.int ((0 : Int32) + (1 : Int32))), .val (.int k0)]) rfl (pq 51) ?_
 rw [show ((0 : Int32) + (1 : Int32)) = (1 : Int32) from by decide]
 refine w_goto X22 hx (d56_51 hby) (pc' := 2) (by decide) (by decide) ?_
 refine w_iloadN X22 hx (d56_2 hby) rfl (pq 3) ?_
 refine w_aloadN X22 hx (d56_3 hby) rfl rfl (pq 4) ?_
 obtain ⟨cq24, kq24, q24a, q24b, q24c⟩ := isOf hZ e22 E_a0
 refine w_virtual X22 hx (y := yn_16) (z := yn_16) hown (mvT hZ (wd_65 hw)) (mvT hZ (wd_66 hw)) (notFace_of_selects (args := #[]) (mvT hZ (wd_68 hw))) (mvT hZ (wd_68 hw)) (mvT hZ (wd_67 hw)) (by decide) (backOf (W := 1) (rm_m16_25 l Z aZ hw [] a0 jj0 jj1 (lenK qq nn k0 k1 k2 k3) (lowL (encK qq nn k0 k1 k2 k3)) jj2 h0 n0 Z0 zz4 zz5 E_a0 zz6 O0 zz7 hP_7) hZ (wd_69 hw) (wd_23 hw) (by decide) (by decide)) q24a q24c (by rw [hml]; rfl) [] (lenOf pd_8 rfl) rfl (Nat.le_of_eq rfl) (d56_4 hby) (fun _ _ => ⟨rfl, e22, (by decide : 0 + 0 ≤ _), (by decide : 0 + 0 ≤ _)⟩) (pq 7) ?_
 rintro _ _ ⟨T24, L24, k24, n24⟩ X24 ⟨Lc24, hQ24, l24, y24, z24⟩
 dsimp only [Pt.U, Pt.locs, Pt.cells, Pt.slots] at X24 l24 y24 z24 hQ24 ⊢
 rw [l24, y24, z24] at X24
 obtain ⟨rfl, N24q, e24⟩ := hQ24
 have N25 := Fr.app N23 N24q
 show Runs _ _ _ _ (T24.setTop (mkF m 7 _ [(.int ((lenK qq nn k0 k1 k2 k3) >>> ((0 : Int32) &&& 31))), (.int (1 : Int32))]))
 rw [own_shr0 (lenK qq nn k0 k1 k2 k3)]
 by_cases hc26 : nn < (2 : Int32)
 · refine w_icY X24 hx (d56_7 hby) (flt (own_lbn1 hX_8 hP_6 hc26)).2.1 (pc' := 54) (by decide) (by decide) ?_
   refine w_aloadN X24 hx (d56_54 hby) rfl rfl (pq 55) ?_
   exact w_done X24 hlk (v := some (.ref a0)) e24 (fun h => by rw [hret] at h; cases h) (fun fs hr => retOut X24 hx hret rfl (Or.inr (Or.inr (Or.inr (Or.inr ⟨rfl, rfl, rfl⟩)))) (d56_55 hby) hr) (by decide) (by decide) (⟨rfl, N25, rfl⟩)
 · refine w_icN X24 hx (d56_7 hby) (tlt (own_lb hX_8 hP_6 (own_ge1 hc26))).2.1 (pq 10) ?_
   refine w_aloadN X24 hx (d56_10 hby) rfl rfl (pq 11) ?_
   refine w_iloadN X24 hx (d56_11 hby) rfl (pq 12) ?_
   obtain ⟨cq27, kq27, q27a, q27b, q27c⟩ := isOf hZ e24 E_a0
   refine w_virtual X24 hx (y := yn_18) (z := yn_18) hown (mvT hZ (wd_75 hw)) (mvT hZ (wd_76 hw)) (notFace_of_selects (args := #[]) (mvT hZ (wd_78 hw))) (mvT hZ (wd_78 hw)) (mvT hZ (wd_77 hw)) (by decide) (backOf (W := 0) (rm_m18_33 l Z aZ hw [] a0 jj2 jj0 jj1 (lenK qq nn k0 k1 k2 k3) (lowL (encK qq nn k0 k1 k2 k3)) jj3 h0 n0 Z0 E_a0 zz6 O0 zz7 hP_7 zz4 zz5 (own_lb hX_8 hP_6 (own_ge1 hc26)) zz8 zz9) hZ (wd_79 hw) (wd_23 hw) (by decide) (by decide)) q27a q27c (by rw [hml]; rfl) [(.int (1 : Int32))] (lenOf pd_1 rfl) rfl (Nat.le_of_eq rfl) (d56_12 hby) (fun _ _ => ⟨rfl, e24, (by decide : 0 + 0 ≤ _), (by decide : 0 + 0 ≤ _)⟩) (pq 15) ?_
   rintro _ _ ⟨T27, L27, k27, n27⟩ X27 ⟨Lc27, hQ27, l27, y27, z27⟩
   dsimp only [Pt.U, Pt.locs, Pt.cells, Pt.slots] at X27 l27 y27 z27 hQ27 ⊢
   rw [l27, y27, z27] at X27
   obtain ⟨rfl, N27q, e27⟩ := hQ27
   have N28 := Fr.app N25 N27q
   show Runs _ _ _ _ (T27.setTop (mkF m 15 _ [(.int (((gI (lowL (encK qq nn k0 k1 k2 k3)) (1 : Int32)) &&& (255 : Int32)).toUInt32.toUInt16.toUInt32.toInt32))]))
   rw [show (((gI (lowL (encK qq nn k0 k1 k2 k3)) (1 : Int32)) &&& (255 : Int32)).toUInt32.toUInt16.toUInt32.toInt32) = k1 from by rw [own_encB hP_6]; exact own_clx1 hX_8 hc26]
   refine w_istoreN X27 hx (d56_15 hby) (L' := #[.val (.ref a0), .val (.int (1 : Int32)), .val (.int k1)]) rfl (pq 16) ?_
   refine w_iloadN X27 hx (d56_16 hby) rfl (pq 17) ?_
   refine w_bipush X27 hx (d56_17 hby) (v := (32 : Int32)) rfl (pq 19) ?_
   refine w_icN X27 hx (d56_19 hby) (feq (own_pl32 (own_plk1 hX_8 hP_6 hc26))).1 (pq 22) ?_
   refine w_iloadN X27 hx (d56_22 hby) rfl (pq 23) ?_
   refine w_bipush X27 hx (d56_23 hby) (v := (44 : Int32)) rfl (pq 25) ?_
   refine w_icN X27 hx (d56_25 hby) (feq (own_pl44 (own_plk1 hX_8 hP_6 hc26))).1 (pq 28) ?_
   refine w_iloadN X27 hx (d56_28 hby) rfl (pq 29) ?_
   refine w_bipush X27 hx (d56_29 hby) (v := (34 : Int32)) rfl (pq 31) ?_
   refine w_icY X27 hx (d56_31 hby) (feq (own_pl34 (own_plk1 hX_8 hP_6 hc26))).2 (pc' := 48) (by decide) (by decide) ?_
   refine w_iinc X27 hx (d56_48 hby) (v := (1 : Int32)) rfl rfl (L' := #[.val (.ref a0), .val (.int ((1 : Int32) + (1 : Int32))), .val (.int k1)]) rfl (pq 51) ?_
   rw [show ((1 : Int32) + (1 : Int32)) = (2 : Int32) from by decide]
   refine w_goto X27 hx (d56_51 hby) (pc' := 2) (by decide) (by decide) ?_
   refine w_iloadN X27 hx (d56_2 hby) rfl (pq 3) ?_
   refine w_aloadN X27 hx (d56_3 hby) rfl rfl (pq 4) ?_
   obtain ⟨cq29, kq29, q29a, q29b, q29c⟩ := isOf hZ e27 E_a0
   refine w_virtual X27 hx (y := yn_16) (z := yn_16) hown (mvT hZ (wd_65 hw)) (mvT hZ (wd_66 hw)) (notFace_of_selects (args := #[]) (mvT hZ (wd_68 hw))) (mvT hZ (wd_68 hw)) (mvT hZ (wd_67 hw)) (by decide) (backOf (W := 1) (rm_m16_25 l Z aZ hw [] a0 jj0 jj1 (lenK qq nn k0 k1 k2 k3) (lowL (encK qq nn k0 k1 k2 k3)) jj2 h0 n0 Z0 zz4 zz5 E_a0 zz6 O0 zz7 hP_7) hZ (wd_69 hw) (wd_23 hw) (by decide) (by decide)) q29a q29c (by rw [hml]; rfl) [] (lenOf pd_8 rfl) rfl (Nat.le_of_eq rfl) (d56_4 hby) (fun _ _ => ⟨rfl, e27, (by decide : 0 + 0 ≤ _), (by decide : 0 + 0 ≤ _)⟩) (pq 7) ?_
   rintro _ _ ⟨T29, L29, k29, n29⟩ X29 ⟨Lc29, hQ29, l29, y29, z29⟩
   dsimp only [Pt.U, Pt.locs, Pt.cells, Pt.slots] at X29 l29 y29 z29 hQ29 ⊢
   rw [l29, y29, z29] at X29
   obtain ⟨rfl, N29q, e29⟩ := hQ29
   have N30 := Fr.app N28 N29q
   show Runs _ _ _ _ (T29.setTop (mkF m 7 _ [(.int ((lenK qq nn k0 k1 k2 k3) >>> ((0 : Int32) &&& 31))), (.int (2 : Int32))]))
   rw [own_shr0 (lenK qq nn k0 k1 k2 k3)]
   by_cases hc31 : nn < (3 : Int32)
   · refine w_icY X29 hx (d56_7 hby) (flt (own_lbn2 hX_8 hP_6 hc31)).2.1 (pc' := 54) (by decide) (by decide) ?_
     refine w_aloadN X29 hx (d56_54 hby) rfl rfl (pq 55) ?_
     exact w_done X29 hlk (v := some (.ref a0)) e29 (fun h => by rw [hret] at h; cases h) (fun fs hr => retOut X29 hx hret rfl (Or.inr (Or.inr (Or.inr (Or.inr ⟨rfl, rfl, rfl⟩)))) (d56_55 hby) hr) (by decide) (by decide) (⟨rfl, N30, rfl⟩)
   · refine w_icN X29 hx (d56_7 hby) (tlt (own_lb hX_8 hP_6 (own_ge2 hc31))).2.1 (pq 10) ?_
     refine w_aloadN X29 hx (d56_10 hby) rfl rfl (pq 11) ?_
     refine w_iloadN X29 hx (d56_11 hby) rfl (pq 12) ?_
     obtain ⟨cq32, kq32, q32a, q32b, q32c⟩ := isOf hZ e29 E_a0
     refine w_virtual X29 hx (y := yn_18) (z := yn_18) hown (mvT hZ (wd_75 hw)) (mvT hZ (wd_76 hw)) (notFace_of_selects (args := #[]) (mvT hZ (wd_78 hw))) (mvT hZ (wd_78 hw)) (mvT hZ (wd_77 hw)) (by decide) (backOf (W := 0) (rm_m18_37 l Z aZ hw [] a0 jj2 jj0 jj1 (lenK qq nn k0 k1 k2 k3) (lowL (encK qq nn k0 k1 k2 k3)) jj3 h0 n0 Z0 E_a0 zz6 O0 zz7 hP_7 zz4 zz5 (own_lb hX_8 hP_6 (own_ge2 hc31)) zz8 zz9) hZ (wd_79 hw) (wd_23 hw) (by decide) (by decide)) q32a q32c (by rw [hml]; rfl) [(.int (2 : Int32))] (lenOf pd_1 rfl) rfl (Nat.le_of_eq rfl) (d56_12 hby) (fun _ _ => ⟨rfl, e29, (by decide : 0 + 0 ≤ _), (by decide : 0 + 0 ≤ _)⟩) (pq 15) ?_
     rintro _ _ ⟨T32, L32, k32, n32⟩ X32 ⟨Lc32, hQ32, l32, y32, z32⟩
     dsimp only [Pt.U, Pt.locs, Pt.cells, Pt.slots] at X32 l32 y32 z32 hQ32 ⊢
     rw [l32, y32, z32] at X32
     obtain ⟨rfl, N32q, e32⟩ := hQ32
     have N33 := Fr.app N30 N32q
     show Runs _ _ _ _ (T32.setTop (mkF m 15 _ [(.int (((gI (lowL (encK qq nn k0 k1 k2 k3)) (2 : Int32)) &&& (255 : Int32)).toUInt32.toUInt16.toUInt32.toInt32))]))
     rw [show (((gI (lowL (encK qq nn k0 k1 k2 k3)) (2 : Int32)) &&& (255 : Int32)).toUInt32.toUInt16.toUInt32.toInt32) = k2 from by rw [own_encB hP_6]; exact own_clx2 hX_8 hc31]
     refine w_istoreN X32 hx (d56_15 hby) (L' := #[.val (.ref a0), .val (.int (2 : Int32)), .val (.int k2)]) rfl (pq 16) ?_
     refine w_iloadN X32 hx (d56_16 hby) rfl (pq 17) ?_
     refine w_bipush X32 hx (d56_17 hby) (v := (32 : Int32)) rfl (pq 19) ?_
     refine w_icN X32 hx (d56_19 hby) (feq (own_pl32 (own_plk2 hX_8 hP_6 hc31))).1 (pq 22) ?_
     refine w_iloadN X32 hx (d56_22 hby) rfl (pq 23) ?_
     refine w_bipush X32 hx (d56_23 hby) (v := (44 : Int32)) rfl (pq 25) ?_
     refine w_icN X32 hx (d56_25 hby) (feq (own_pl44 (own_plk2 hX_8 hP_6 hc31))).1 (pq 28) ?_
     refine w_iloadN X32 hx (d56_28 hby) rfl (pq 29) ?_
     refine w_bipush X32 hx (d56_29 hby) (v := (34 : Int32)) rfl (pq 31) ?_
     refine w_icY X32 hx (d56_31 hby) (feq (own_pl34 (own_plk2 hX_8 hP_6 hc31))).2 (pc' := 48) (by decide) (by decide) ?_
     refine w_iinc X32 hx (d56_48 hby) (v := (1 : Int32)) rfl rfl (L' := #[.val (.ref a0), .val (.int ((2 : Int32) + (1 : Int32))), .val (.int k2)]) rfl (pq 51) ?_
     rw [show ((2 : Int32) + (1 : Int32)) = (3 : Int32) from by decide]
     refine w_goto X32 hx (d56_51 hby) (pc' := 2) (by decide) (by decide) ?_
     refine w_iloadN X32 hx (d56_2 hby) rfl (pq 3) ?_
     refine w_aloadN X32 hx (d56_3 hby) rfl rfl (pq 4) ?_
     obtain ⟨cq34, kq34, q34a, q34b, q34c⟩ := isOf hZ e32 E_a0
     refine w_virtual X32 hx (y := yn_16) (z := yn_16) hown (mvT hZ (wd_65 hw)) (mvT hZ (wd_66 hw)) (notFace_of_selects (args := #[]) (mvT hZ (wd_68 hw))) (mvT hZ (wd_68 hw)) (mvT hZ (wd_67 hw)) (by decide) (backOf (W := 1) (rm_m16_25 l Z aZ hw [] a0 jj0 jj1 (lenK qq nn k0 k1 k2 k3) (lowL (encK qq nn k0 k1 k2 k3)) jj2 h0 n0 Z0 zz4 zz5 E_a0 zz6 O0 zz7 hP_7) hZ (wd_69 hw) (wd_23 hw) (by decide) (by decide)) q34a q34c (by rw [hml]; rfl) [] (lenOf pd_8 rfl) rfl (Nat.le_of_eq rfl) (d56_4 hby) (fun _ _ => ⟨rfl, e32, (by decide : 0 + 0 ≤ _), (by decide : 0 + 0 ≤ _)⟩) (pq 7) ?_
     rintro _ _ ⟨T34, L34, k34, n34⟩ X34 ⟨Lc34, hQ34, l34, y34, z34⟩
     dsimp only [Pt.U, Pt.locs, Pt.cells, Pt.slots] at X34 l34 y34 z34 hQ34 ⊢
     rw [l34, y34, z34] at X34
     obtain ⟨rfl, N34q, e34⟩ := hQ34
     have N35 := Fr.app N33 N34q
     show Runs _ _ _ _ (T34.setTop (mkF m 7 _ [(.int ((lenK qq nn k0 k1 k2 k3) >>> ((0 : Int32) &&& 31))), (.int (3 : Int32))]))
     rw [own_shr0 (lenK qq nn k0 k1 k2 k3)]
     by_cases hc36 : nn < (4 : Int32)
     · refine w_icY X34 hx (d56_7 hby) (flt (own_lbn3 hX_8 hP_6 hc36)).2.1 (pc' := 54) (by decide) (by decide) ?_
       refine w_aloadN X34 hx (d56_54 hby) rfl rfl (pq 55) ?_
       exact w_done X34 hlk (v := some (.ref a0)) e34 (fun h => by rw [hret] at h; cases h) (fun fs hr => retOut X34 hx hret rfl (Or.inr (Or.inr (Or.inr (Or.inr ⟨rfl, rfl, rfl⟩)))) (d56_55 hby) hr) (by decide) (by decide) (⟨rfl, N35, rfl⟩)
     · refine w_icN X34 hx (d56_7 hby) (tlt (own_lb hX_8 hP_6 (own_ge3 hc36))).2.1 (pq 10) ?_
       refine w_aloadN X34 hx (d56_10 hby) rfl rfl (pq 11) ?_
       refine w_iloadN X34 hx (d56_11 hby) rfl (pq 12) ?_
       obtain ⟨cq37, kq37, q37a, q37b, q37c⟩ := isOf hZ e34 E_a0
       refine w_virtual X34 hx (y := yn_18) (z := yn_18) hown (mvT hZ (wd_75 hw)) (mvT hZ (wd_76 hw)) (notFace_of_selects (args := #[]) (mvT hZ (wd_78 hw))) (mvT hZ (wd_78 hw)) (mvT hZ (wd_77 hw)) (by decide) (backOf (W := 0) (rm_m18_41 l Z aZ hw [] a0 jj2 jj0 jj1 (lenK qq nn k0 k1 k2 k3) (lowL (encK qq nn k0 k1 k2 k3)) jj3 h0 n0 Z0 E_a0 zz6 O0 zz7 hP_7 zz4 zz5 (own_lb hX_8 hP_6 (own_ge3 hc36)) zz8 zz9) hZ (wd_79 hw) (wd_23 hw) (by decide) (by decide)) q37a q37c (by rw [hml]; rfl) [(.int (3 : Int32))] (lenOf pd_1 rfl) rfl (Nat.le_of_eq rfl) (d56_12 hby) (fun _ _ => ⟨rfl, e34, (by decide : 0 + 0 ≤ _), (by decide : 0 + 0 ≤ _)⟩) (pq 15) ?_
       rintro _ _ ⟨T37, L37, k37, n37⟩ X37 ⟨Lc37, hQ37, l37, y37, z37⟩
       dsimp only [Pt.U, Pt.locs, Pt.cells, Pt.slots] at X37 l37 y37 z37 hQ37 ⊢
       rw [l37, y37, z37] at X37
       obtain ⟨rfl, N37q, e37⟩ := hQ37
       have N38 := Fr.app N35 N37q
       show Runs _ _ _ _ (T37.setTop (mkF m 15 _ [(.int (((gI (lowL (encK qq nn k0 k1 k2 k3)) (3 : Int32)) &&& (255 : Int32)).toUInt32.toUInt16.toUInt32.toInt32))]))
       rw [show (((gI (lowL (encK qq nn k0 k1 k2 k3)) (3 : Int32)) &&& (255 : Int32)).toUInt32.toUInt16.toUInt32.toInt32) = k3 from by rw [own_encB hP_6]; exact own_clx3 hX_8 hc36]
       refine w_istoreN X37 hx (d56_15 hby) (L' := #[.val (.ref a0), .val (.int (3 : Int32)), .val (.int k3)]) rfl (pq 16) ?_
       refine w_iloadN X37 hx (d56_16 hby) rfl (pq 17) ?_
       refine w_bipush X37 hx (d56_17 hby) (v := (32 : Int32)) rfl (pq 19) ?_
       refine w_icN X37 hx (d56_19 hby) (feq (own_pl32 (own_plk3 hX_8 hP_6 hc36))).1 (pq 22) ?_
       refine w_iloadN X37 hx (d56_22 hby) rfl (pq 23) ?_
       refine w_bipush X37 hx (d56_23 hby) (v := (44 : Int32)) rfl (pq 25) ?_
       refine w_icN X37 hx (d56_25 hby) (feq (own_pl44 (own_plk3 hX_8 hP_6 hc36))).1 (pq 28) ?_
       refine w_iloadN X37 hx (d56_28 hby) rfl (pq 29) ?_
       refine w_bipush X37 hx (d56_29 hby) (v := (34 : Int32)) rfl (pq 31) ?_
       refine w_icY X37 hx (d56_31 hby) (feq (own_pl34 (own_plk3 hX_8 hP_6 hc36))).2 (pc' := 48) (by decide) (by decide) ?_
       refine w_iinc X37 hx (d56_48 hby) (v := (1 : Int32)) rfl rfl (L' := #[.val (.ref a0), .val (.int ((3 : Int32) + (1 : Int32))), .val (.int k3)]) rfl (pq 51) ?_
       rw [show ((3 : Int32) + (1 : Int32)) = (4 : Int32) from by decide]
       refine w_goto X37 hx (d56_51 hby) (pc' := 2) (by decide) (by decide) ?_
       refine w_iloadN X37 hx (d56_2 hby) rfl (pq 3) ?_
       refine w_aloadN X37 hx (d56_3 hby) rfl rfl (pq 4) ?_
       obtain ⟨cq39, kq39, q39a, q39b, q39c⟩ := isOf hZ e37 E_a0
       refine w_virtual X37 hx (y := yn_16) (z := yn_16) hown (mvT hZ (wd_65 hw)) (mvT hZ (wd_66 hw)) (notFace_of_selects (args := #[]) (mvT hZ (wd_68 hw))) (mvT hZ (wd_68 hw)) (mvT hZ (wd_67 hw)) (by decide) (backOf (W := 1) (rm_m16_25 l Z aZ hw [] a0 jj0 jj1 (lenK qq nn k0 k1 k2 k3) (lowL (encK qq nn k0 k1 k2 k3)) jj2 h0 n0 Z0 zz4 zz5 E_a0 zz6 O0 zz7 hP_7) hZ (wd_69 hw) (wd_23 hw) (by decide) (by decide)) q39a q39c (by rw [hml]; rfl) [] (lenOf pd_8 rfl) rfl (Nat.le_of_eq rfl) (d56_4 hby) (fun _ _ => ⟨rfl, e37, (by decide : 0 + 0 ≤ _), (by decide : 0 + 0 ≤ _)⟩) (pq 7) ?_
       rintro _ _ ⟨T39, L39, k39, n39⟩ X39 ⟨Lc39, hQ39, l39, y39, z39⟩
       dsimp only [Pt.U, Pt.locs, Pt.cells, Pt.slots] at X39 l39 y39 z39 hQ39 ⊢
       rw [l39, y39, z39] at X39
       obtain ⟨rfl, N39q, e39⟩ := hQ39
       have N40 := Fr.app N38 N39q
       show Runs _ _ _ _ (T39.setTop (mkF m 7 _ [(.int ((lenK qq nn k0 k1 k2 k3) >>> ((0 : Int32) &&& 31))), (.int (4 : Int32))]))
       rw [own_shr0 (lenK qq nn k0 k1 k2 k3)]
       refine w_icY X39 hx (d56_7 hby) (flt (own_lbn4 hX_8 hP_6 )).2.1 (pc' := 54) (by decide) (by decide) ?_
       refine w_aloadN X39 hx (d56_54 hby) rfl rfl (pq 55) ?_
       exact w_done X39 hlk (v := some (.ref a0)) e39 (fun h => by rw [hret] at h; cases h) (fun fs hr => retOut X39 hx hret rfl (Or.inr (Or.inr (Or.inr (Or.inr ⟨rfl, rfl, rfl⟩)))) (d56_55 hby) hr) (by decide) (by decide) (⟨rfl, N40, rfl⟩)
theorem ef_m51_46 (m : MethodId) (a0 : Addr)  : entryFrame m #[(.ref a0)] 1 = mkF m 0 #[.val (.ref a0)] [] := by first | (simp [entryFrame, mkF, argsToLocals, Value.category]; done) | rfl
def Q_m51_46 (Z : State) (a0 : Addr) (h0 : Heap) (n0 : Nat) (v : Option Value) (h : Heap) (L : List Loc) : Prop := v = none ∧ Fr n0 L ∧ h = h0
theorem rm_m51_46 (l : Launch) (Z : State) (aZ : Array Value) (hw : ∀ d ∈ tables_1, d.before aZ Z = true) (ws : List Jvm.Cond) (a0 : Addr) (h0 : Heap) (n0 : Nat) (Z0 : n0 ≤ h0.size) :
    MetN l Z yn_51 jdk_30_method_1_code 1 none ws ({ frames := 1, cells := 0, slots := 0, locals := 12 } : Room) #[(.ref a0)] h0 (Q_m51_46 Z a0 h0 n0) := by
 refine MetN.of (plainFor_of_name pn_8) ?_
 intro p e s m below meth c s₁ hret hx hby hml hown hnm hlk hZ X0 e0
 have N0 := Fr.nil n0
 rw [ef_m51_46 m a0]
 refine w_aloadN X0 hx (d51_0 hby) rfl rfl (pq 1) ?_
 refine w_initO X0 hx 0 hZ hown (wd_235 hw) (wd_32 hw) (wd_33 hw) e0 (by rw [hml]; rfl) (d51_1 hby) (by decide) (Nat.le_of_eq rfl) (by decide) (pq 4) ?_
 intro T20 X20 e20
 exact w_done X20 hlk (v := none) e20 (fun _ => rfl) (fun fs hr => X20.returnOut hx hret (d51_4 hby) hr) (by decide) (by decide) (⟨rfl, N0, rfl⟩)
theorem ef_m52_47 (m : MethodId) (a0 : Addr)  : entryFrame m #[(.ref a0)] 1 = mkF m 0 #[.val (.ref a0)] [] := by first | (simp [entryFrame, mkF, argsToLocals, Value.category]; done) | rfl
def Q_m52_47 (Z : State) (a0 : Addr) (jj0 : Addr) (jj1 : ClassId) (jj2 : Int32) (jj3 : List Int32) (h0 : Heap) (n0 : Nat) (v : Option Value) (h : Heap) (L : List Loc) : Prop := v = some (.int (0 : Int32)) ∧ Fr n0 L ∧ h = h0
theorem rm_m52_47 (l : Launch) (Z : State) (aZ : Array Value) (hw : ∀ d ∈ tables_1, d.before aZ Z = true) (ws : List Jvm.Cond) (a0 : Addr) (jj0 : Addr) (jj1 : ClassId) (jj2 : Int32) (jj3 : List Int32) (h0 : Heap) (n0 : Nat) (Z0 : n0 ≤ h0.size) (zz4 : Fld Z h0 a0 kc0 "value" "[B" (.ref jj0)) (zz5 : Arv Z h0 jj0 jj1 .byte jj2 (mI jj3) (.int (0 : Int32))) (hP_2 : ¬ (jj2 = (0 : Int32))) :
    MetN l Z yn_52 jdk_42_method_55_code 1 (some .boolean) ws ({ frames := 0, cells := 0, slots := 0, locals := 0 } : Room) #[(.ref a0)] h0 (Q_m52_47 Z a0 jj0 jj1 jj2 jj3 h0 n0) := by
 refine MetN.of (plainFor_of_name pn_3) ?_
 intro p e s m below meth c s₁ hret hx hby hml hown hnm hlk hZ X0 e0
 have N0 := Fr.nil n0
 rw [ef_m52_47 m a0]
 refine w_aloadN X0 hx (d52_0 hby) rfl rfl (pq 1) ?_
 refine w_getF X0 hx "" hZ hown (Or.inl (wd_48 hw)) Via.refl e0 zz4 (d52_1 hby) (pq 4) ?_
 intro T20 X20 e20
 refine w_alen X20 hx hZ e20 zz5 (d52_4 hby) (pq 5) ?_
 refine w_ifY X20 hx (d52_5 hby) (feq hP_2).2 (pc' := 12) (by decide) (by decide) ?_
 refine w_iconst X20 hx (d52_12 hby) (v := (0 : Int32)) rfl (pq 13) ?_
 exact w_done X20 hlk (v := some (.int (0 : Int32))) e20 (fun h => by rw [hret] at h; cases h) (fun fs hr => retN X20 hx (t := .boolean) hret (by simp) (d52_13 hby) hr) (by decide) (by decide) (⟨rfl, N0, rfl⟩)
theorem ef_m50_46 (m : MethodId) (a0 : Addr) (a1 : Addr)  : entryFrame m #[(.ref a0), (.ref a1)] 4 = mkF m 0 #[.val (.ref a0), .val (.ref a1), .unset, .unset] [] := by first | (simp [entryFrame, mkF, argsToLocals, Value.category]; done) | rfl
def Q_m50_46 (Z : State) (a0 : Addr) (a1 : Addr) (qq : Int32) (nn : Int32) (k0 : Int32) (k1 : Int32) (k2 : Int32) (k3 : Int32) (jj0 : Addr) (jj1 : ClassId) (jj2 : Int32) (jj3 : Value) (h0 : Heap) (n0 : Nat) (v : Option Value) (h : Heap) (L : List Loc) (S : Addr → Prop) : Prop := v = none ∧ Fr n0 L ∧ Keep h0 h [a0] ∧ Exa Z h a0 kc2 ∧ Fld Z h a0 kc2 "value" "Ljava/lang/String;" (.ref a1)
theorem rm_m50_46 (l : Launch) (Z : State) (aZ : Array Value) (hw : ∀ d ∈ tables_1, d.before aZ Z = true) (ws : List Jvm.Cond) (a0 : Addr) (a1 : Addr) (qq : Int32) (nn : Int32) (k0 : Int32) (k1 : Int32) (k2 : Int32) (k3 : Int32) (jj0 : Addr) (jj1 : ClassId) (jj2 : Int32) (jj3 : Value) (h0 : Heap) (n0 : Nat) (Z0 : n0 ≤ h0.size) (E_a1 : Exa Z h0 a1 kc0) (zz4 : Fld Z h0 a1 kc0 "value" "[B" (.ref jj0)) (zz5 : Arv Z h0 jj0 jj1 .byte nn (mI (lowL (cl4 nn k0 k1 k2 k3))) (.int (0 : Int32))) (hP_3 : qq = (0 : Int32)) (hX_4 : ENC qq nn k0 k1 k2 k3) (zz6 : Sta Z Z.heap kc0 "COMPACT_STRINGS" "Z" (.int jj2)) (O0 : Old Z n0 h0) (zz7 : Fld Z h0 a1 kc0 "coder" "B" (.int (0 : Int32))) (hP_8 : ¬ (jj2 = (0 : Int32))) (zz8 : jj3.isRef = true) (zz9 : Sta Z Z.heap kc3 "SIOOBE_FORMATTER" "Ljava/util/function/BiFunction;" jj3) (E_a0 : Exa Z h0 a0 kc2) (zz10 : Fld Z h0 a0 kc2 "value" "Ljava/lang/String;" .null) (zz11 : n0 ≤ a0) :
    MetH l Z EL yn_50 prog_3_method_1_code 4 none ws ({ frames := 4, cells := 2, slots := 24, locals := 53 } : Room) #[(.ref a0), (.ref a1)] h0 (Q_m50_46 Z a0 a1 qq nn k0 k1 k2 k3 jj0 jj1 jj2 jj3 h0 n0) [] := by
 refine MetH.of (plainFor_of_name pn_1) ?_
 intro p e s m below meth c s₁ hret hx hby hml hown hnm hlk hZ X0 e0 hh hH hsf hS0 C0
 have N0 := Fr.nil n0
 rw [ef_m50_46 m a0 a1]
 refine w_aloadN X0 hx (d50_0 hby) rfl rfl (pq 1) ?_
 refine w_special X0 hx (y := yn_51) rfl hown (mvT hZ (wd_230 hw)) (mvT hZ (wd_231 hw)) (mvT hZ (wd_234 hw)) (by decide) (backOf (W := 0) (rm_m51_46 l Z aZ hw [] a0 h0 n0 Z0 ) hZ (wd_234 hw) (wd_233 hw) (by decide) (by decide)) (by rw [hml]; rfl) [] (lenOf pd_24 rfl) rfl (Nat.le_of_eq rfl) (d50_1 hby) (fun _ _ => ⟨rfl, e0, (by decide : 0 + 0 ≤ _), (by decide : 0 + 0 ≤ _)⟩) (pq 4) ?_
 rintro _ _ ⟨T20, L20, k20, n20⟩ X20 ⟨Lc20, hQ20, l20, y20, z20⟩
 dsimp only [Pt.U, Pt.locs, Pt.cells, Pt.slots] at X20 l20 y20 z20 hQ20 ⊢
 rw [l20, y20, z20] at X20
 obtain ⟨rfl, N20q, e20⟩ := hQ20
 have N21 := Fr.app N0 N20q
 show Runs _ _ _ _ (T20.setTop (mkF m 4 _ []))
 refine w_aloadN X20 hx (d50_4 hby) rfl rfl (pq 5) ?_
 obtain ⟨a22, T22, h22, k22, b22, c22, X22, e22, E22, hS22, hk22, hZ22, hown22, gE22, gC22, gV22, gA22, lt22, ltb22, A22, -, ns22, st22⟩ := ldcCH X20 hx hZ hown (wd_236 hw) (own_wS hw) e20 hS0 (Nat.le_refl _) (own_EW hw) (by simp [EL, x]) C0.1 (vs := [(.int (118 : Int32)), (.int (97 : Int32)), (.int (108 : Int32)), (.int (117 : Int32)), (.int (101 : Int32))]) (z := (5 : Int32)) (by decide +kernel) (by decide) (by decide) (g := (mkF m 5 #[.val (.ref a0), .val (.ref a1), .unset, .unset] [(.ref a1)])) rfl (d50_5 hby) (n := 20) (by decide +kernel) (by decide) (by decide) (by decide)
 refine Runs.by ?_ st22
 have C23 : CHr Z EL s.vm h0 T22.vm h22 := C0.trans A22
 have K24 : Keep h0 h22 [a0] := (Keep.refl h0 [a0]).ext E22
 show Runs _ _ _ _ (T22.setTop (mkF m 7 _ [(.ref a22), (.ref a1)]))
 refine w_static X22 hx (y := yn_14) hown22 (mvT hZ22 (wd_57 hw)) (mvT hZ22 (wd_58 hw)) (mvT hZ22 (wd_59 hw)) (mvT hZ22 (wd_60 hw)) (by decide) (backOf (W := 0) (rm_m14_2 l Z aZ hw [] a1 a22 h22 n0 (Nat.le_trans Z0 E22.1) ) hZ22 (wd_60 hw) (wd_59 hw) (by decide) (by decide)) (by rw [hml]; rfl) [(.ref a1), (.ref a22)] (lenOf pd_6 rfl) rfl (Nat.le_of_eq rfl) (d50_7 hby) (fun _ _ => ⟨rfl, e22, (by decide : 2 + 0 ≤ _), (by decide : 24 + 0 ≤ _)⟩) (pq 10) ?_
 rintro _ _ ⟨T25, L25, k25, n25⟩ X25 ⟨Lc25, hQ25, l25, y25, z25⟩
 dsimp only [Pt.U, Pt.locs, Pt.cells, Pt.slots] at X25 l25 y25 z25 hQ25 ⊢
 rw [l25, y25, z25] at X25
 obtain ⟨rfl, N25q, e25⟩ := hQ25
 have N26 := Fr.app N21 N25q
 show Runs _ _ _ _ (T25.setTop (mkF m 10 _ [(.ref a1)]))
 refine w_pop X25 hx (d50_10 hby) rfl (pq 11) ?_
 refine w_aloadN X25 hx (d50_11 hby) rfl rfl (pq 12) ?_
 have f27 : Fld Z h22 a1 kc0 "value" "[B" (.ref jj0) := (zz4.ext E22)
 have f28 : Arv Z h22 jj0 jj1 .byte nn (mI (lowL (cl4 nn k0 k1 k2 k3))) (.int (0 : Int32)) := (zz5.ext E22)
 have f30 : Exa Z h22 a1 kc0 := (E_a1.ext E22)
 obtain ⟨cq29, kq29, q29a, q29b, q29c⟩ := isOf hZ22 e25 f30
 refine w_virtual X25 hx (y := yn_52) (z := yn_52) hown22 (mvT hZ22 (wd_237 hw)) (mvT hZ22 (wd_238 hw)) (notFace_of_selects (args := #[]) (mvT hZ22 (wd_240 hw))) (mvT hZ22 (wd_240 hw)) (mvT hZ22 (wd_239 hw)) (by decide) (backOf (W := 0) (rm_m52_47 l Z aZ hw [] a1 jj0 jj1 nn (lowL (cl4 nn k0 k1 k2 k3)) h22 n0 (Nat.le_trans Z0 E22.1) f27 f28 (own_nn0 hX_4)) hZ22 (wd_241 hw) (wd_23 hw) (by decide) (by decide)) q29a q29c (by rw [hml]; rfl) [] (lenOf pd_9 rfl) rfl (Nat.le_of_eq rfl) (d50_12 hby) (fun _ _ => ⟨rfl, e25, (by decide : 2 + 0 ≤ _), (by decide : 24 + 0 ≤ _)⟩) (pq 15) ?_
 rintro _ _ ⟨T29, L29, k29, n29⟩ X29 ⟨Lc29, hQ29, l29, y29, z29⟩
 dsimp only [Pt.U, Pt.locs, Pt.cells, Pt.slots] at X29 l29 y29 z29 hQ29 ⊢
 rw [l29, y29, z29] at X29
 obtain ⟨rfl, N29q, e29⟩ := hQ29
 have N31 := Fr.app N26 N29q
 show Runs _ _ _ _ (T29.setTop (mkF m 15 _ [(.int (0 : Int32))]))
 refine w_ifN X29 hx (d50_15 hby) (teq (by decide : (0 : Int32) = (0 : Int32))).2 (pq 18) ?_
 refine w_aloadN X29 hx (d50_18 hby) rfl rfl (pq 19) ?_
 have f32 : Old Z n0 h22 := (O0.ext E22)
 have f33 : Fld Z h22 a1 kc0 "coder" "B" (.int (0 : Int32)) := (zz7.ext E22)
 obtain ⟨cq34, kq34, q34a, q34b, q34c⟩ := isOf hZ22 e29 f30
 refine w_virtual X29 hx (y := yn_16) (z := yn_16) hown22 (mvT hZ22 (wd_65 hw)) (mvT hZ22 (wd_66 hw)) (notFace_of_selects (args := #[]) (mvT hZ22 (wd_68 hw))) (mvT hZ22 (wd_68 hw)) (mvT hZ22 (wd_67 hw)) (by decide) (backOf (W := 0) (rm_m16_25 l Z aZ hw [] a1 jj0 jj1 nn (lowL (cl4 nn k0 k1 k2 k3)) jj2 h22 n0 (Nat.le_trans Z0 E22.1) f27 f28 f30 zz6 f32 f33 hP_8) hZ22 (wd_69 hw) (wd_23 hw) (by decide) (by decide)) q34a q34c (by rw [hml]; rfl) [] (lenOf pd_8 rfl) rfl (Nat.le_of_eq rfl) (d50_19 hby) (fun _ _ => ⟨rfl, e29, (by decide : 2 + 0 ≤ _), (by decide : 24 + 0 ≤ _)⟩) (pq 22) ?_
 rintro _ _ ⟨T34, L34, k34, n34⟩ X34 ⟨Lc34, hQ34, l34, y34, z34⟩
 dsimp only [Pt.U, Pt.locs, Pt.cells, Pt.slots] at X34 l34 y34 z34 hQ34 ⊢
 rw [l34, y34, z34] at X34
 obtain ⟨rfl, N34q, e34⟩ := hQ34
 have N35 := Fr.app N31 N34q
 show Runs _ _ _ _ (T34.setTop (mkF m 22 _ [(.int (nn >>> ((0 : Int32) &&& 31)))]))
 rw [own_shr0 nn]
 refine w_sipush X34 hx (d50_22 hby) (v := (255 : Int32)) rfl (pq 25) ?_
 refine w_icY X34 hx (d50_25 hby) (flt (own_nn4x hX_4 (by decide) (by decide))).2.2.2 (pc' := 45) (by decide) (by decide) ?_
 refine w_iconst X34 hx (d50_45 hby) (v := (0 : Int32)) rfl (pq 46) ?_
 refine w_istoreN X34 hx (d50_46 hby) (L' := #[.val (.ref a0), .val (.ref a1), .val (.int (0 : Int32)), .unset]) rfl (pq 47) ?_
 refine w_iloadN X34 hx (d50_47 hby) rfl (pq 48) ?_
 refine w_aloadN X34 hx (d50_48 hby) rfl rfl (pq 49) ?_
 obtain ⟨cq36, kq36, q36a, q36b, q36c⟩ := isOf hZ22 e34 f30
 refine w_virtual X34 hx (y := yn_16) (z := yn_16) hown22 (mvT hZ22 (wd_65 hw)) (mvT hZ22 (wd_66 hw)) (notFace_of_selects (args := #[]) (mvT hZ22 (wd_68 hw))) (mvT hZ22 (wd_68 hw)) (mvT hZ22 (wd_67 hw)) (by decide) (backOf (W := 1) (rm_m16_25 l Z aZ hw [] a1 jj0 jj1 nn (lowL (cl4 nn k0 k1 k2 k3)) jj2 h22 n0 (Nat.le_trans Z0 E22.1) f27 f28 f30 zz6 f32 f33 hP_8) hZ22 (wd_69 hw) (wd_23 hw) (by decide) (by decide)) q36a q36c (by rw [hml]; rfl) [] (lenOf pd_8 rfl) rfl (Nat.le_of_eq rfl) (d50_49 hby) (fun _ _ => ⟨rfl, e34, (by decide : 2 + 0 ≤ _), (by decide : 24 + 0 ≤ _)⟩) (pq 52) ?_
 rintro _ _ ⟨T36, L36, k36, n36⟩ X36 ⟨Lc36, hQ36, l36, y36, z36⟩
 dsimp only [Pt.U, Pt.locs, Pt.cells, Pt.slots] at X36 l36 y36 z36 hQ36 ⊢
 rw [l36, y36, z36] at X36
 obtain ⟨rfl, N36q, e36⟩ := hQ36
 have N37 := Fr.app N35 N36q
 show Runs _ _ _ _ (T36.setTop (mkF m 52 _ [(.int (nn >>> ((0 : Int32) &&& 31))), (.int (0 : Int32))]))
 rw [own_shr0 nn]
 refine w_icN X36 hx (d50_52 hby) (tlt (own_0nn hX_4)).2.1 (pq 55) ?_
 refine w_aloadN X36 hx (d50_55 hby) rfl rfl (pq 56) ?_
 refine w_iloadN X36 hx (d50_56 hby) rfl (pq 57) ?_
 obtain ⟨cq38, kq38, q38a, q38b, q38c⟩ := isOf hZ22 e36 f30
 refine w_virtual X36 hx (y := yn_18) (z := yn_18) hown22 (mvT hZ22 (wd_75 hw)) (mvT hZ22 (wd_76 hw)) (notFace_of_selects (args := #[]) (mvT hZ22 (wd_78 hw))) (mvT hZ22 (wd_78 hw)) (mvT hZ22 (wd_77 hw)) (by decide) (backOf (W := 0) (rm_m18_29 l Z aZ hw [] a1 jj2 jj0 jj1 nn (lowL (cl4 nn k0 k1 k2 k3)) jj3 h22 n0 (Nat.le_trans Z0 E22.1) f30 zz6 f32 f33 hP_8 f27 f28 (own_0nn hX_4) zz8 zz9) hZ22 (wd_79 hw) (wd_23 hw) (by decide) (by decide)) q38a q38c (by rw [hml]; rfl) [(.int (0 : Int32))] (lenOf pd_1 rfl) rfl (Nat.le_of_eq rfl) (d50_57 hby) (fun _ _ => ⟨rfl, e36, (by decide : 2 + 0 ≤ _), (by decide : 24 + 0 ≤ _)⟩) (pq 60) ?_
 rintro _ _ ⟨T38, L38, k38, n38⟩ X38 ⟨Lc38, hQ38, l38, y38, z38⟩
 dsimp only [Pt.U, Pt.locs, Pt.cells, Pt.slots] at X38 l38 y38 z38 hQ38 ⊢
 rw [l38, y38, z38] at X38
 obtain ⟨rfl, N38q, e38⟩ := hQ38
 have N39 := Fr.app N37 N38q
 show Runs _ _ _ _ (T38.setTop (mkF m 60 _ [(.int (((gI (lowL (cl4 nn k0 k1 k2 k3)) (0 : Int32)) &&& (255 : Int32)).toUInt32.toUInt16.toUInt32.toInt32))]))
 rw [show (((gI (lowL (cl4 nn k0 k1 k2 k3)) (0 : Int32)) &&& (255 : Int32)).toUInt32.toUInt16.toUInt32.toInt32) = k0 from own_clx0 hX_4 ]
 refine w_istoreN X38 hx (d50_60 hby) (L' := #[.val (.ref a0), .val (.ref a1), .val (.int (0 : Int32)), .val (.int k0)]) rfl (pq 61) ?_
 refine w_iloadN X38 hx (d50_61 hby) rfl (pq 62) ?_
 refine w_bipush X38 hx (d50_62 hby) (v := (32 : Int32)) rfl (pq 64) ?_
 refine w_icN X38 hx (d50_64 hby) (flt (own_eK0 hX_4).1).1 (pq 67) ?_
 refine w_iloadN X38 hx (d50_67 hby) rfl (pq 68) ?_
 refine w_bipush X38 hx (d50_68 hby) (v := (126 : Int32)) rfl (pq 70) ?_
 refine w_icY X38 hx (d50_70 hby) (flt (own_k126 (own_eK0 hX_4))).2.2.2 (pc' := 104) (by decide) (by decide) ?_
 refine w_iinc X38 hx (d50_104 hby) (v := (1 : Int32)) rfl rfl (L' := #[.val (.ref a0), .val (.ref a1), .val (.int ((0 : Int32) + (1 : Int32))), .val (.int k0)]) rfl (pq 107) ?_
 rw [show ((0 : Int32) + (1 : Int32)) = (1 : Int32) from by decide]
 refine w_goto X38 hx (d50_107 hby) (pc' := 47) (by decide) (by decide) ?_
 refine w_iloadN X38 hx (d50_47 hby) rfl (pq 48) ?_
 refine w_aloadN X38 hx (d50_48 hby) rfl rfl (pq 49) ?_
 obtain ⟨cq40, kq40, q40a, q40b, q40c⟩ := isOf hZ22 e38 f30
 refine w_virtual X38 hx (y := yn_16) (z := yn_16) hown22 (mvT hZ22 (wd_65 hw)) (mvT hZ22 (wd_66 hw)) (notFace_of_selects (args := #[]) (mvT hZ22 (wd_68 hw))) (mvT hZ22 (wd_68 hw)) (mvT hZ22 (wd_67 hw)) (by decide) (backOf (W := 1) (rm_m16_25 l Z aZ hw [] a1 jj0 jj1 nn (lowL (cl4 nn k0 k1 k2 k3)) jj2 h22 n0 (Nat.le_trans Z0 E22.1) f27 f28 f30 zz6 f32 f33 hP_8) hZ22 (wd_69 hw) (wd_23 hw) (by decide) (by decide)) q40a q40c (by rw [hml]; rfl) [] (lenOf pd_8 rfl) rfl (Nat.le_of_eq rfl) (d50_49 hby) (fun _ _ => ⟨rfl, e38, (by decide : 2 + 0 ≤ _), (by decide : 24 + 0 ≤ _)⟩) (pq 52) ?_
 rintro _ _ ⟨T40, L40, k40, n40⟩ X40 ⟨Lc40, hQ40, l40, y40, z40⟩
 dsimp only [Pt.U, Pt.locs, Pt.cells, Pt.slots] at X40 l40 y40 z40 hQ40 ⊢
 rw [l40, y40, z40] at X40
 obtain ⟨rfl, N40q, e40⟩ := hQ40
 have N41 := Fr.app N39 N40q
 show Runs _ _ _ _ (T40.setTop (mkF m 52 _ [(.int (nn >>> ((0 : Int32) &&& 31))), (.int (1 : Int32))]))
 rw [own_shr0 nn]
 by_cases hc42 : nn < (2 : Int32)
 · refine w_icY X40 hx (d50_52 hby) (flt (own_ltn hc42 (by decide))).2.1 (pc' := 110) (by decide) (by decide) ?_
   refine w_aloadN X40 hx (d50_110 hby) rfl rfl (pq 111) ?_
   refine w_aloadN X40 hx (d50_111 hby) rfl rfl (pq 112) ?_
   have f43 : Exa Z h22 a0 kc2 := (E_a0.ext E22)
   have f44 : Fld Z h22 a0 kc2 "value" "Ljava/lang/String;" .null := (zz10.ext E22)
   refine w_putF X40 hx "" hZ22 hown22 (Or.inl (wd_242 hw)) Via.refl e40 f44 f43 (Or.inr ⟨(wd_243 hw), rfl, hnm⟩) (wd_226 hw) (ty := (.object kc0)) (by decide) rfl rfl (d50_112 hby) (pq 115) ?_
   intro T45 h45 X45 e45 W45
   have C46 : CHr Z EL s.vm h0 T22.vm h45 := C23.trans (CHr.wr W45 (Safe.exa hZ22.alike f43 (by decide) (by decide)) C23.1)
   have f47 : Fld Z h45 a0 kc2 "value" "Ljava/lang/String;" (.ref a1) := f44.same W45
   have K48 : Keep h0 h45 [a0] := K24.wr W45 (Or.inl (by simp))
   have N49 := Fr.snoc X45 N41 zz11
   have f50 : Exa Z h45 a0 kc2 := (f43.wr W45)
   exact w_doneH X45 hlk (v := none) e45 hh hZ22 (own_EW hw) hS22 (Nat.le_trans hk22 (Keep.of_wr W45).1) C46 (fun _ => rfl) (fun fs hr => X45.returnOut hx hret (d50_115 hby) hr) (by decide) (by decide) (fun hsy => ⟨rfl, N49, K48, f50, f47⟩)
 · refine w_icN X40 hx (d50_52 hby) (tlt (own_gen hc42 (by decide))).2.1 (pq 55) ?_
   refine w_aloadN X40 hx (d50_55 hby) rfl rfl (pq 56) ?_
   refine w_iloadN X40 hx (d50_56 hby) rfl (pq 57) ?_
   obtain ⟨cq51, kq51, q51a, q51b, q51c⟩ := isOf hZ22 e40 f30
   refine w_virtual X40 hx (y := yn_18) (z := yn_18) hown22 (mvT hZ22 (wd_75 hw)) (mvT hZ22 (wd_76 hw)) (notFace_of_selects (args := #[]) (mvT hZ22 (wd_78 hw))) (mvT hZ22 (wd_78 hw)) (mvT hZ22 (wd_77 hw)) (by decide) (backOf (W := 0) (rm_m18_33 l Z aZ hw [] a1 jj2 jj0 jj1 nn (lowL (cl4 nn k0 k1 k2 k3)) jj3 h22 n0 (Nat.le_trans Z0 E22.1) f30 zz6 f32 f33 hP_8 f27 f28 (own_gen hc42 (by decide)) zz8 zz9) hZ22 (wd_79 hw) (wd_23 hw) (by decide) (by decide)) q51a q51c (by rw [hml]; rfl) [(.int (1 : Int32))] (lenOf pd_1 rfl) rfl (Nat.le_of_eq rfl) (d50_57 hby) (fun _ _ => ⟨rfl, e40, (by decide : 2 + 0 ≤ _), (by decide : 24 + 0 ≤ _)⟩) (pq 60) ?_
   rintro _ _ ⟨T51, L51, k51, n51⟩ X51 ⟨Lc51, hQ51, l51, y51, z51⟩
   dsimp only [Pt.U, Pt.locs, Pt.cells, Pt.slots] at X51 l51 y51 z51 hQ51 ⊢
   rw [l51, y51, z51] at X51
   obtain ⟨rfl, N51q, e51⟩ := hQ51
   have N52 := Fr.app N41 N51q
   show Runs _ _ _ _ (T51.setTop (mkF m 60 _ [(.int (((gI (lowL (cl4 nn k0 k1 k2 k3)) (1 : Int32)) &&& (255 : Int32)).toUInt32.toUInt16.toUInt32.toInt32))]))
   rw [show (((gI (lowL (cl4 nn k0 k1 k2 k3)) (1 : Int32)) &&& (255 : Int32)).toUInt32.toUInt16.toUInt32.toInt32) = k1 from own_clx1 hX_4 hc42]
   refine w_istoreN X51 hx (d50_60 hby) (L' := #[.val (.ref a0), .val (.ref a1), .val (.int (1 : Int32)), .val (.int k1)]) rfl (pq 61) ?_
   refine w_iloadN X51 hx (d50_61 hby) rfl (pq 62) ?_
   refine w_bipush X51 hx (d50_62 hby) (v := (32 : Int32)) rfl (pq 64) ?_
   refine w_icN X51 hx (d50_64 hby) (flt (own_eK1 hX_4).1).1 (pq 67) ?_
   refine w_iloadN X51 hx (d50_67 hby) rfl (pq 68) ?_
   refine w_bipush X51 hx (d50_68 hby) (v := (126 : Int32)) rfl (pq 70) ?_
   refine w_icY X51 hx (d50_70 hby) (flt (own_k126 (own_eK1 hX_4))).2.2.2 (pc' := 104) (by decide) (by decide) ?_
   refine w_iinc X51 hx (d50_104 hby) (v := (1 : Int32)) rfl rfl (L' := #[.val (.ref a0), .val (.ref a1), .val (.int ((1 : Int32) + (1 : Int32))), .val (.int k1)]) rfl (pq 107) ?_
   rw [show ((1 : Int32) + (1 : Int32)) = (2 : Int32) from by decide]
   refine w_goto X51 hx (d50_107 hby) (pc' := 47) (by decide) (by decide) ?_
   refine w_iloadN X51 hx (d50_47 hby) rfl (pq 48) ?_
   refine w_aloadN X51 hx (d50_48 hby) rfl rfl (pq 49) ?_
   obtain ⟨cq53, kq53, q53a, q53b, q53c⟩ := isOf hZ22 e51 f30
   refine w_virtual X51 hx (y := yn_16) (z := yn_16) hown22 (mvT hZ22 (wd_65 hw)) (mvT hZ22 (wd_66 hw)) (notFace_of_selects (args := #[]) (mvT hZ22 (wd_68 hw))) (mvT hZ22 (wd_68 hw)) (mvT hZ22 (wd_67 hw)) (by decide) (backOf (W := 1) (rm_m16_25 l Z aZ hw [] a1 jj0 jj1 nn (lowL (cl4 nn k0 k1 k2 k3)) jj2 h22 n0 (Nat.le_trans Z0 E22.1) f27 f28 f30 zz6 f32 f33 hP_8) hZ22 (wd_69 hw) (wd_23 hw) (by decide) (by decide)) q53a q53c (by rw [hml]; rfl) [] (lenOf pd_8 rfl) rfl (Nat.le_of_eq rfl) (d50_49 hby) (fun _ _ => ⟨rfl, e51, (by decide : 2 + 0 ≤ _), (by decide : 24 + 0 ≤ _)⟩) (pq 52) ?_
   rintro _ _ ⟨T53, L53, k53, n53⟩ X53 ⟨Lc53, hQ53, l53, y53, z53⟩
   dsimp only [Pt.U, Pt.locs, Pt.cells, Pt.slots] at X53 l53 y53 z53 hQ53 ⊢
   rw [l53, y53, z53] at X53
   obtain ⟨rfl, N53q, e53⟩ := hQ53
   have N54 := Fr.app N52 N53q
   show Runs _ _ _ _ (T53.setTop (mkF m 52 _ [(.int (nn >>> ((0 : Int32) &&& 31))), (.int (2 : Int32))]))
   rw [own_shr0 nn]
   by_cases hc55 : nn < (3 : Int32)
   · refine w_icY X53 hx (d50_52 hby) (flt (own_ltn hc55 (by decide))).2.1 (pc' := 110) (by decide) (by decide) ?_
     refine w_aloadN X53 hx (d50_110 hby) rfl rfl (pq 111) ?_
     refine w_aloadN X53 hx (d50_111 hby) rfl rfl (pq 112) ?_
     have f56 : Exa Z h22 a0 kc2 := (E_a0.ext E22)
     have f57 : Fld Z h22 a0 kc2 "value" "Ljava/lang/String;" .null := (zz10.ext E22)
     refine w_putF X53 hx "" hZ22 hown22 (Or.inl (wd_242 hw)) Via.refl e53 f57 f56 (Or.inr ⟨(wd_243 hw), rfl, hnm⟩) (wd_226 hw) (ty := (.object kc0)) (by decide) rfl rfl (d50_112 hby) (pq 115) ?_
     intro T58 h58 X58 e58 W58
     have C59 : CHr Z EL s.vm h0 T22.vm h58 := C23.trans (CHr.wr W58 (Safe.exa hZ22.alike f56 (by decide) (by decide)) C23.1)
     have f60 : Fld Z h58 a0 kc2 "value" "Ljava/lang/String;" (.ref a1) := f57.same W58
     have K61 : Keep h0 h58 [a0] := K24.wr W58 (Or.inl (by simp))
     have N62 := Fr.snoc X58 N54 zz11
     have f63 : Exa Z h58 a0 kc2 := (f56.wr W58)
     exact w_doneH X58 hlk (v := none) e58 hh hZ22 (own_EW hw) hS22 (Nat.le_trans hk22 (Keep.of_wr W58).1) C59 (fun _ => rfl) (fun fs hr => X58.returnOut hx hret (d50_115 hby) hr) (by decide) (by decide) (fun hsy => ⟨rfl, N62, K61, f63, f60⟩)
   · refine w_icN X53 hx (d50_52 hby) (tlt (own_gen hc55 (by decide))).2.1 (pq 55) ?_
     refine w_aloadN X53 hx (d50_55 hby) rfl rfl (pq 56) ?_
     refine w_iloadN X53 hx (d50_56 hby) rfl (pq 57) ?_
     obtain ⟨cq64, kq64, q64a, q64b, q64c⟩ := isOf hZ22 e53 f30
     refine w_virtual X53 hx (y := yn_18) (z := yn_18) hown22 (mvT hZ22 (wd_75 hw)) (mvT hZ22 (wd_76 hw)) (notFace_of_selects (args := #[]) (mvT hZ22 (wd_78 hw))) (mvT hZ22 (wd_78 hw)) (mvT hZ22 (wd_77 hw)) (by decide) (backOf (W := 0) (rm_m18_37 l Z aZ hw [] a1 jj2 jj0 jj1 nn (lowL (cl4 nn k0 k1 k2 k3)) jj3 h22 n0 (Nat.le_trans Z0 E22.1) f30 zz6 f32 f33 hP_8 f27 f28 (own_gen hc55 (by decide)) zz8 zz9) hZ22 (wd_79 hw) (wd_23 hw) (by decide) (by decide)) q64a q64c (by rw [hml]; rfl) [(.int (2 : Int32))] (lenOf pd_1 rfl) rfl (Nat.le_of_eq rfl) (d50_57 hby) (fun _ _ => ⟨rfl, e53, (by decide : 2 + 0 ≤ _), (by decide : 24 + 0 ≤ _)⟩) (pq 60) ?_
     rintro _ _ ⟨T64, L64, k64, n64⟩ X64 ⟨Lc64, hQ64, l64, y64, z64⟩
     dsimp only [Pt.U, Pt.locs, Pt.cells, Pt.slots] at X64 l64 y64 z64 hQ64 ⊢
     rw [l64, y64, z64] at X64
     obtain ⟨rfl, N64q, e64⟩ := hQ64
     have N65 := Fr.app N54 N64q
     show Runs _ _ _ _ (T64.setTop (mkF m 60 _ [(.int (((gI (lowL (cl4 nn k0 k1 k2 k3)) (2 : Int32)) &&& (255 : Int32)).toUInt32.toUInt16.toUInt32.toInt32))]))
     rw [show (((gI (lowL (cl4 nn k0 k1 k2 k3)) (2 : Int32)) &&& (255 : Int32)).toUInt32.toUInt16.toUInt32.toInt32) = k2 from own_clx2 hX_4 hc55]
     refine w_istoreN X64 hx (d50_60 hby) (L' := #[.val (.ref a0), .val (.ref a1), .val (.int (2 : Int32)), .val (.int k2)]) rfl (pq 61) ?_
     refine w_iloadN X64 hx (d50_61 hby) rfl (pq 62) ?_
     refine w_bipush X64 hx (d50_62 hby) (v := (32 : Int32)) rfl (pq 64) ?_
     refine w_icN X64 hx (d50_64 hby) (flt (own_eK2 hX_4).1).1 (pq 67) ?_
     refine w_iloadN X64 hx (d50_67 hby) rfl (pq 68) ?_
     refine w_bipush X64 hx (d50_68 hby) (v := (126 : Int32)) rfl (pq 70) ?_
     refine w_icY X64 hx (d50_70 hby) (flt (own_k126 (own_eK2 hX_4))).2.2.2 (pc' := 104) (by decide) (by decide) ?_
     refine w_iinc X64 hx (d50_104 hby) (v := (1 : Int32)) rfl rfl (L' := #[.val (.ref a0), .val (.ref a1), .val (.int ((2 : Int32) + (1 : Int32))), .val (.int k2)]) rfl (pq 107) ?_
     rw [show ((2 : Int32) + (1 : Int32)) = (3 : Int32) from by decide]
     refine w_goto X64 hx (d50_107 hby) (pc' := 47) (by decide) (by decide) ?_
     refine w_iloadN X64 hx (d50_47 hby) rfl (pq 48) ?_
     refine w_aloadN X64 hx (d50_48 hby) rfl rfl (pq 49) ?_
     obtain ⟨cq66, kq66, q66a, q66b, q66c⟩ := isOf hZ22 e64 f30
     refine w_virtual X64 hx (y := yn_16) (z := yn_16) hown22 (mvT hZ22 (wd_65 hw)) (mvT hZ22 (wd_66 hw)) (notFace_of_selects (args := #[]) (mvT hZ22 (wd_68 hw))) (mvT hZ22 (wd_68 hw)) (mvT hZ22 (wd_67 hw)) (by decide) (backOf (W := 1) (rm_m16_25 l Z aZ hw [] a1 jj0 jj1 nn (lowL (cl4 nn k0 k1 k2 k3)) jj2 h22 n0 (Nat.le_trans Z0 E22.1) f27 f28 f30 zz6 f32 f33 hP_8) hZ22 (wd_69 hw) (wd_23 hw) (by decide) (by decide)) q66a q66c (by rw [hml]; rfl) [] (lenOf pd_8 rfl) rfl (Nat.le_of_eq rfl) (d50_49 hby) (fun _ _ => ⟨rfl, e64, (by decide : 2 + 0 ≤ _), (by decide : 24 + 0 ≤ _)⟩) (pq 52) ?_
     rintro _ _ ⟨T66, L66, k66, n66⟩ X66 ⟨Lc66, hQ66, l66, y66, z66⟩
     dsimp only [Pt.U, Pt.locs, Pt.cells, Pt.slots] at X66 l66 y66 z66 hQ66 ⊢
     rw [l66, y66, z66] at X66
     obtain ⟨rfl, N66q, e66⟩ := hQ66
     have N67 := Fr.app N65 N66q
     show Runs _ _ _ _ (T66.setTop (mkF m 52 _ [(.int (nn >>> ((0 : Int32) &&& 31))), (.int (3 : Int32))]))
     rw [own_shr0 nn]
     by_cases hc68 : nn < (4 : Int32)
     · refine w_icY X66 hx (d50_52 hby) (flt (own_ltn hc68 (by decide))).2.1 (pc' := 110) (by decide) (by decide) ?_
       refine w_aloadN X66 hx (d50_110 hby) rfl rfl (pq 111) ?_
       refine w_aloadN X66 hx (d50_111 hby) rfl rfl (pq 112) ?_
       have f69 : Exa Z h22 a0 kc2 := (E_a0.ext E22)
       have f70 : Fld Z h22 a0 kc2 "value" "Ljava/lang/String;" .null := (zz10.ext E22)
       refine w_putF X66 hx "" hZ22 hown22 (Or.inl (wd_242 hw)) Via.refl e66 f70 f69 (Or.inr ⟨(wd_243 hw), rfl, hnm⟩) (wd_226 hw) (ty := (.object kc0)) (by decide) rfl rfl (d50_112 hby) (pq 115) ?_
       intro T71 h71 X71 e71 W71
       have C72 : CHr Z EL s.vm h0 T22.vm h71 := C23.trans (CHr.wr W71 (Safe.exa hZ22.alike f69 (by decide) (by decide)) C23.1)
       have f73 : Fld Z h71 a0 kc2 "value" "Ljava/lang/String;" (.ref a1) := f70.same W71
       have K74 : Keep h0 h71 [a0] := K24.wr W71 (Or.inl (by simp))
       have N75 := Fr.snoc X71 N67 zz11
       have f76 : Exa Z h71 a0 kc2 := (f69.wr W71)
       exact w_doneH X71 hlk (v := none) e71 hh hZ22 (own_EW hw) hS22 (Nat.le_trans hk22 (Keep.of_wr W71).1) C72 (fun _ => rfl) (fun fs hr => X71.returnOut hx hret (d50_115 hby) hr) (by decide) (by decide) (fun hsy => ⟨rfl, N75, K74, f76, f73⟩)
     · refine w_icN X66 hx (d50_52 hby) (tlt (own_gen hc68 (by decide))).2.1 (pq 55) ?_
       refine w_aloadN X66 hx (d50_55 hby) rfl rfl (pq 56) ?_
       refine w_iloadN X66 hx (d50_56 hby) rfl (pq 57) ?_
       obtain ⟨cq77, kq77, q77a, q77b, q77c⟩ := isOf hZ22 e66 f30
       refine w_virtual X66 hx (y := yn_18) (z := yn_18) hown22 (mvT hZ22 (wd_75 hw)) (mvT hZ22 (wd_76 hw)) (notFace_of_selects (args := #[]) (mvT hZ22 (wd_78 hw))) (mvT hZ22 (wd_78 hw)) (mvT hZ22 (wd_77 hw)) (by decide) (backOf (W := 0) (rm_m18_41 l Z aZ hw [] a1 jj2 jj0 jj1 nn (lowL (cl4 nn k0 k1 k2 k3)) jj3 h22 n0 (Nat.le_trans Z0 E22.1) f30 zz6 f32 f33 hP_8 f27 f28 (own_gen hc68 (by decide)) zz8 zz9) hZ22 (wd_79 hw) (wd_23 hw) (by decide) (by decide)) q77a q77c (by rw [hml]; rfl) [(.int (3 : Int32))] (lenOf pd_1 rfl) rfl (Nat.le_of_eq rfl) (d50_57 hby) (fun _ _ => ⟨rfl, e66, (by decide : 2 + 0 ≤ _), (by decide : 24 + 0 ≤ _)⟩) (pq 60) ?_
       rintro _ _ ⟨T77, L77, k77, n77⟩ X77 ⟨Lc77, hQ77, l77, y77, z77⟩
       dsimp only [Pt.U, Pt.locs, Pt.cells, Pt.slots] at X77 l77 y77 z77 hQ77 ⊢
       rw [l77, y77, z77] at X77
       obtain ⟨rfl, N77q, e77⟩ := hQ77
       have N78 := Fr.app N67 N77q
       show Runs _ _ _ _ (T77.setTop (mkF m 60 _ [(.int (((gI (lowL (cl4 nn k0 k1 k2 k3)) (3 : Int32)) &&& (255 : Int32)).toUInt32.toUInt16.toUInt32.toInt32))]))
       rw [show (((gI (lowL (cl4 nn k0 k1 k2 k3)) (3 : Int32)) &&& (255 : Int32)).toUInt32.toUInt16.toUInt32.toInt32) = k3 from own_clx3 hX_4 hc68]
       refine w_istoreN X77 hx (d50_60 hby) (L' := #[.val (.ref a0), .val (.ref a1), .val (.int (3 : Int32)), .val (.int k3)]) rfl (pq 61) ?_
       refine w_iloadN X77 hx (d50_61 hby) rfl (pq 62) ?_
       refine w_bipush X77 hx (d50_62 hby) (v := (32 : Int32)) rfl (pq 64) ?_
       refine w_icN X77 hx (d50_64 hby) (flt (own_eK3 hX_4).1).1 (pq 67) ?_
       refine w_iloadN X77 hx (d50_67 hby) rfl (pq 68) ?_
       refine w_bipush X77 hx (d50_68 hby) (v := (126 : Int32)) rfl (pq 70) ?_
       refine w_icY X77 hx (d50_70 hby) (flt (own_k126 (own_eK3 hX_4))).2.2.2 (pc' := 104) (by decide) (by decide) ?_
       refine w_iinc X77 hx (d50_104 hby) (v := (1 : Int32)) rfl rfl (L' := #[.val (.ref a0), .val (.ref a1), .val (.int ((3 : Int32) + (1 : Int32))), .val (.int k3)]) rfl (pq 107) ?_
       rw [show ((3 : Int32) + (1 : Int32)) = (4 : Int32) from by decide]
       refine w_goto X77 hx (d50_107 hby) (pc' := 47) (by decide) (by decide) ?_
       refine w_iloadN X77 hx (d50_47 hby) rfl (pq 48) ?_
       refine w_aloadN X77 hx (d50_48 hby) rfl rfl (pq 49) ?_
       obtain ⟨cq79, kq79, q79a, q79b, q79c⟩ := isOf hZ22 e77 f30
       refine w_virtual X77 hx (y := yn_16) (z := yn_16) hown22 (mvT hZ22 (wd_65 hw)) (mvT hZ22 (wd_66 hw)) (notFace_of_selects (args := #[]) (mvT hZ22 (wd_68 hw))) (mvT hZ22 (wd_68 hw)) (mvT hZ22 (wd_67 hw)) (by decide) (backOf (W := 1) (rm_m16_25 l Z aZ hw [] a1 jj0 jj1 nn (lowL (cl4 nn k0 k1 k2 k3)) jj2 h22 n0 (Nat.le_trans Z0 E22.1) f27 f28 f30 zz6 f32 f33 hP_8) hZ22 (wd_69 hw) (wd_23 hw) (by decide) (by decide)) q79a q79c (by rw [hml]; rfl) [] (lenOf pd_8 rfl) rfl (Nat.le_of_eq rfl) (d50_49 hby) (fun _ _ => ⟨rfl, e77, (by decide : 2 + 0 ≤ _), (by decide : 24 + 0 ≤ _)⟩) (pq 52) ?_
       rintro _ _ ⟨T79, L79, k79, n79⟩ X79 ⟨Lc79, hQ79, l79, y79, z79⟩
       dsimp only [Pt.U, Pt.locs, Pt.cells, Pt.slots] at X79 l79 y79 z79 hQ79 ⊢
       rw [l79, y79, z79] at X79
       obtain ⟨rfl, N79q, e79⟩ := hQ79
       have N80 := Fr.app N78 N79q
       show Runs _ _ _ _ (T79.setTop (mkF m 52 _ [(.int (nn >>> ((0 : Int32) &&& 31))), (.int (4 : Int32))]))
       rw [own_shr0 nn]
       refine w_icY X79 hx (d50_52 hby) (flt (own_nn4x hX_4 (by decide) (by decide))).2.1 (pc' := 110) (by decide) (by decide) ?_
       refine w_aloadN X79 hx (d50_110 hby) rfl rfl (pq 111) ?_
       refine w_aloadN X79 hx (d50_111 hby) rfl rfl (pq 112) ?_
       have f81 : Exa Z h22 a0 kc2 := (E_a0.ext E22)
       have f82 : Fld Z h22 a0 kc2 "value" "Ljava/lang/String;" .null := (zz10.ext E22)
       refine w_putF X79 hx "" hZ22 hown22 (Or.inl (wd_242 hw)) Via.refl e79 f82 f81 (Or.inr ⟨(wd_243 hw), rfl, hnm⟩) (wd_226 hw) (ty := (.object kc0)) (by decide) rfl rfl (d50_112 hby) (pq 115) ?_
       intro T83 h83 X83 e83 W83
       have C84 : CHr Z EL s.vm h0 T22.vm h83 := C23.trans (CHr.wr W83 (Safe.exa hZ22.alike f81 (by decide) (by decide)) C23.1)
       have f85 : Fld Z h83 a0 kc2 "value" "Ljava/lang/String;" (.ref a1) := f82.same W83
       have K86 : Keep h0 h83 [a0] := K24.wr W83 (Or.inl (by simp))
       have N87 := Fr.snoc X83 N80 zz11
       have f88 : Exa Z h83 a0 kc2 := (f81.wr W83)
       exact w_doneH X83 hlk (v := none) e83 hh hZ22 (own_EW hw) hS22 (Nat.le_trans hk22 (Keep.of_wr W83).1) C84 (fun _ => rfl) (fun fs hr => X83.returnOut hx hret (d50_115 hby) hr) (by decide) (by decide) (fun hsy => ⟨rfl, N87, K86, f88, f85⟩)
theorem ef_m35_50 (m : MethodId) (a0 : Addr) (a2 : Addr)  : entryFrame m #[(.ref a0), (.int (0 : Int32)), (.ref a2), (.int (0 : Int32)), (.int (1 : Int32))] 8 = mkF m 0 #[.val (.ref a0), .val (.int (0 : Int32)), .val (.ref a2), .val (.int (0 : Int32)), .val (.int (1 : Int32)), .unset, .unset, .unset] [] := by first | (simp [entryFrame, mkF, argsToLocals, Value.category]; done) | rfl
def Q_m35_50 (Z : State) (a0 : Addr) (a2 : Addr) (k_a0 : ClassId) (jj0 : Int32) (l_a0 : List Int32) (k_a2 : ClassId) (h0 : Heap) (n0 : Nat) (v : Option Value) (h : Heap) (L : List Loc) : Prop := v = some (.int (-1 : Int32)) ∧ Fr n0 L ∧ h = h0
theorem rm_m35_50 (l : Launch) (Z : State) (aZ : Array Value) (hw : ∀ d ∈ tables_1, d.before aZ Z = true) (ws : List Jvm.Cond) (a0 : Addr) (a2 : Addr) (k_a0 : ClassId) (jj0 : Int32) (l_a0 : List Int32) (k_a2 : ClassId) (h0 : Heap) (n0 : Nat) (Z0 : n0 ≤ h0.size) (V_a0 : Arv Z h0 a0 k_a0 .byte jj0 (mI l_a0) (.int (0 : Int32))) (hP_1 : (0 : Int32) < jj0) (V_a2 : Arv Z h0 a2 k_a2 .byte (1 : Int32) [(.int (34 : Int32))] (.int (0 : Int32))) (hP_3 : (gI l_a0 (0 : Int32)) = (34 : Int32)) :
    MetN l Z yn_35 jdk_48_method_14_code 8 (some .int) ws ({ frames := 0, cells := 0, slots := 0, locals := 0 } : Room) #[(.ref a0), (.int (0 : Int32)), (.ref a2), (.int (0 : Int32)), (.int (1 : Int32))] h0 (Q_m35_50 Z a0 a2 k_a0 jj0 l_a0 k_a2 h0 n0) := by
 refine MetN.of (plainFor_of_name pn_7) ?_
 intro p e s m below meth c s₁ hret hx hby hml hown hnm hlk hZ X0 e0
 have N0 := Fr.nil n0
 rw [ef_m35_50 m a0 a2]
 refine w_iconst X0 hx (d35_0 hby) (v := (0 : Int32)) rfl (pq 1) ?_
 refine w_istore X0 hx (d35_1 hby) (L' := #[.val (.ref a0), .val (.int (0 : Int32)), .val (.ref a2), .val (.int (0 : Int32)), .val (.int (1 : Int32)), .val (.int (0 : Int32)), .unset, .unset]) rfl (pq 3) ?_
 refine w_iload X0 hx (d35_3 hby) rfl (pq 5) ?_
 refine w_bipush X0 hx (d35_5 hby) (v := (7 : Int32)) rfl (pq 7) ?_
 refine w_icY X0 hx (d35_7 hby) (flt (by decide : ¬ ((7 : Int32) < (1 : Int32)))).2.2.2 (pc' := 70) (by decide) (by decide) ?_
 refine w_iload X0 hx (d35_70 hby) rfl (pq 72) ?_
 refine w_iload X0 hx (d35_72 hby) rfl (pq 74) ?_
 refine w_icN X0 hx (d35_74 hby) (tlt (by decide : (0 : Int32) < (1 : Int32))).2.1 (pq 77) ?_
 refine w_aloadN X0 hx (d35_77 hby) rfl rfl (pq 78) ?_
 refine w_iloadN X0 hx (d35_78 hby) rfl (pq 79) ?_
 refine w_iload X0 hx (d35_79 hby) rfl (pq 81) ?_
 refine w_iadd X0 hx (d35_81 hby) (pq 82) ?_
 rw [show ((0 : Int32) + (0 : Int32)) = (0 : Int32) from by decide]
 obtain ⟨clu20, Aru20, qu20, Su20, Nu20, Hu20, Gu20⟩ := id V_a0
 have hinu20 := inb_of (j := (0 : Int32)) Su20 ⟨(by decide : ¬ ((0 : Int32) < (0 : Int32))), hP_1⟩
 refine w_baload X0 hx hZ e0 Aru20 hinu20 (Hu20.at hinu20 (own_gI l_a0 (0 : Int32))) (d35_82 hby) (pq 83) ?_
 refine w_aloadN X0 hx (d35_83 hby) rfl rfl (pq 84) ?_
 refine w_iloadN X0 hx (d35_84 hby) rfl (pq 85) ?_
 refine w_iload X0 hx (d35_85 hby) rfl (pq 87) ?_
 refine w_iadd X0 hx (d35_87 hby) (pq 88) ?_
 rw [show ((0 : Int32) + (0 : Int32)) = (0 : Int32) from by decide]
 obtain ⟨clu21, Aru21, qu21, Su21, Nu21, Hu21, Gu21⟩ := id V_a2
 have hinu21 := inb_of (j := (0 : Int32)) Su21 ⟨by decide, by decide⟩
 refine w_baload X0 hx hZ e0 Aru21 hinu21 (Hu21.at hinu21 rfl) (d35_88 hby) (pq 89) ?_
 refine w_icY X0 hx (d35_89 hby) (teq hP_3).1 (pc' := 95) (by decide) (by decide) ?_
 refine w_iinc X0 hx (d35_95 hby) (v := (1 : Int32)) rfl rfl (L' := #[.val (.ref a0), .val (.int (0 : Int32)), .val (.ref a2), .val (.int (0 : Int32)), .val (.int (1 : Int32)), .val (.int ((0 : Int32) + (1 : Int32))), .unset, .unset]) rfl (pq 98) ?_
 rw [show ((0 : Int32) + (1 : Int32)) = (1 : Int32) from by decide]
 refine w_goto X0 hx (d35_98 hby) (pc' := 70) (by decide) (by decide) ?_
 refine w_iload X0 hx (d35_70 hby) rfl (pq 72) ?_
 refine w_iload X0 hx (d35_72 hby) rfl (pq 74) ?_
 refine w_icY X0 hx (d35_74 hby) (flt (by decide : ¬ ((1 : Int32) < (1 : Int32)))).2.1 (pc' := 101) (by decide) (by decide) ?_
 refine w_iconst X0 hx (d35_101 hby) (v := (-1 : Int32)) rfl (pq 102) ?_
 exact w_done X0 hlk (v := some (.int (-1 : Int32))) e0 (fun h => by rw [hret] at h; cases h) (fun fs hr => retI X0 hx hret (d35_102 hby) hr) (by decide) (by decide) (⟨rfl, N0, rfl⟩)
theorem ef_m34_49 (m : MethodId) (a0 : Addr) (a1 : Addr)  : entryFrame m #[(.ref a0), (.ref a1), (.int (0 : Int32))] 8 = mkF m 0 #[.val (.ref a0), .val (.ref a1), .val (.int (0 : Int32)), .unset, .unset, .unset, .unset, .unset] [] := by first | (simp [entryFrame, mkF, argsToLocals, Value.category]; done) | rfl
def Q_m34_49 (Z : State) (a0 : Addr) (a1 : Addr) (jj0 : Addr) (jj1 : ClassId) (jj2 : Int32) (jj3 : List Int32) (jj4 : Int32) (jj5 : Addr) (jj6 : ClassId) (h0 : Heap) (n0 : Nat) (v : Option Value) (h : Heap) (L : List Loc) : Prop := v = some (.int (1 : Int32)) ∧ Fr n0 L ∧ h = h0
theorem rm_m34_49 (l : Launch) (Z : State) (aZ : Array Value) (hw : ∀ d ∈ tables_1, d.before aZ Z = true) (ws : List Jvm.Cond) (a0 : Addr) (a1 : Addr) (jj0 : Addr) (jj1 : ClassId) (jj2 : Int32) (jj3 : List Int32) (jj4 : Int32) (jj5 : Addr) (jj6 : ClassId) (h0 : Heap) (n0 : Nat) (Z0 : n0 ≤ h0.size) (E_a0 : Exa Z h0 a0 kc0) (zz7 : Fld Z h0 a0 kc0 "value" "[B" (.ref jj0)) (zz8 : Arv Z h0 jj0 jj1 .byte jj2 (mI jj3) (.int (0 : Int32))) (zz9 : Sta Z Z.heap kc0 "COMPACT_STRINGS" "Z" (.int jj4)) (O0 : Old Z n0 h0) (zz10 : Fld Z h0 a0 kc0 "coder" "B" (.int (0 : Int32))) (hP_6 : ¬ (jj4 = (0 : Int32))) (E_a1 : Exa Z h0 a1 kc0) (zz11 : Fld Z h0 a1 kc0 "value" "[B" (.ref jj5)) (zz12 : Arv Z h0 jj5 jj6 .byte (1 : Int32) [(.int (34 : Int32))] (.int (0 : Int32))) (zz13 : Fld Z h0 a1 kc0 "coder" "B" (.int (0 : Int32))) (zz14 : ¬ (((jj2 >>> ((0 : Int32) &&& 31)) - (1 : Int32)) < (0 : Int32))) (zz15 : (0 : Int32) < jj2) (zz16 : (gI jj3 (0 : Int32)) = (34 : Int32)) :
    MetN l Z yn_34 jdk_42_method_75_code 8 (some .boolean) ws ({ frames := 2, cells := 0, slots := 0, locals := 27 } : Room) #[(.ref a0), (.ref a1), (.int (0 : Int32))] h0 (Q_m34_49 Z a0 a1 jj0 jj1 jj2 jj3 jj4 jj5 jj6 h0 n0) := by
 refine MetN.of (plainFor_of_name pn_3) ?_
 intro p e s m below meth c s₁ hret hx hby hml hown hnm hlk hZ X0 e0
 have N0 := Fr.nil n0
 rw [ef_m34_49 m a0 a1]
 refine w_iloadN X0 hx (d34_0 hby) rfl (pq 1) ?_
 refine w_ifN X0 hx (d34_1 hby) (flt (by decide : ¬ ((0 : Int32) < (0 : Int32)))).1 (pq 4) ?_
 refine w_iloadN X0 hx (d34_4 hby) rfl (pq 5) ?_
 refine w_aloadN X0 hx (d34_5 hby) rfl rfl (pq 6) ?_
 obtain ⟨cq20, kq20, q20a, q20b, q20c⟩ := isOf hZ e0 E_a0
 refine w_virtual X0 hx (y := yn_16) (z := yn_16) hown (mvT hZ (wd_105 hw)) (mvT hZ (wd_66 hw)) (notFace_of_selects (args := #[]) (mvT hZ (wd_68 hw))) (mvT hZ (wd_68 hw)) (mvT hZ (wd_67 hw)) (by decide) (backOf (W := 1) (rm_m16_25 l Z aZ hw [] a0 jj0 jj1 jj2 jj3 jj4 h0 n0 Z0 zz7 zz8 E_a0 zz9 O0 zz10 hP_6) hZ (wd_69 hw) (wd_23 hw) (by decide) (by decide)) q20a q20c (by rw [hml]; rfl) [] (lenOf pd_8 rfl) rfl (Nat.le_of_eq rfl) (d34_6 hby) (fun _ _ => ⟨rfl, e0, (by decide : 0 + 0 ≤ _), (by decide : 0 + 0 ≤ _)⟩) (pq 9) ?_
 rintro _ _ ⟨T20, L20, k20, n20⟩ X20 ⟨Lc20, hQ20, l20, y20, z20⟩
 dsimp only [Pt.U, Pt.locs, Pt.cells, Pt.slots] at X20 l20 y20 z20 hQ20 ⊢
 rw [l20, y20, z20] at X20
 obtain ⟨rfl, N20q, e20⟩ := hQ20
 have N21 := Fr.app N0 N20q
 show Runs _ _ _ _ (T20.setTop (mkF m 9 _ [(.int (jj2 >>> ((0 : Int32) &&& 31))), (.int (0 : Int32))]))
 refine w_aloadN X20 hx (d34_9 hby) rfl rfl (pq 10) ?_
 obtain ⟨cq22, kq22, q22a, q22b, q22c⟩ := isOf hZ e20 E_a1
 refine w_virtual X20 hx (y := yn_16) (z := yn_16) hown (mvT hZ (wd_105 hw)) (mvT hZ (wd_66 hw)) (notFace_of_selects (args := #[]) (mvT hZ (wd_68 hw))) (mvT hZ (wd_68 hw)) (mvT hZ (wd_67 hw)) (by decide) (backOf (W := 2) (rm_m16_26 l Z aZ hw [] a1 jj5 jj6 jj4 h0 n0 Z0 zz11 zz12 E_a1 zz9 O0 zz13 hP_6) hZ (wd_69 hw) (wd_23 hw) (by decide) (by decide)) q22a q22c (by rw [hml]; rfl) [] (lenOf pd_8 rfl) rfl (Nat.le_of_eq rfl) (d34_10 hby) (fun _ _ => ⟨rfl, e20, (by decide : 0 + 0 ≤ _), (by decide : 0 + 0 ≤ _)⟩) (pq 13) ?_
 rintro _ _ ⟨T22, L22, k22, n22⟩ X22 ⟨Lc22, hQ22, l22, y22, z22⟩
 dsimp only [Pt.U, Pt.locs, Pt.cells, Pt.slots] at X22 l22 y22 z22 hQ22 ⊢
 rw [l22, y22, z22] at X22
 obtain ⟨rfl, N22q, e22⟩ := hQ22
 have N23 := Fr.app N21 N22q
 show Runs _ _ _ _ (T22.setTop (mkF m 13 _ [(.int (1 : Int32)), (.int (jj2 >>> ((0 : Int32) &&& 31))), (.int (0 : Int32))]))
 refine w_isub X22 hx (d34_13 hby) (pq 14) ?_
 refine w_icY X22 hx (d34_14 hby) (flt zz14).2.2.2 (pc' := 19) (by decide) (by decide) ?_
 refine w_aloadN X22 hx (d34_19 hby) rfl rfl (pq 20) ?_
 refine w_getF X22 hx "" hZ hown (Or.inl (wd_48 hw)) Via.refl e22 zz7 (d34_20 hby) (pq 23) ?_
 intro T24 X24 e24
 refine w_astoreN X24 hx (d34_23 hby) rfl (L' := #[.val (.ref a0), .val (.ref a1), .val (.int (0 : Int32)), .val (.ref jj0), .unset, .unset, .unset, .unset]) rfl (pq 24) ?_
 refine w_aloadN X24 hx (d34_24 hby) rfl rfl (pq 25) ?_
 refine w_getF X24 hx "" hZ hown (Or.inl (wd_48 hw)) Via.refl e24 zz11 (d34_25 hby) (pq 28) ?_
 intro T25 X25 e25
 refine w_astore X25 hx (d34_28 hby) rfl (L' := #[.val (.ref a0), .val (.ref a1), .val (.int (0 : Int32)), .val (.ref jj0), .val (.ref jj5), .unset, .unset, .unset]) rfl (pq 30) ?_
 refine w_iconst X25 hx (d34_30 hby) (v := (0 : Int32)) rfl (pq 31) ?_
 refine w_istore X25 hx (d34_31 hby) (L' := #[.val (.ref a0), .val (.ref a1), .val (.int (0 : Int32)), .val (.ref jj0), .val (.ref jj5), .val (.int (0 : Int32)), .unset, .unset]) rfl (pq 33) ?_
 refine w_aload X25 hx (d34_33 hby) rfl rfl (pq 35) ?_
 refine w_alen X25 hx hZ e25 zz12 (d34_35 hby) (pq 36) ?_
 refine w_istore X25 hx (d34_36 hby) (L' := #[.val (.ref a0), .val (.ref a1), .val (.int (0 : Int32)), .val (.ref jj0), .val (.ref jj5), .val (.int (0 : Int32)), .val (.int (1 : Int32)), .unset]) rfl (pq 38) ?_
 refine w_aloadN X25 hx (d34_38 hby) rfl rfl (pq 39) ?_
 obtain ⟨cq26, kq26, q26a, q26b, q26c⟩ := isOf hZ e25 E_a0
 refine w_virtual X25 hx (y := yn_17) (z := yn_17) hown (mvT hZ (wd_70 hw)) (mvT hZ (wd_71 hw)) (notFace_of_selects (args := #[]) (mvT hZ (wd_73 hw))) (mvT hZ (wd_73 hw)) (mvT hZ (wd_72 hw)) (by decide) (backOf (W := 0) (rm_m17_5 l Z aZ hw [] a0 jj4 h0 n0 Z0 zz9 O0 hP_6 zz10) hZ (wd_74 hw) (wd_23 hw) (by decide) (by decide)) q26a q26c (by rw [hml]; rfl) [] (lenOf pd_7 rfl) rfl (Nat.le_of_eq rfl) (d34_39 hby) (fun _ _ => ⟨rfl, e25, (by decide : 0 + 0 ≤ _), (by decide : 0 + 0 ≤ _)⟩) (pq 42) ?_
 rintro _ _ ⟨T26, L26, k26, n26⟩ X26 ⟨Lc26, hQ26, l26, y26, z26⟩
 dsimp only [Pt.U, Pt.locs, Pt.cells, Pt.slots] at X26 l26 y26 z26 hQ26 ⊢
 rw [l26, y26, z26] at X26
 obtain ⟨rfl, N26q, e26⟩ := hQ26
 have N27 := Fr.app N23 N26q
 show Runs _ _ _ _ (T26.setTop (mkF m 42 _ [(.int (0 : Int32))]))
 refine w_istore X26 hx (d34_42 hby) (L' := #[.val (.ref a0), .val (.ref a1), .val (.int (0 : Int32)), .val (.ref jj0), .val (.ref jj5), .val (.int (0 : Int32)), .val (.int (1 : Int32)), .val (.int (0 : Int32))]) rfl (pq 44) ?_
 refine w_iload X26 hx (d34_44 hby) rfl (pq 46) ?_
 refine w_aloadN X26 hx (d34_46 hby) rfl rfl (pq 47) ?_
 obtain ⟨cq28, kq28, q28a, q28b, q28c⟩ := isOf hZ e26 E_a1
 refine w_virtual X26 hx (y := yn_17) (z := yn_17) hown (mvT hZ (wd_70 hw)) (mvT hZ (wd_71 hw)) (notFace_of_selects (args := #[]) (mvT hZ (wd_73 hw))) (mvT hZ (wd_73 hw)) (mvT hZ (wd_72 hw)) (by decide) (backOf (W := 1) (rm_m17_5 l Z aZ hw [] a1 jj4 h0 n0 Z0 zz9 O0 hP_6 zz13) hZ (wd_74 hw) (wd_23 hw) (by decide) (by decide)) q28a q28c (by rw [hml]; rfl) [] (lenOf pd_7 rfl) rfl (Nat.le_of_eq rfl) (d34_47 hby) (fun _ _ => ⟨rfl, e26, (by decide : 0 + 0 ≤ _), (by decide : 0 + 0 ≤ _)⟩) (pq 50) ?_
 rintro _ _ ⟨T28, L28, k28, n28⟩ X28 ⟨Lc28, hQ28, l28, y28, z28⟩
 dsimp only [Pt.U, Pt.locs, Pt.cells, Pt.slots] at X28 l28 y28 z28 hQ28 ⊢
 rw [l28, y28, z28] at X28
 obtain ⟨rfl, N28q, e28⟩ := hQ28
 have N29 := Fr.app N27 N28q
 show Runs _ _ _ _ (T28.setTop (mkF m 50 _ [(.int (0 : Int32)), (.int (0 : Int32))]))
 refine w_icN X28 hx (d34_50 hby) (teq (by decide : (0 : Int32) = (0 : Int32))).2 (pq 53) ?_
 refine w_iload X28 hx (d34_53 hby) rfl (pq 55) ?_
 refine w_iconst X28 hx (d34_55 hby) (v := (1 : Int32)) rfl (pq 56) ?_
 refine w_icY X28 hx (d34_56 hby) (feq (by decide : ¬ ((0 : Int32) = (1 : Int32)))).2 (pc' := 63) (by decide) (by decide) ?_
 refine w_aloadN X28 hx (d34_63 hby) rfl rfl (pq 64) ?_
 refine w_iloadN X28 hx (d34_64 hby) rfl (pq 65) ?_
 refine w_aload X28 hx (d34_65 hby) rfl rfl (pq 67) ?_
 refine w_iconst X28 hx (d34_67 hby) (v := (0 : Int32)) rfl (pq 68) ?_
 refine w_iload X28 hx (d34_68 hby) rfl (pq 70) ?_
 refine w_static X28 hx (y := yn_35) hown (mvT hZ (wd_148 hw)) (mvT hZ (wd_149 hw)) (mvT hZ (wd_150 hw)) (mvT hZ (wd_151 hw)) (by decide) (backOf (W := 0) (rm_m35_50 l Z aZ hw [] jj0 jj5 jj1 jj2 jj3 jj6 h0 n0 Z0 zz8 zz15 zz12 zz16) hZ (wd_151 hw) (wd_150 hw) (by decide) (by decide)) (by rw [hml]; rfl) [(.ref jj0), (.int (0 : Int32)), (.ref jj5), (.int (0 : Int32)), (.int (1 : Int32))] (lenOf pd_21 rfl) rfl (Nat.le_of_eq rfl) (d34_70 hby) (fun _ _ => ⟨rfl, e28, (by decide : 0 + 0 ≤ _), (by decide : 0 + 0 ≤ _)⟩) (pq 73) ?_
 rintro _ _ ⟨T30, L30, k30, n30⟩ X30 ⟨Lc30, hQ30, l30, y30, z30⟩
 dsimp only [Pt.U, Pt.locs, Pt.cells, Pt.slots] at X30 l30 y30 z30 hQ30 ⊢
 rw [l30, y30, z30] at X30
 obtain ⟨rfl, N30q, e30⟩ := hQ30
 have N31 := Fr.app N29 N30q
 show Runs _ _ _ _ (T30.setTop (mkF m 73 _ [(.int (-1 : Int32))]))
 refine w_ifN X30 hx (d34_73 hby) (tlt (by decide : (-1 : Int32) < (0 : Int32))).2.1 (pq 76) ?_
 refine w_iconst X30 hx (d34_76 hby) (v := (1 : Int32)) rfl (pq 77) ?_
 refine w_goto X30 hx (d34_77 hby) (pc' := 81) (by decide) (by decide) ?_
 exact w_done X30 hlk (v := some (.int (1 : Int32))) e30 (fun h => by rw [hret] at h; cases h) (fun fs hr => retN X30 hx (t := .boolean) hret (by simp) (d34_81 hby) hr) (by decide) (by decide) (⟨rfl, N31, rfl⟩)
theorem ef_m33_48 (m : MethodId) (a0 : Addr) (a1 : Addr)  : entryFrame m #[(.ref a0), (.ref a1)] 2 = mkF m 0 #[.val (.ref a0), .val (.ref a1)] [] := by first | (simp [entryFrame, mkF, argsToLocals, Value.category]; done) | rfl
def Q_m33_48 (Z : State) (a0 : Addr) (a1 : Addr) (jj0 : Addr) (jj1 : ClassId) (jj2 : Int32) (jj3 : List Int32) (jj4 : Addr) (jj5 : ClassId) (jj6 : Int32) (h0 : Heap) (n0 : Nat) (v : Option Value) (h : Heap) (L : List Loc) : Prop := v = some (.int (1 : Int32)) ∧ Fr n0 L ∧ h = h0
theorem rm_m33_48 (l : Launch) (Z : State) (aZ : Array Value) (hw : ∀ d ∈ tables_1, d.before aZ Z = true) (ws : List Jvm.Cond) (a0 : Addr) (a1 : Addr) (jj0 : Addr) (jj1 : ClassId) (jj2 : Int32) (jj3 : List Int32) (jj4 : Addr) (jj5 : ClassId) (jj6 : Int32) (h0 : Heap) (n0 : Nat) (Z0 : n0 ≤ h0.size) (E_a0 : Exa Z h0 a0 kc0) (zz7 : Fld Z h0 a0 kc0 "value" "[B" (.ref jj0)) (zz8 : Arv Z h0 jj0 jj1 .byte jj2 (mI jj3) (.int (0 : Int32))) (zz9 : Fld Z h0 a0 kc0 "coder" "B" (.int (0 : Int32))) (E_a1 : Exa Z h0 a1 kc0) (zz10 : Fld Z h0 a1 kc0 "value" "[B" (.ref jj4)) (zz11 : Arv Z h0 jj4 jj5 .byte (1 : Int32) [(.int (34 : Int32))] (.int (0 : Int32))) (zz12 : Fld Z h0 a1 kc0 "coder" "B" (.int (0 : Int32))) (hP_8 : ¬ (((jj2 >>> ((0 : Int32) &&& 31)) - (1 : Int32)) < (0 : Int32))) (hP_9 : (0 : Int32) < jj2) (zz13 : (gI jj3 (0 : Int32)) = (34 : Int32)) (zz14 : Sta Z Z.heap kc0 "COMPACT_STRINGS" "Z" (.int jj6)) (O0 : Old Z n0 h0) (zz15 : ¬ (jj6 = (0 : Int32))) :
    MetN l Z yn_33 jdk_42_method_76_code 2 (some .boolean) ws ({ frames := 3, cells := 0, slots := 0, locals := 46 } : Room) #[(.ref a0), (.ref a1)] h0 (Q_m33_48 Z a0 a1 jj0 jj1 jj2 jj3 jj4 jj5 jj6 h0 n0) := by
 refine MetN.of (plainFor_of_name pn_3) ?_
 intro p e s m below meth c s₁ hret hx hby hml hown hnm hlk hZ X0 e0
 have N0 := Fr.nil n0
 rw [ef_m33_48 m a0 a1]
 refine w_aloadN X0 hx (d33_0 hby) rfl rfl (pq 1) ?_
 refine w_aloadN X0 hx (d33_1 hby) rfl rfl (pq 2) ?_
 refine w_iconst X0 hx (d33_2 hby) (v := (0 : Int32)) rfl (pq 3) ?_
 obtain ⟨cq20, kq20, q20a, q20b, q20c⟩ := isOf hZ e0 E_a0
 refine w_virtual X0 hx (y := yn_34) (z := yn_34) hown (mvT hZ (wd_143 hw)) (mvT hZ (wd_144 hw)) (notFace_of_selects (args := #[]) (mvT hZ (wd_146 hw))) (mvT hZ (wd_146 hw)) (mvT hZ (wd_145 hw)) (by decide) (backOf (W := 0) (rm_m34_49 l Z aZ hw [] a0 a1 jj0 jj1 jj2 jj3 jj6 jj4 jj5 h0 n0 Z0 E_a0 zz7 zz8 zz14 O0 zz9 zz15 E_a1 zz10 zz11 zz12 hP_8 hP_9 zz13) hZ (wd_147 hw) (wd_23 hw) (by decide) (by decide)) q20a q20c (by rw [hml]; rfl) [(.ref a1), (.int (0 : Int32))] (lenOf pd_22 rfl) rfl (Nat.le_of_eq rfl) (d33_3 hby) (fun _ _ => ⟨rfl, e0, (by decide : 0 + 0 ≤ _), (by decide : 0 + 0 ≤ _)⟩) (pq 6) ?_
 rintro _ _ ⟨T20, L20, k20, n20⟩ X20 ⟨Lc20, hQ20, l20, y20, z20⟩
 dsimp only [Pt.U, Pt.locs, Pt.cells, Pt.slots] at X20 l20 y20 z20 hQ20 ⊢
 rw [l20, y20, z20] at X20
 obtain ⟨rfl, N20q, e20⟩ := hQ20
 have N21 := Fr.app N0 N20q
 show Runs _ _ _ _ (T20.setTop (mkF m 6 _ [(.int (1 : Int32))]))
 exact w_done X20 hlk (v := some (.int (1 : Int32))) e20 (fun h => by rw [hret] at h; cases h) (fun fs hr => retN X20 hx (t := .boolean) hret (by simp) (d33_6 hby) hr) (by decide) (by decide) (⟨rfl, N21, rfl⟩)
theorem ef_m38_53 (m : MethodId) (a0 : Addr) (p1 : Int32)  : entryFrame m #[(.ref a0), (.int p1)] 2 = mkF m 0 #[.val (.ref a0), .val (.int p1)] [] := by first | (simp [entryFrame, mkF, argsToLocals, Value.category]; done) | rfl
def Q_m38_53 (Z : State) (a0 : Addr) (p1 : Int32) (jj0 : Int32) (h0 : Heap) (n0 : Nat) (v : Option Value) (h : Heap) (L : List Loc) : Prop := ∃ (r0 : Addr) (c0 : ClassId), v = none ∧ Fr n0 L ∧ Keep h0 h [a0] ∧ h0.size ≤ r0 ∧ Arv Z h r0 c0 .byte p1 (mI (zeroL p1)) (.int (0 : Int32)) ∧ Exa Z h a0 kc4 ∧ Fld Z h a0 kc1 "value" "[B" (.ref r0) ∧ Fld Z h a0 kc1 "coder" "B" (.int (0 : Int32)) ∧ Fld Z h a0 kc1 "count" "I" (.int (0 : Int32))
theorem rm_m38_53 (l : Launch) (Z : State) (aZ : Array Value) (hw : ∀ d ∈ tables_1, d.before aZ Z = true) (ws : List Jvm.Cond) (a0 : Addr) (p1 : Int32) (jj0 : Int32) (h0 : Heap) (n0 : Nat) (Z0 : n0 ≤ h0.size) (zz1 : Sta Z Z.heap kc0 "COMPACT_STRINGS" "Z" (.int jj0)) (O0 : Old Z n0 h0) (hP_2 : ¬ (jj0 = (0 : Int32))) (hX_3 : NB p1) (E_a0 : Exa Z h0 a0 kc4) (zz2 : Fld Z h0 a0 kc1 "value" "[B" .null) (zz3 : n0 ≤ a0) (zz4 : Fld Z h0 a0 kc1 "coder" "B" (.int (0 : Int32))) (zz5 : Fld Z h0 a0 kc1 "count" "I" (.int (0 : Int32))) :
    MetN l Z yn_38 jdk_68_method_2_code 2 none ws ({ frames := 1, cells := 1, slots := 12, locals := 12 } : Room) #[(.ref a0), (.int p1)] h0 (Q_m38_53 Z a0 p1 jj0 h0 n0) := by
 refine MetN.of (plainFor_of_name pn_9) ?_
 intro p e s m below meth c s₁ hret hx hby hml hown hnm hlk hZ X0 e0
 have N0 := Fr.nil n0
 rw [ef_m38_53 m a0 p1]
 refine w_aloadN X0 hx (d38_0 hby) rfl rfl (pq 1) ?_
 refine w_initO X0 hx 0 hZ hown (wd_167 hw) (wd_32 hw) (wd_33 hw) e0 (by rw [hml]; rfl) (d38_1 hby) (by decide) (Nat.le_of_eq rfl) (by decide) (pq 4) ?_
 intro T20 X20 e20
 refine w_getS X20 hx "" hZ hown (Or.inl (wd_168 hw)) Via.refl e20 (zz1.ext O0.2) (d38_4 hby) (pq 7) ?_
 intro T21 X21 e21
 refine w_ifN X21 hx (d38_7 hby) (feq hP_2).1 (pq 10) ?_
 refine w_aloadN X21 hx (d38_10 hby) rfl rfl (pq 11) ?_
 refine w_iloadN X21 hx (d38_11 hby) rfl (pq 12) ?_
 refine w_newP X21 hx .byte .byte 12 rfl hZ (wd_39 hw) e21 (d38_12 hby) (own_nb hX_3).2 (own_nb hX_3).1 (by decide) (by decide) (by decide) (pq 14) ?_
 intro T22 h22 k22 b22 X22 e22 E22 g22 A22
 have ge23 : n0 ≤ b22 := Nat.le_trans Z0 (Nat.le_of_eq g22.symm)
 have sz24 : h0.size ≤ b22 := Nat.le_trans (Nat.le_refl _) (Nat.le_of_eq g22.symm)
 have K25 : Keep h0 h22 [a0] := (Keep.refl h0 [a0]).ext E22
 have V26 : Arv Z h22 b22 k22 .byte p1 (mI (zeroL p1)) (.int (0 : Int32)) := (Arv.new A22 (own_nb hX_3).2).pad (own_zpad _)
 have f27 : Exa Z h22 a0 kc4 := (E_a0.ext E22)
 have f28 : Fld Z h22 a0 kc1 "value" "[B" .null := (zz2.ext E22)
 refine w_putF X22 hx "" hZ hown (Or.inl (wd_169 hw)) Via.refl e22 f28 f27 (Or.inl (wd_170 hw)) (wd_156 hw) (ty := (.array .byte)) (by decide) rfl rfl (d38_14 hby) (pq 17) ?_
 intro T29 h29 X29 e29 W29
 have f30 : Fld Z h29 a0 kc1 "value" "[B" (.ref b22) := f28.same W29
 have K31 : Keep h0 h29 [a0] := K25.wr W29 (Or.inl (by simp))
 have N32 := Fr.snoc X29 N0 zz3
 refine w_aloadN X29 hx (d38_17 hby) rfl rfl (pq 18) ?_
 refine w_iconst X29 hx (d38_18 hby) (v := (0 : Int32)) rfl (pq 19) ?_
 have f33 : Exa Z h29 a0 kc4 := (f27.wr W29)
 have f34 : Fld Z h29 a0 kc1 "coder" "B" (.int (0 : Int32)) := ((zz4.ext E22).other W29 (Or.inr (slot_ne (Or.inl (wd_172 hw)) (Or.inl (wd_170 hw)) (by decide) (t := .byte) (t' := (.array .byte)) (by decide) (by decide))))
 refine w_putF X29 hx "" hZ hown (Or.inl (wd_171 hw)) Via.refl e29 f34 f33 (Or.inl (wd_172 hw)) (wd_156 hw) (ty := .byte) (by decide) rfl rfl (d38_19 hby) (pq 22) ?_
 intro T35 h35 X35 e35 W35
 have f36 : Fld Z h35 a0 kc1 "coder" "B" (.int (0 : Int32)) := f34.same W35
 have K37 : Keep h0 h35 [a0] := K31.wr W35 (Or.inl (by simp))
 have N38 := Fr.snoc X35 N32 zz3
 refine w_goto X35 hx (d38_22 hby) (pc' := 38) (by decide) (by decide) ?_
 have ne39 : a0 ≠ b22 := (Nat.ne_of_lt (Nat.lt_of_lt_of_le E_a0.lt (Nat.le_trans (Nat.le_refl _) (Nat.le_of_eq g22.symm))))
 have f40 : Arv Z h35 b22 k22 .byte p1 (mI (zeroL p1)) (.int (0 : Int32)) := ((V26.other W29 (Ne.symm ne39)).other W35 (Ne.symm ne39))
 have f41 : Exa Z h35 a0 kc4 := (f33.wr W35)
 have f42 : Fld Z h35 a0 kc1 "value" "[B" (.ref b22) := (f30.other W35 (Or.inr (slot_ne (Or.inl (wd_170 hw)) (Or.inl (wd_172 hw)) (by decide) (t := (.array .byte)) (t' := .byte) (by decide) (by decide))))
 have f43 : Fld Z h35 a0 kc1 "count" "I" (.int (0 : Int32)) := (((zz5.ext E22).other W29 (Or.inr (slot_ne (Or.inl (wd_184 hw)) (Or.inl (wd_170 hw)) (by decide) (t := .int) (t' := (.array .byte)) (by decide) (by decide)))).other W35 (Or.inr (slot_ne (Or.inl (wd_184 hw)) (Or.inl (wd_172 hw)) (by decide) (t := .int) (t' := .byte) (by decide) (by decide))))
 exact w_done X35 hlk (v := none) e35 (fun _ => rfl) (fun fs hr => X35.returnOut hx hret (d38_38 hby) hr) (by decide) (by decide) (⟨b22, k22, rfl, N38, K37, sz24, f40, f41, f42, f36, f43⟩)
theorem ef_m37_52 (m : MethodId) (a0 : Addr) (p1 : Int32)  : entryFrame m #[(.ref a0), (.int p1)] 2 = mkF m 0 #[.val (.ref a0), .val (.int p1)] [] := by first | (simp [entryFrame, mkF, argsToLocals, Value.category]; done) | rfl
def Q_m37_52 (Z : State) (a0 : Addr) (p1 : Int32) (jj0 : Int32) (h0 : Heap) (n0 : Nat) (v : Option Value) (h : Heap) (L : List Loc) : Prop := ∃ (r0 : Addr) (c0 : ClassId), v = none ∧ Fr n0 L ∧ Keep h0 h [a0] ∧ h0.size ≤ r0 ∧ Arv Z h r0 c0 .byte p1 (mI (zeroL p1)) (.int (0 : Int32)) ∧ Exa Z h a0 kc4 ∧ Fld Z h a0 kc1 "value" "[B" (.ref r0) ∧ Fld Z h a0 kc1 "coder" "B" (.int (0 : Int32)) ∧ Fld Z h a0 kc1 "count" "I" (.int (0 : Int32))
theorem rm_m37_52 (l : Launch) (Z : State) (aZ : Array Value) (hw : ∀ d ∈ tables_1, d.before aZ Z = true) (ws : List Jvm.Cond) (a0 : Addr) (p1 : Int32) (jj0 : Int32) (h0 : Heap) (n0 : Nat) (Z0 : n0 ≤ h0.size) (hP_0 : ¬ (jj0 = (0 : Int32))) (E_a0 : Exa Z h0 a0 kc4) (zz1 : Fld Z h0 a0 kc1 "value" "[B" .null) (zz2 : Fld Z h0 a0 kc1 "coder" "B" (.int (0 : Int32))) (zz3 : Fld Z h0 a0 kc1 "count" "I" (.int (0 : Int32))) (zz4 : Sta Z Z.heap kc0 "COMPACT_STRINGS" "Z" (.int jj0)) (O0 : Old Z n0 h0) (hX_7 : NB p1) (zz5 : n0 ≤ a0) :
    MetN l Z yn_37 jdk_67_method_2_code 2 none ws ({ frames := 2, cells := 1, slots := 12, locals := 25 } : Room) #[(.ref a0), (.int p1)] h0 (Q_m37_52 Z a0 p1 jj0 h0 n0) := by
 refine MetN.of (plainFor_of_name pn_10) ?_
 intro p e s m below meth c s₁ hret hx hby hml hown hnm hlk hZ X0 e0
 have N0 := Fr.nil n0
 rw [ef_m37_52 m a0 p1]
 refine w_aloadN X0 hx (d37_0 hby) rfl rfl (pq 1) ?_
 refine w_iloadN X0 hx (d37_1 hby) rfl (pq 2) ?_
 refine w_special X0 hx (y := yn_38) rfl hown (mvT hZ (wd_161 hw)) (mvT hZ (wd_162 hw)) (mvT hZ (wd_166 hw)) (by decide) (backOf (W := 0) (rm_m38_53 l Z aZ hw [] a0 p1 jj0 h0 n0 Z0 zz4 O0 hP_0 hX_7 E_a0 zz1 zz5 zz2 zz3) hZ (wd_166 hw) (wd_165 hw) (by decide) (by decide)) (by rw [hml]; rfl) [(.int p1)] (lenOf pd_26 rfl) rfl (Nat.le_of_eq rfl) (d37_2 hby) (fun _ _ => ⟨rfl, e0, (by decide : 0 + 1 ≤ _), (by decide : 0 + 12 ≤ _)⟩) (pq 5) ?_
 rintro _ _ ⟨T20, L20, k20, n20⟩ X20 ⟨Lc20, hQ20, l20, y20, z20⟩
 dsimp only [Pt.U, Pt.locs, Pt.cells, Pt.slots] at X20 l20 y20 z20 hQ20 ⊢
 rw [l20, y20, z20] at X20
 obtain ⟨r0_20, c0_20, rfl, N20q, K20, g20_0, g20_1, g20_2, g20_3, g20_4, g20_5⟩ := hQ20
 have N21 := Fr.app N0 N20q
 have K22 : Keep h0 T20.heap [a0] := (Keep.refl h0 [a0]).trans K20 (allS (Or.inl (by simp)) (all0 (P := fun x => x ∈ [a0] ∨ h0.size ≤ x)))
 have ge23 : n0 ≤ r0_20 := Nat.le_trans Z0 g20_0
 have sz24 : h0.size ≤ r0_20 := Nat.le_trans (Nat.le_refl _) g20_0
 show Runs _ _ _ _ (T20.setTop (mkF m 5 _ []))
 exact w_done X20 hlk (v := none) rfl (fun _ => rfl) (fun fs hr => X20.returnOut hx hret (d37_5 hby) hr) (by decide) (by decide) (⟨r0_20, c0_20, rfl, N21, K22, sz24, g20_1, g20_2, g20_3, g20_4, g20_5⟩)
theorem ef_m22_57 (m : MethodId) (p0 : Int32) (p1 : Int32) (v2 : Value) (r_v2 : v2.isRef = true) : entryFrame m #[(.int p0), (.int p1), v2] 3 = mkF m 0 #[.val (.int p0), .val (.int p1), .val v2] [] := by
  rcases XT.refc r_v2 with rfl | ⟨z_v2, rfl⟩ <;> first | (simp [entryFrame, mkF, argsToLocals, Value.category]; done) | rfl
def Q_m22_57 (Z : State) (p0 : Int32) (p1 : Int32) (v2 : Value) (h0 : Heap) (n0 : Nat) (v : Option Value) (h : Heap) (L : List Loc) : Prop := v = some (.int p0) ∧ Fr n0 L ∧ h = h0
theorem rm_m22_57 (l : Launch) (Z : State) (aZ : Array Value) (hw : ∀ d ∈ tables_1, d.before aZ Z = true) (ws : List Jvm.Cond) (p0 : Int32) (p1 : Int32) (v2 : Value) (h0 : Heap) (n0 : Nat) (Z0 : n0 ≤ h0.size) (r_v2 : v2.isRef = true) (hP_1 : ¬ (p0 < (0 : Int32))) (hP_2 : p0 < p1) :
    MetN l Z yn_22 jdk_41_method_11_code 3 (some .int) ws ({ frames := 0, cells := 0, slots := 0, locals := 0 } : Room) #[(.int p0), (.int p1), v2] h0 (Q_m22_57 Z p0 p1 v2 h0 n0) := by
 refine MetN.of (plainFor_of_name pn_4) ?_
 intro p e s m below meth c s₁ hret hx hby hml hown hnm hlk hZ X0 e0
 have N0 := Fr.nil n0
 rw [ef_m22_57 m p0 p1 v2 r_v2]
 refine w_iloadN X0 hx (d22_0 hby) rfl (pq 1) ?_
 refine w_ifN X0 hx (d22_1 hby) (flt hP_1).1 (pq 4) ?_
 refine w_iloadN X0 hx (d22_4 hby) rfl (pq 5) ?_
 refine w_iloadN X0 hx (d22_5 hby) rfl (pq 6) ?_
 refine w_icY X0 hx (d22_6 hby) (tlt hP_2).1 (pc' := 16) (by decide) (by decide) ?_
 refine w_iloadN X0 hx (d22_16 hby) rfl (pq 17) ?_
 exact w_done X0 hlk (v := some (.int p0)) e0 (fun h => by rw [hret] at h; cases h) (fun fs hr => retI X0 hx hret (d22_17 hby) hr) (by decide) (by decide) (⟨rfl, N0, rfl⟩)
theorem ef_m21_56 (m : MethodId) (p0 : Int32) (p1 : Int32)  : entryFrame m #[(.int p0), (.int p1)] 2 = mkF m 0 #[.val (.int p0), .val (.int p1)] [] := by first | (simp [entryFrame, mkF, argsToLocals, Value.category]; done) | rfl
def Q_m21_56 (Z : State) (p0 : Int32) (p1 : Int32) (jj0 : Value) (h0 : Heap) (n0 : Nat) (v : Option Value) (h : Heap) (L : List Loc) : Prop := v = none ∧ Fr n0 L ∧ h = h0
theorem rm_m21_56 (l : Launch) (Z : State) (aZ : Array Value) (hw : ∀ d ∈ tables_1, d.before aZ Z = true) (ws : List Jvm.Cond) (p0 : Int32) (p1 : Int32) (jj0 : Value) (h0 : Heap) (n0 : Nat) (Z0 : n0 ≤ h0.size) (zz1 : jj0.isRef = true) (zz2 : Sta Z Z.heap kc3 "SIOOBE_FORMATTER" "Ljava/util/function/BiFunction;" jj0) (O0 : Old Z n0 h0) (hP_3 : ¬ (p0 < (0 : Int32))) (hP_4 : p0 < p1) :
    MetN l Z yn_21 jdk_42_method_155_code 2 none ws ({ frames := 1, cells := 0, slots := 0, locals := 14 } : Room) #[(.int p0), (.int p1)] h0 (Q_m21_56 Z p0 p1 jj0 h0 n0) := by
 refine MetN.of (plainFor_of_name pn_3) ?_
 intro p e s m below meth c s₁ hret hx hby hml hown hnm hlk hZ X0 e0
 have N0 := Fr.nil n0
 rw [ef_m21_56 m p0 p1]
 refine w_iloadN X0 hx (d21_0 hby) rfl (pq 1) ?_
 refine w_iloadN X0 hx (d21_1 hby) rfl (pq 2) ?_
 refine w_getS X0 hx "" hZ hown (Or.inl (wd_92 hw)) Via.refl e0 (zz2.ext O0.2) (d21_2 hby) (pq 5) ?_
 intro T20 X20 e20
 refine w_static X20 hx (y := yn_22) hown (mvT hZ (wd_94 hw)) (mvT hZ (wd_95 hw)) (mvT hZ (wd_93 hw)) (mvT hZ (wd_96 hw)) (by decide) (backOf (W := 0) (rm_m22_57 l Z aZ hw [] p0 p1 jj0 h0 n0 Z0 zz1 hP_3 hP_4) hZ (wd_96 hw) (wd_93 hw) (by decide) (by decide)) (by rw [hml]; rfl) [(.int p0), (.int p1), jj0] (lenOf pd_10 rfl) rfl (Nat.le_of_eq rfl) (d21_5 hby) (fun _ _ => ⟨rfl, e20, (by decide : 0 + 0 ≤ _), (by decide : 0 + 0 ≤ _)⟩) (pq 8) ?_
 rintro _ _ ⟨T21, L21, k21, n21⟩ X21 ⟨Lc21, hQ21, l21, y21, z21⟩
 dsimp only [Pt.U, Pt.locs, Pt.cells, Pt.slots] at X21 l21 y21 z21 hQ21 ⊢
 rw [l21, y21, z21] at X21
 obtain ⟨rfl, N21q, e21⟩ := hQ21
 have N22 := Fr.app N0 N21q
 show Runs _ _ _ _ (T21.setTop (mkF m 8 _ [(.int p0)]))
 refine w_pop X21 hx (d21_8 hby) rfl (pq 9) ?_
 exact w_done X21 hlk (v := none) e21 (fun _ => rfl) (fun fs hr => X21.returnOut hx hret (d21_9 hby) hr) (by decide) (by decide) (⟨rfl, N22, rfl⟩)
theorem ef_m20_55 (m : MethodId) (a0 : Addr) (p1 : Int32)  : entryFrame m #[(.ref a0), (.int p1)] 2 = mkF m 0 #[.val (.ref a0), .val (.int p1)] [] := by first | (simp [entryFrame, mkF, argsToLocals, Value.category]; done) | rfl
def Q_m20_55 (Z : State) (a0 : Addr) (p1 : Int32) (k_a0 : ClassId) (jj0 : Int32) (l_a0 : List Int32) (jj1 : Value) (h0 : Heap) (n0 : Nat) (v : Option Value) (h : Heap) (L : List Loc) : Prop := v = some (.int (((gI l_a0 p1) &&& (255 : Int32)).toUInt32.toUInt16.toUInt32.toInt32)) ∧ Fr n0 L ∧ h = h0
theorem rm_m20_55 (l : Launch) (Z : State) (aZ : Array Value) (hw : ∀ d ∈ tables_1, d.before aZ Z = true) (ws : List Jvm.Cond) (a0 : Addr) (p1 : Int32) (k_a0 : ClassId) (jj0 : Int32) (l_a0 : List Int32) (jj1 : Value) (h0 : Heap) (n0 : Nat) (Z0 : n0 ≤ h0.size) (V_a0 : Arv Z h0 a0 k_a0 .byte jj0 (mI l_a0) (.int (0 : Int32))) (hP_1 : ¬ (p1 < (0 : Int32))) (hP_2 : p1 < jj0) (zz2 : jj1.isRef = true) (zz3 : Sta Z Z.heap kc3 "SIOOBE_FORMATTER" "Ljava/util/function/BiFunction;" jj1) (O0 : Old Z n0 h0) :
    MetN l Z yn_20 jdk_43_method_2_code 2 (some .char) ws ({ frames := 2, cells := 0, slots := 0, locals := 27 } : Room) #[(.ref a0), (.int p1)] h0 (Q_m20_55 Z a0 p1 k_a0 jj0 l_a0 jj1 h0 n0) := by
 refine MetN.of (plainFor_of_name pn_5) ?_
 intro p e s m below meth c s₁ hret hx hby hml hown hnm hlk hZ X0 e0
 have N0 := Fr.nil n0
 rw [ef_m20_55 m a0 p1]
 refine w_iloadN X0 hx (d20_0 hby) rfl (pq 1) ?_
 refine w_aloadN X0 hx (d20_1 hby) rfl rfl (pq 2) ?_
 refine w_alen X0 hx hZ e0 V_a0 (d20_2 hby) (pq 3) ?_
 refine w_static X0 hx (y := yn_21) hown (mvT hZ (wd_89 hw)) (mvT hZ (wd_90 hw)) (mvT hZ (wd_23 hw)) (mvT hZ (wd_91 hw)) (by decide) (backOf (W := 0) (rm_m21_56 l Z aZ hw [] p1 jj0 jj1 h0 n0 Z0 zz2 zz3 O0 hP_1 hP_2) hZ (wd_91 hw) (wd_23 hw) (by decide) (by decide)) (by rw [hml]; rfl) [(.int p1), (.int jj0)] (lenOf pd_11 rfl) rfl (Nat.le_of_eq rfl) (d20_3 hby) (fun _ _ => ⟨rfl, e0, (by decide : 0 + 0 ≤ _), (by decide : 0 + 0 ≤ _)⟩) (pq 6) ?_
 rintro _ _ ⟨T20, L20, k20, n20⟩ X20 ⟨Lc20, hQ20, l20, y20, z20⟩
 dsimp only [Pt.U, Pt.locs, Pt.cells, Pt.slots] at X20 l20 y20 z20 hQ20 ⊢
 rw [l20, y20, z20] at X20
 obtain ⟨rfl, N20q, e20⟩ := hQ20
 have N21 := Fr.app N0 N20q
 show Runs _ _ _ _ (T20.setTop (mkF m 6 _ []))
 refine w_aloadN X20 hx (d20_6 hby) rfl rfl (pq 7) ?_
 refine w_iloadN X20 hx (d20_7 hby) rfl (pq 8) ?_
 obtain ⟨clu22, Aru22, qu22, Su22, Nu22, Hu22, Gu22⟩ := id V_a0
 have hinu22 := inb_of (j := p1) Su22 ⟨hP_1, hP_2⟩
 refine w_baload X20 hx hZ e20 Aru22 hinu22 (Hu22.at hinu22 (own_gI l_a0 p1)) (d20_8 hby) (pq 9) ?_
 refine w_sipush X20 hx (d20_9 hby) (v := (255 : Int32)) rfl (pq 12) ?_
 refine w_iand X20 hx (d20_12 hby) (pq 13) ?_
 refine w_i2c X20 hx (d20_13 hby) (pq 14) ?_
 exact w_done X20 hlk (v := some (.int (((gI l_a0 p1) &&& (255 : Int32)).toUInt32.toUInt16.toUInt32.toInt32))) e20 (fun h => by rw [hret] at h; cases h) (fun fs hr => retOut X20 hx hret (t := .char) (XT.narrow_c _) (Or.inl ⟨rfl, by simp, _, rfl⟩) (d20_14 hby) hr) (by decide) (by decide) (⟨rfl, N21, rfl⟩)
theorem ef_m18_54 (m : MethodId) (a0 : Addr) (p1 : Int32)  : entryFrame m #[(.ref a0), (.int p1)] 2 = mkF m 0 #[.val (.ref a0), .val (.int p1)] [] := by first | (simp [entryFrame, mkF, argsToLocals, Value.category]; done) | rfl
def Q_m18_54 (Z : State) (a0 : Addr) (p1 : Int32) (jj0 : Int32) (jj1 : Addr) (jj2 : ClassId) (jj3 : Int32) (jj4 : List Int32) (jj5 : Value) (h0 : Heap) (n0 : Nat) (v : Option Value) (h : Heap) (L : List Loc) : Prop := v = some (.int (((gI jj4 p1) &&& (255 : Int32)).toUInt32.toUInt16.toUInt32.toInt32)) ∧ Fr n0 L ∧ h = h0
theorem rm_m18_54 (l : Launch) (Z : State) (aZ : Array Value) (hw : ∀ d ∈ tables_1, d.before aZ Z = true) (ws : List Jvm.Cond) (a0 : Addr) (p1 : Int32) (jj0 : Int32) (jj1 : Addr) (jj2 : ClassId) (jj3 : Int32) (jj4 : List Int32) (jj5 : Value) (h0 : Heap) (n0 : Nat) (Z0 : n0 ≤ h0.size) (E_a0 : Exa Z h0 a0 kc0) (zz6 : Sta Z Z.heap kc0 "COMPACT_STRINGS" "Z" (.int jj0)) (O0 : Old Z n0 h0) (zz7 : Fld Z h0 a0 kc0 "coder" "B" (.int (0 : Int32))) (hP_4 : ¬ (jj0 = (0 : Int32))) (zz8 : Fld Z h0 a0 kc0 "value" "[B" (.ref jj1)) (zz9 : Arv Z h0 jj1 jj2 .byte jj3 (mI jj4) (.int (0 : Int32))) (hP_7 : ¬ (p1 < (0 : Int32))) (hP_8 : p1 < jj3) (zz10 : jj5.isRef = true) (zz11 : Sta Z Z.heap kc3 "SIOOBE_FORMATTER" "Ljava/util/function/BiFunction;" jj5) :
    MetN l Z yn_18 jdk_42_method_56_code 2 (some .char) ws ({ frames := 3, cells := 0, slots := 0, locals := 40 } : Room) #[(.ref a0), (.int p1)] h0 (Q_m18_54 Z a0 p1 jj0 jj1 jj2 jj3 jj4 jj5 h0 n0) := by
 refine MetN.of (plainFor_of_name pn_3) ?_
 intro p e s m below meth c s₁ hret hx hby hml hown hnm hlk hZ X0 e0
 have N0 := Fr.nil n0
 rw [ef_m18_54 m a0 p1]
 refine w_aloadN X0 hx (d18_0 hby) rfl rfl (pq 1) ?_
 obtain ⟨cq20, kq20, q20a, q20b, q20c⟩ := isOf hZ e0 E_a0
 refine w_virtual X0 hx (y := yn_19) (z := yn_19) hown (mvT hZ (wd_80 hw)) (mvT hZ (wd_81 hw)) (notFace_of_selects (args := #[]) (mvT hZ (wd_83 hw))) (mvT hZ (wd_83 hw)) (mvT hZ (wd_82 hw)) (by decide) (backOf (W := 0) (rm_m19_7 l Z aZ hw [] a0 jj0 h0 n0 Z0 zz6 O0 hP_4 zz7) hZ (wd_84 hw) (wd_23 hw) (by decide) (by decide)) q20a q20c (by rw [hml]; rfl) [] (lenOf pd_9 rfl) rfl (Nat.le_of_eq rfl) (d18_1 hby) (fun _ _ => ⟨rfl, e0, (by decide : 0 + 0 ≤ _), (by decide : 0 + 0 ≤ _)⟩) (pq 4) ?_
 rintro _ _ ⟨T20, L20, k20, n20⟩ X20 ⟨Lc20, hQ20, l20, y20, z20⟩
 dsimp only [Pt.U, Pt.locs, Pt.cells, Pt.slots] at X20 l20 y20 z20 hQ20 ⊢
 rw [l20, y20, z20] at X20
 obtain ⟨rfl, N20q, e20⟩ := hQ20
 have N21 := Fr.app N0 N20q
 show Runs _ _ _ _ (T20.setTop (mkF m 4 _ [(.int (1 : Int32))]))
 refine w_ifN X20 hx (d18_4 hby) (feq (by decide : ¬ ((1 : Int32) = (0 : Int32)))).1 (pq 7) ?_
 refine w_aloadN X20 hx (d18_7 hby) rfl rfl (pq 8) ?_
 refine w_getF X20 hx "" hZ hown (Or.inl (wd_48 hw)) Via.refl e20 zz8 (d18_8 hby) (pq 11) ?_
 intro T22 X22 e22
 refine w_iloadN X22 hx (d18_11 hby) rfl (pq 12) ?_
 refine w_static X22 hx (y := yn_20) hown (mvT hZ (wd_85 hw)) (mvT hZ (wd_86 hw)) (mvT hZ (wd_87 hw)) (mvT hZ (wd_88 hw)) (by decide) (backOf (W := 0) (rm_m20_55 l Z aZ hw [] jj1 p1 jj2 jj3 jj4 jj5 h0 n0 Z0 zz9 hP_7 hP_8 zz10 zz11 O0) hZ (wd_88 hw) (wd_87 hw) (by decide) (by decide)) (by rw [hml]; rfl) [(.ref jj1), (.int p1)] (lenOf pd_12 rfl) rfl (Nat.le_of_eq rfl) (d18_12 hby) (fun _ _ => ⟨rfl, e22, (by decide : 0 + 0 ≤ _), (by decide : 0 + 0 ≤ _)⟩) (pq 15) ?_
 rintro _ _ ⟨T23, L23, k23, n23⟩ X23 ⟨Lc23, hQ23, l23, y23, z23⟩
 dsimp only [Pt.U, Pt.locs, Pt.cells, Pt.slots] at X23 l23 y23 z23 hQ23 ⊢
 rw [l23, y23, z23] at X23
 obtain ⟨rfl, N23q, e23⟩ := hQ23
 have N24 := Fr.app N21 N23q
 show Runs _ _ _ _ (T23.setTop (mkF m 15 _ [(.int (((gI jj4 p1) &&& (255 : Int32)).toUInt32.toUInt16.toUInt32.toInt32))]))
 exact w_done X23 hlk (v := some (.int (((gI jj4 p1) &&& (255 : Int32)).toUInt32.toUInt16.toUInt32.toInt32))) e23 (fun h => by rw [hret] at h; cases h) (fun fs hr => retOut X23 hx hret (t := .char) (XT.narrow_c _) (Or.inl ⟨rfl, by simp, _, rfl⟩) (d18_15 hby) hr) (by decide) (by decide) (⟨rfl, N24, rfl⟩)
theorem ef_m47_61 (m : MethodId) (a0 : Addr)  : entryFrame m #[(.ref a0)] 1 = mkF m 0 #[.val (.ref a0)] [] := by first | (simp [entryFrame, mkF, argsToLocals, Value.category]; done) | rfl
def Q_m47_61 (Z : State) (a0 : Addr) (jj0 : Addr) (h0 : Heap) (n0 : Nat) (v : Option Value) (h : Heap) (L : List Loc) : Prop := v = some (.ref jj0) ∧ Fr n0 L ∧ h = h0
theorem rm_m47_61 (l : Launch) (Z : State) (aZ : Array Value) (hw : ∀ d ∈ tables_1, d.before aZ Z = true) (ws : List Jvm.Cond) (a0 : Addr) (jj0 : Addr) (h0 : Heap) (n0 : Nat) (Z0 : n0 ≤ h0.size) (zz1 : Fld Z h0 a0 kc1 "value" "[B" (.ref jj0)) :
    MetN l Z yn_47 jdk_68_method_64_code 1 (some (.array .byte)) ws ({ frames := 0, cells := 0, slots := 0, locals := 0 } : Room) #[(.ref a0)] h0 (Q_m47_61 Z a0 jj0 h0 n0) := by
 refine MetN.of (plainFor_of_name pn_9) ?_
 intro p e s m below meth c s₁ hret hx hby hml hown hnm hlk hZ X0 e0
 have N0 := Fr.nil n0
 rw [ef_m47_61 m a0]
 refine w_aloadN X0 hx (d47_0 hby) rfl rfl (pq 1) ?_
 refine w_getF X0 hx "" hZ hown (Or.inl (wd_169 hw)) Via.refl e0 zz1 (d47_1 hby) (pq 4) ?_
 intro T20 X20 e20
 exact w_done X20 hlk (v := some (.ref jj0)) e20 (fun h => by rw [hret] at h; cases h) (fun fs hr => retOut X20 hx hret rfl (Or.inr (Or.inr (Or.inr (Or.inr ⟨rfl, rfl, rfl⟩)))) (d47_4 hby) hr) (by decide) (by decide) (⟨rfl, N0, rfl⟩)
theorem ef_m49_63 (m : MethodId) (a0 : Addr)  : entryFrame m #[(.ref a0)] 1 = mkF m 0 #[.val (.ref a0)] [] := by first | (simp [entryFrame, mkF, argsToLocals, Value.category]; done) | rfl
def Q_m49_63 (Z : State) (a0 : Addr) (jj0 : Int32) (h0 : Heap) (n0 : Nat) (v : Option Value) (h : Heap) (L : List Loc) : Prop := v = some (.int jj0) ∧ Fr n0 L ∧ h = h0
theorem rm_m49_63 (l : Launch) (Z : State) (aZ : Array Value) (hw : ∀ d ∈ tables_1, d.before aZ Z = true) (ws : List Jvm.Cond) (a0 : Addr) (jj0 : Int32) (h0 : Heap) (n0 : Nat) (Z0 : n0 ≤ h0.size) (zz1 : Fld Z h0 a0 kc1 "count" "I" (.int jj0)) :
    MetN l Z yn_49 jdk_68_method_6_code 1 (some .int) ws ({ frames := 0, cells := 0, slots := 0, locals := 0 } : Room) #[(.ref a0)] h0 (Q_m49_63 Z a0 jj0 h0 n0) := by
 refine MetN.of (plainFor_of_name pn_9) ?_
 intro p e s m below meth c s₁ hret hx hby hml hown hnm hlk hZ X0 e0
 have N0 := Fr.nil n0
 rw [ef_m49_63 m a0]
 refine w_aloadN X0 hx (d49_0 hby) rfl rfl (pq 1) ?_
 refine w_getF X0 hx "" hZ hown (Or.inl (wd_183 hw)) Via.refl e0 zz1 (d49_1 hby) (pq 4) ?_
 intro T20 X20 e20
 exact w_done X20 hlk (v := some (.int jj0)) e20 (fun h => by rw [hret] at h; cases h) (fun fs hr => retI X20 hx hret (d49_4 hby) hr) (by decide) (by decide) (⟨rfl, N0, rfl⟩)
theorem ef_m48_62 (m : MethodId) (a0 : Addr)  : entryFrame m #[(.ref a0)] 1 = mkF m 0 #[.val (.ref a0)] [] := by first | (simp [entryFrame, mkF, argsToLocals, Value.category]; done) | rfl
def Q_m48_62 (Z : State) (a0 : Addr) (jj0 : Int32) (h0 : Heap) (n0 : Nat) (v : Option Value) (h : Heap) (L : List Loc) : Prop := v = some (.int jj0) ∧ Fr n0 L ∧ h = h0
theorem rm_m48_62 (l : Launch) (Z : State) (aZ : Array Value) (hw : ∀ d ∈ tables_1, d.before aZ Z = true) (ws : List Jvm.Cond) (a0 : Addr) (jj0 : Int32) (h0 : Heap) (n0 : Nat) (Z0 : n0 ≤ h0.size) (zz1 : Fld Z h0 a0 kc1 "count" "I" (.int jj0)) (E_a0 : Exa Z h0 a0 kc4) :
    MetN l Z yn_48 jdk_67_method_93_code 1 (some .int) ws ({ frames := 1, cells := 0, slots := 0, locals := 12 } : Room) #[(.ref a0)] h0 (Q_m48_62 Z a0 jj0 h0 n0) := by
 refine MetN.of (plainFor_of_name pn_10) ?_
 intro p e s m below meth c s₁ hret hx hby hml hown hnm hlk hZ X0 e0
 have N0 := Fr.nil n0
 rw [ef_m48_62 m a0]
 refine w_aloadN X0 hx (d48_0 hby) rfl rfl (pq 1) ?_
 refine w_super X0 hx (y := yn_49) hZ hown (wd_221 hw) (own_sameS (args := aZ) (wd_188 hw) rfl (wd_217 hw) (by decide)) (wd_217 hw) (wd_180 hw) (by decide) (wd_222 hw) (backOf (W := 0) (rm_m49_63 l Z aZ hw [] a0 jj0 h0 n0 Z0 zz1) hZ (wd_222 hw) (wd_165 hw) (by decide) (by decide)) e0 (Ins.of_exa E_a0 (wd_164 hw)) (by rw [hml]; rfl) [] (lenOf pd_8 rfl) rfl (Nat.le_of_eq rfl) (d48_1 hby) (fun _ _ => ⟨rfl, e0, (by decide : 0 + 0 ≤ _), (by decide : 0 + 0 ≤ _)⟩) (pq 4) ?_
 rintro _ _ ⟨T20, L20, k20, n20⟩ X20 ⟨Lc20, hQ20, l20, y20, z20⟩
 dsimp only [Pt.U, Pt.locs, Pt.cells, Pt.slots] at X20 l20 y20 z20 hQ20 ⊢
 rw [l20, y20, z20] at X20
 obtain ⟨rfl, N20q, e20⟩ := hQ20
 have N21 := Fr.app N0 N20q
 show Runs _ _ _ _ (T20.setTop (mkF m 4 _ [(.int jj0)]))
 exact w_done X20 hlk (v := some (.int jj0)) e20 (fun h => by rw [hret] at h; cases h) (fun fs hr => retI X20 hx hret (d48_4 hby) hr) (by decide) (by decide) (⟨rfl, N21, rfl⟩)
theorem ef_m42_64 (m : MethodId) (a0 : Addr)  : entryFrame m #[(.ref a0)] 1 = mkF m 0 #[.val (.ref a0)] [] := by first | (simp [entryFrame, mkF, argsToLocals, Value.category]; done) | rfl
def Q_m42_64 (Z : State) (a0 : Addr) (jj0 : Int32) (h0 : Heap) (n0 : Nat) (v : Option Value) (h : Heap) (L : List Loc) : Prop := v = some (.int (1 : Int32)) ∧ Fr n0 L ∧ h = h0
theorem rm_m42_64 (l : Launch) (Z : State) (aZ : Array Value) (hw : ∀ d ∈ tables_1, d.before aZ Z = true) (ws : List Jvm.Cond) (a0 : Addr) (jj0 : Int32) (h0 : Heap) (n0 : Nat) (Z0 : n0 ≤ h0.size) (zz1 : Sta Z Z.heap kc0 "COMPACT_STRINGS" "Z" (.int jj0)) (O0 : Old Z n0 h0) (hP_2 : ¬ (jj0 = (0 : Int32))) (zz2 : Fld Z h0 a0 kc1 "coder" "B" (.int (0 : Int32))) :
    MetN l Z yn_42 jdk_68_method_68_code 1 (some .boolean) ws ({ frames := 0, cells := 0, slots := 0, locals := 0 } : Room) #[(.ref a0)] h0 (Q_m42_64 Z a0 jj0 h0 n0) := by
 refine MetN.of (plainFor_of_name pn_9) ?_
 intro p e s m below meth c s₁ hret hx hby hml hown hnm hlk hZ X0 e0
 have N0 := Fr.nil n0
 rw [ef_m42_64 m a0]
 refine w_getS X0 hx "" hZ hown (Or.inl (wd_168 hw)) Via.refl e0 (zz1.ext O0.2) (d42_0 hby) (pq 3) ?_
 intro T20 X20 e20
 refine w_ifN X20 hx (d42_3 hby) (feq hP_2).1 (pq 6) ?_
 refine w_aloadN X20 hx (d42_6 hby) rfl rfl (pq 7) ?_
 refine w_getF X20 hx "" hZ hown (Or.inl (wd_171 hw)) Via.refl e20 zz2 (d42_7 hby) (pq 10) ?_
 intro T21 X21 e21
 refine w_ifN X21 hx (d42_10 hby) (teq (by decide : (0 : Int32) = (0 : Int32))).2 (pq 13) ?_
 refine w_iconst X21 hx (d42_13 hby) (v := (1 : Int32)) rfl (pq 14) ?_
 refine w_goto X21 hx (d42_14 hby) (pc' := 18) (by decide) (by decide) ?_
 exact w_done X21 hlk (v := some (.int (1 : Int32))) e21 (fun h => by rw [hret] at h; cases h) (fun fs hr => retN X21 hx (t := .boolean) hret (by simp) (d42_18 hby) hr) (by decide) (by decide) (⟨rfl, N0, rfl⟩)
theorem ef_m29_66 (m : MethodId) (a0 : Addr) (p1 : Int32) (p2 : Int32)  : entryFrame m #[(.ref a0), (.int p1), (.int p2)] 5 = mkF m 0 #[.val (.ref a0), .val (.int p1), .val (.int p2), .unset, .unset] [] := by first | (simp [entryFrame, mkF, argsToLocals, Value.category]; done) | rfl
def Q_m29_66 (Z : State) (a0 : Addr) (p1 : Int32) (p2 : Int32) (k_a0 : ClassId) (jj0 : Int32) (l_a0 : List Int32) (h0 : Heap) (n0 : Nat) (v : Option Value) (h : Heap) (L : List Loc) : Prop := ∃ (t : Addr) (kb : ClassId), v = some (.ref t) ∧ Fr n0 L ∧ Keep h0 h [] ∧ h0.size ≤ t ∧ Arv Z h t kb .byte (p2 - p1) (mI (cprL l_a0 p1 p2)) (.int (0 : Int32))
theorem rm_m29_66 (l : Launch) (Z : State) (aZ : Array Value) (hw : ∀ d ∈ tables_1, d.before aZ Z = true) (ws : List Jvm.Cond) (a0 : Addr) (p1 : Int32) (p2 : Int32) (k_a0 : ClassId) (jj0 : Int32) (l_a0 : List Int32) (h0 : Heap) (n0 : Nat) (Z0 : n0 ≤ h0.size) (V_a0 : Arv Z h0 a0 k_a0 .byte jj0 (mI l_a0) (.int (0 : Int32))) (hX_1 : CPR jj0 p1 p2) (hX_2 : l_a0.length = jj0.toNatClampNeg) :
    MetN l Z yn_29 jdk_65_method_133_code 5 (some (.array .byte)) ws ({ frames := 1, cells := 1, slots := 12, locals := 18 } : Room) #[(.ref a0), (.int p1), (.int p2)] h0 (Q_m29_66 Z a0 p1 p2 k_a0 jj0 l_a0 h0 n0) := by
 refine MetN.of (plainFor_of_name pn_6) ?_
 intro p e s m below meth c s₁ hret hx hby hml hown hnm hlk hZ X0 e0
 have N0 := Fr.nil n0
 rw [ef_m29_66 m a0 p1 p2]
 refine w_iloadN X0 hx (d29_0 hby) rfl (pq 1) ?_
 refine w_iloadN X0 hx (d29_1 hby) rfl (pq 2) ?_
 refine w_static X0 hx (y := yn_30) hown (mvT hZ (wd_123 hw)) (mvT hZ (wd_124 hw)) (mvT hZ (wd_118 hw)) (mvT hZ (wd_125 hw)) (by decide) (backOf (W := 0) (rm_m30_18 l Z aZ hw [] p1 p2 h0 n0 Z0 (own_cprL hX_1)) hZ (wd_125 hw) (wd_118 hw) (by decide) (by decide)) (by rw [hml]; rfl) [(.int p1), (.int p2)] (lenOf pd_11 rfl) rfl (Nat.le_of_eq rfl) (d29_2 hby) (fun _ _ => ⟨rfl, e0, (by decide : 0 + 0 ≤ _), (by decide : 0 + 0 ≤ _)⟩) (pq 5) ?_
 rintro _ _ ⟨T20, L20, k20, n20⟩ X20 ⟨Lc20, hQ20, l20, y20, z20⟩
 dsimp only [Pt.U, Pt.locs, Pt.cells, Pt.slots] at X20 l20 y20 z20 hQ20 ⊢
 rw [l20, y20, z20] at X20
 obtain ⟨rfl, N20q, e20⟩ := hQ20
 have N21 := Fr.app N0 N20q
 show Runs _ _ _ _ (T20.setTop (mkF m 5 _ []))
 refine w_iloadN X20 hx (d29_5 hby) rfl (pq 6) ?_
 refine w_iloadN X20 hx (d29_6 hby) rfl (pq 7) ?_
 refine w_isub X20 hx (d29_7 hby) (pq 8) ?_
 refine w_istoreN X20 hx (d29_8 hby) (L' := #[.val (.ref a0), .val (.int p1), .val (.int p2), .val (.int (p2 - p1)), .unset]) rfl (pq 9) ?_
 refine w_iloadN X20 hx (d29_9 hby) rfl (pq 10) ?_
 refine w_newP X20 hx .byte .byte 12 rfl hZ (wd_39 hw) e20 (d29_10 hby) (own_cprN hX_1).2 (own_cprN hX_1).1 (by decide) (by decide) (by decide) (pq 12) ?_
 intro T22 h22 k22 b22 X22 e22 E22 g22 A22
 have ge23 : n0 ≤ b22 := Nat.le_trans Z0 (Nat.le_of_eq g22.symm)
 have sz24 : h0.size ≤ b22 := Nat.le_trans (Nat.le_refl _) (Nat.le_of_eq g22.symm)
 have K25 : Keep h0 h22 [] := (Keep.refl h0 []).ext E22
 have V26 : Arv Z h22 b22 k22 .byte (p2 - p1) (mI (zeroL (p2 - p1))) (.int (0 : Int32)) := (Arv.new A22 (own_cprN hX_1).2).pad (own_zpad _)
 refine w_astore X22 hx (d29_12 hby) rfl (L' := #[.val (.ref a0), .val (.int p1), .val (.int p2), .val (.int (p2 - p1)), .val (.ref b22)]) rfl (pq 14) ?_
 refine w_aloadN X22 hx (d29_14 hby) rfl rfl (pq 15) ?_
 refine w_iloadN X22 hx (d29_15 hby) rfl (pq 16) ?_
 refine w_aload X22 hx (d29_16 hby) rfl rfl (pq 18) ?_
 refine w_iconst X22 hx (d29_18 hby) (v := (0 : Int32)) rfl (pq 19) ?_
 refine w_aloadN X22 hx (d29_19 hby) rfl rfl (pq 20) ?_
 have f27 : Arv Z h22 a0 k_a0 .byte jj0 (mI l_a0) (.int (0 : Int32)) := (V_a0.ext E22)
 refine w_alen X22 hx hZ e22 f27 (d29_20 hby) (pq 21) ?_
 refine w_iloadN X22 hx (d29_21 hby) rfl (pq 22) ?_
 refine w_isub X22 hx (d29_22 hby) (pq 23) ?_
 refine w_iloadN X22 hx (d29_23 hby) rfl (pq 24) ?_
 refine w_static X22 hx (y := yn_31) hown (mvT hZ (wd_126 hw)) (mvT hZ (wd_127 hw)) (mvT hZ (wd_128 hw)) (mvT hZ (wd_129 hw)) (by decide) (backOf (W := 4) (rm_min l Z aZ hw [] (jj0 - p1) (p2 - p1) h22 n0 (Nat.le_trans Z0 E22.1) ) hZ (wd_129 hw) (wd_128 hw) (by decide) (by decide)) (by rw [hml]; rfl) [(.int (jj0 - p1)), (.int (p2 - p1))] (lenOf pd_15 rfl) rfl (Nat.le_of_eq rfl) (d29_24 hby) (fun _ _ => ⟨rfl, e22, (by decide : 1 + 0 ≤ _), (by decide : 12 + 0 ≤ _)⟩) (pq 27) ?_
 rintro _ _ ⟨T28, L28, k28, n28⟩ X28 ⟨Lc28, hQ28, l28, y28, z28⟩
 dsimp only [Pt.U, Pt.locs, Pt.cells, Pt.slots] at X28 l28 y28 z28 hQ28 ⊢
 rw [l28, y28, z28] at X28
 obtain ⟨rfl, N28q, e28⟩ := hQ28
 have N29 := Fr.app N21 N28q
 show Runs _ _ _ _ (T28.setTop (mkF m 27 _ [(.int (minF (jj0 - p1) (p2 - p1))), (.int (0 : Int32)), (.ref b22), (.int p1), (.ref a0)]))
 refine w_cpA X28 hx (us := (mI (cprL l_a0 p1 p2))) (vr := mI (cprL l_a0 p1 p2)) 0 hZ hown (wd_130 hw) (wd_133 hw) (wd_131 hw) (wd_132 hw) e28 f27 V26 (Or.inl ⟨rfl, rfl⟩) (own_cp1 hX_1 hX_2) (own_cp2 hX_1 hX_2) (own_cp3 hX_1 hX_2) (own_cp4 hX_1 hX_2) (own_cp5 hX_1 hX_2) (own_cp6 hX_1 hX_2) (own_cp7 hX_1 hX_2) (own_cp8 hX_1 hX_2) N29 ge23 (by rw [hml]; rfl) (d29_27 hby) (by decide) (Nat.le_of_eq rfl) (by decide) (pq 30) ?_
 intro T30 h30 L30 X30 e30 N30 K30 A30
 have K31 : Keep h0 h30 [] := K25.trans K30 (allS (Or.inr sz24) (all0 (P := fun x => x ∈ [] ∨ h0.size ≤ x)))
 refine w_aload X30 hx (d29_30 hby) rfl rfl (pq 32) ?_
 exact w_done X30 hlk (v := some (.ref b22)) e30 (fun h => by rw [hret] at h; cases h) (fun fs hr => retOut X30 hx hret rfl (Or.inr (Or.inr (Or.inr (Or.inr ⟨rfl, rfl, rfl⟩)))) (d29_32 hby) hr) (by decide) (by decide) (⟨b22, k22, rfl, N30, K31, sz24, A30⟩)
theorem ef_m28_65 (m : MethodId) (a0 : Addr) (p2 : Int32)  : entryFrame m #[(.ref a0), (.int (0 : Int32)), (.int p2)] 3 = mkF m 0 #[.val (.ref a0), .val (.int (0 : Int32)), .val (.int p2)] [] := by first | (simp [entryFrame, mkF, argsToLocals, Value.category]; done) | rfl
def Q_m28_65 (Z : State) (a0 : Addr) (p2 : Int32) (k_a0 : ClassId) (jj0 : Int32) (l_a0 : List Int32) (h0 : Heap) (n0 : Nat) (v : Option Value) (h : Heap) (L : List Loc) : Prop := ∃ (r0 : Addr) (c0 : ClassId), v = some (.ref r0) ∧ Fr n0 L ∧ Keep h0 h [] ∧ h0.size ≤ r0 ∧ Arv Z h r0 c0 .byte (p2 - (0 : Int32)) (mI (cprL l_a0 (0 : Int32) p2)) (.int (0 : Int32))
theorem rm_m28_65 (l : Launch) (Z : State) (aZ : Array Value) (hw : ∀ d ∈ tables_1, d.before aZ Z = true) (ws : List Jvm.Cond) (a0 : Addr) (p2 : Int32) (k_a0 : ClassId) (jj0 : Int32) (l_a0 : List Int32) (h0 : Heap) (n0 : Nat) (Z0 : n0 ≤ h0.size) (V_a0 : Arv Z h0 a0 k_a0 .byte jj0 (mI l_a0) (.int (0 : Int32))) (hP_1 : ¬ (p2 = jj0)) (hX_2 : CPR jj0 (0 : Int32) p2) (hX_3 : l_a0.length = jj0.toNatClampNeg) :
    MetN l Z yn_28 jdk_65_method_132_code 3 (some (.array .byte)) ws ({ frames := 2, cells := 1, slots := 12, locals := 34 } : Room) #[(.ref a0), (.int (0 : Int32)), (.int p2)] h0 (Q_m28_65 Z a0 p2 k_a0 jj0 l_a0 h0 n0) := by
 refine MetN.of (plainFor_of_name pn_6) ?_
 intro p e s m below meth c s₁ hret hx hby hml hown hnm hlk hZ X0 e0
 have N0 := Fr.nil n0
 rw [ef_m28_65 m a0 p2]
 refine w_iloadN X0 hx (d28_0 hby) rfl (pq 1) ?_
 refine w_ifN X0 hx (d28_1 hby) (teq (by decide : (0 : Int32) = (0 : Int32))).2 (pq 4) ?_
 refine w_iloadN X0 hx (d28_4 hby) rfl (pq 5) ?_
 refine w_aloadN X0 hx (d28_5 hby) rfl rfl (pq 6) ?_
 refine w_alen X0 hx hZ e0 V_a0 (d28_6 hby) (pq 7) ?_
 refine w_icN X0 hx (d28_7 hby) (feq hP_1).1 (pq 10) ?_
 refine w_aloadN X0 hx (d28_10 hby) rfl rfl (pq 11) ?_
 refine w_iloadN X0 hx (d28_11 hby) rfl (pq 12) ?_
 refine w_iloadN X0 hx (d28_12 hby) rfl (pq 13) ?_
 refine w_static X0 hx (y := yn_29) hown (mvT hZ (wd_120 hw)) (mvT hZ (wd_121 hw)) (mvT hZ (wd_118 hw)) (mvT hZ (wd_122 hw)) (by decide) (backOf (W := 0) (rm_m29_66 l Z aZ hw [] a0 (0 : Int32) p2 k_a0 jj0 l_a0 h0 n0 Z0 V_a0 hX_2 hX_3) hZ (wd_122 hw) (wd_118 hw) (by decide) (by decide)) (by rw [hml]; rfl) [(.ref a0), (.int (0 : Int32)), (.int p2)] (lenOf pd_16 rfl) rfl (Nat.le_of_eq rfl) (d28_13 hby) (fun _ _ => ⟨rfl, e0, (by decide : 0 + 1 ≤ _), (by decide : 0 + 12 ≤ _)⟩) (pq 16) ?_
 rintro _ _ ⟨T20, L20, k20, n20⟩ X20 ⟨Lc20, hQ20, l20, y20, z20⟩
 dsimp only [Pt.U, Pt.locs, Pt.cells, Pt.slots] at X20 l20 y20 z20 hQ20 ⊢
 rw [l20, y20, z20] at X20
 obtain ⟨t_20, kb_20, rfl, N20q, K20, g20_0, g20_1⟩ := hQ20
 have N21 := Fr.app N0 N20q
 have K22 : Keep h0 T20.heap [] := (Keep.refl h0 []).trans K20 (all0 (P := fun x => x ∈ [] ∨ h0.size ≤ x))
 have ge23 : n0 ≤ t_20 := Nat.le_trans Z0 g20_0
 have sz24 : h0.size ≤ t_20 := Nat.le_trans (Nat.le_refl _) g20_0
 show Runs _ _ _ _ (T20.setTop (mkF m 16 _ [(.ref t_20)]))
 exact w_done X20 hlk (v := some (.ref t_20)) rfl (fun h => by rw [hret] at h; cases h) (fun fs hr => retOut X20 hx hret rfl (Or.inr (Or.inr (Or.inr (Or.inr ⟨rfl, rfl, rfl⟩)))) (d28_16 hby) hr) (by decide) (by decide) (⟨t_20, kb_20, rfl, N21, K22, sz24, g20_1⟩)
theorem ef_m46_60 (m : MethodId) (a0 : Addr) (a1 : Addr)  : entryFrame m #[(.ref a0), (.ref a1), .null] 5 = mkF m 0 #[.val (.ref a0), .val (.ref a1), .val .null, .unset, .unset] [] := by first | (simp [entryFrame, mkF, argsToLocals, Value.category]; done) | rfl
def Q_m46_60 (Z : State) (a0 : Addr) (a1 : Addr) (jj0 : Addr) (jj1 : Int32) (jj2 : Int32) (jj3 : ClassId) (jj4 : Int32) (jj5 : List Int32) (h0 : Heap) (n0 : Nat) (v : Option Value) (h : Heap) (L : List Loc) : Prop := ∃ (r0 : Addr) (c0 : ClassId), v = none ∧ Fr n0 L ∧ Keep h0 h [a0] ∧ h0.size ≤ r0 ∧ Arv Z h r0 c0 .byte (jj1 - (0 : Int32)) (mI (cprL jj5 (0 : Int32) jj1)) (.int (0 : Int32)) ∧ Exa Z h a0 kc0 ∧ Fld Z h a0 kc0 "coder" "B" (.int (0 : Int32)) ∧ Fld Z h a0 kc0 "value" "[B" (.ref r0)
theorem rm_m46_60 (l : Launch) (Z : State) (aZ : Array Value) (hw : ∀ d ∈ tables_1, d.before aZ Z = true) (ws : List Jvm.Cond) (a0 : Addr) (a1 : Addr) (jj0 : Addr) (jj1 : Int32) (jj2 : Int32) (jj3 : ClassId) (jj4 : Int32) (jj5 : List Int32) (h0 : Heap) (n0 : Nat) (Z0 : n0 ≤ h0.size) (E_a1 : Exa Z h0 a1 kc4) (zz6 : Fld Z h0 a1 kc1 "value" "[B" (.ref jj0)) (zz7 : Fld Z h0 a1 kc1 "count" "I" (.int jj1)) (hP_3 : ¬ (jj2 = (0 : Int32))) (zz8 : Fld Z h0 a1 kc1 "coder" "B" (.int (0 : Int32))) (zz9 : Sta Z Z.heap kc0 "COMPACT_STRINGS" "Z" (.int jj2)) (O0 : Old Z n0 h0) (E_a0 : Exa Z h0 a0 kc0) (zz10 : Fld Z h0 a0 kc0 "coder" "B" (.int (0 : Int32))) (zz11 : n0 ≤ a0) (zz12 : Arv Z h0 jj0 jj3 .byte jj4 (mI jj5) (.int (0 : Int32))) (zz13 : ¬ (jj1 = jj4)) (zz14 : CPR jj4 (0 : Int32) jj1) (zz15 : jj5.length = jj4.toNatClampNeg) (zz16 : Fld Z h0 a0 kc0 "value" "[B" .null) :
    MetN l Z yn_46 jdk_42_method_150_code 5 none ws ({ frames := 3, cells := 1, slots := 12, locals := 49 } : Room) #[(.ref a0), (.ref a1), .null] h0 (Q_m46_60 Z a0 a1 jj0 jj1 jj2 jj3 jj4 jj5 h0 n0) := by
 refine MetN.of (plainFor_of_name pn_3) ?_
 intro p e s m below meth c s₁ hret hx hby hml hown hnm hlk hZ X0 e0
 have N0 := Fr.nil n0
 rw [ef_m46_60 m a0 a1]
 refine w_aloadN X0 hx (d46_0 hby) rfl rfl (pq 1) ?_
 refine w_initO X0 hx 0 hZ hown (wd_31 hw) (wd_32 hw) (wd_33 hw) e0 (by rw [hml]; rfl) (d46_1 hby) (by decide) (Nat.le_of_eq rfl) (by decide) (pq 4) ?_
 intro T20 X20 e20
 refine w_aloadN X20 hx (d46_4 hby) rfl rfl (pq 5) ?_
 obtain ⟨cq21, kq21, q21a, q21b, q21c⟩ := isOf hZ e20 E_a1
 refine w_virtual X20 hx (y := yn_47) (z := yn_47) hown (mvT hZ (wd_210 hw)) (mvT hZ (wd_211 hw)) (notFace_of_selects (args := #[]) (mvT hZ (wd_213 hw))) (mvT hZ (wd_213 hw)) (mvT hZ (wd_212 hw)) (by decide) (backOf (W := 0) (rm_m47_61 l Z aZ hw [] a1 jj0 h0 n0 Z0 zz6) hZ (wd_214 hw) (wd_165 hw) (by decide) (by decide)) q21a q21c (by rw [hml]; rfl) [] (lenOf pd_27 rfl) rfl (Nat.le_of_eq rfl) (d46_5 hby) (fun _ _ => ⟨rfl, e20, (by decide : 0 + 0 ≤ _), (by decide : 0 + 0 ≤ _)⟩) (pq 8) ?_
 rintro _ _ ⟨T21, L21, k21, n21⟩ X21 ⟨Lc21, hQ21, l21, y21, z21⟩
 dsimp only [Pt.U, Pt.locs, Pt.cells, Pt.slots] at X21 l21 y21 z21 hQ21 ⊢
 rw [l21, y21, z21] at X21
 obtain ⟨rfl, N21q, e21⟩ := hQ21
 have N22 := Fr.app N0 N21q
 show Runs _ _ _ _ (T21.setTop (mkF m 8 _ [(.ref jj0)]))
 refine w_astoreN X21 hx (d46_8 hby) rfl (L' := #[.val (.ref a0), .val (.ref a1), .val .null, .val (.ref jj0), .unset]) rfl (pq 9) ?_
 refine w_aloadN X21 hx (d46_9 hby) rfl rfl (pq 10) ?_
 obtain ⟨cq23, kq23, q23a, q23b, q23c⟩ := isOf hZ e21 E_a1
 refine w_virtual X21 hx (y := yn_49) (z := yn_48) hown (mvT hZ (wd_215 hw)) (mvT hZ (wd_216 hw)) (own_nfS (args := #[]) (mvT hZ (wd_188 hw)) rfl) (mvT hZ (wd_218 hw)) (mvT hZ (wd_219 hw)) (by decide) (backOf (W := 0) (rm_m48_62 l Z aZ hw [] a1 jj1 h0 n0 Z0 zz7 E_a1) hZ (wd_220 hw) (wd_157 hw) (by decide) (by decide)) q23a q23c (by rw [hml]; rfl) [] (lenOf pd_8 rfl) rfl (Nat.le_of_eq rfl) (d46_10 hby) (fun _ _ => ⟨rfl, e21, (by decide : 0 + 0 ≤ _), (by decide : 0 + 0 ≤ _)⟩) (pq 13) ?_
 rintro _ _ ⟨T23, L23, k23, n23⟩ X23 ⟨Lc23, hQ23, l23, y23, z23⟩
 dsimp only [Pt.U, Pt.locs, Pt.cells, Pt.slots] at X23 l23 y23 z23 hQ23 ⊢
 rw [l23, y23, z23] at X23
 obtain ⟨rfl, N23q, e23⟩ := hQ23
 have N24 := Fr.app N22 N23q
 show Runs _ _ _ _ (T23.setTop (mkF m 13 _ [(.int jj1)]))
 refine w_istore X23 hx (d46_13 hby) (L' := #[.val (.ref a0), .val (.ref a1), .val .null, .val (.ref jj0), .val (.int jj1)]) rfl (pq 15) ?_
 refine w_aloadN X23 hx (d46_15 hby) rfl rfl (pq 16) ?_
 obtain ⟨cq25, kq25, q25a, q25b, q25c⟩ := isOf hZ e23 E_a1
 refine w_virtual X23 hx (y := yn_42) (z := yn_42) hown (mvT hZ (wd_223 hw)) (mvT hZ (wd_191 hw)) (notFace_of_selects (args := #[]) (mvT hZ (wd_193 hw))) (mvT hZ (wd_193 hw)) (mvT hZ (wd_192 hw)) (by decide) (backOf (W := 0) (rm_m42_64 l Z aZ hw [] a1 jj2 h0 n0 Z0 zz9 O0 hP_3 zz8) hZ (wd_194 hw) (wd_165 hw) (by decide) (by decide)) q25a q25c (by rw [hml]; rfl) [] (lenOf pd_9 rfl) rfl (Nat.le_of_eq rfl) (d46_16 hby) (fun _ _ => ⟨rfl, e23, (by decide : 0 + 0 ≤ _), (by decide : 0 + 0 ≤ _)⟩) (pq 19) ?_
 rintro _ _ ⟨T25, L25, k25, n25⟩ X25 ⟨Lc25, hQ25, l25, y25, z25⟩
 dsimp only [Pt.U, Pt.locs, Pt.cells, Pt.slots] at X25 l25 y25 z25 hQ25 ⊢
 rw [l25, y25, z25] at X25
 obtain ⟨rfl, N25q, e25⟩ := hQ25
 have N26 := Fr.app N24 N25q
 show Runs _ _ _ _ (T25.setTop (mkF m 19 _ [(.int (1 : Int32))]))
 refine w_ifN X25 hx (d46_19 hby) (feq (by decide : ¬ ((1 : Int32) = (0 : Int32)))).1 (pq 22) ?_
 refine w_aloadN X25 hx (d46_22 hby) rfl rfl (pq 23) ?_
 refine w_iconst X25 hx (d46_23 hby) (v := (0 : Int32)) rfl (pq 24) ?_
 refine w_putF X25 hx "" hZ hown (Or.inl (wd_46 hw)) Via.refl e25 zz10 E_a0 (Or.inr ⟨(wd_47 hw), rfl, hnm⟩) (wd_22 hw) (ty := .byte) (by decide) rfl rfl (d46_24 hby) (pq 27) ?_
 intro T27 h27 X27 e27 W27
 have f28 : Fld Z h27 a0 kc0 "coder" "B" (.int (0 : Int32)) := zz10.same W27
 have K29 : Keep h0 h27 [a0] := (Keep.refl h0 [a0]).wr W27 (Or.inl (by simp))
 have N30 := Fr.snoc X27 N26 zz11
 refine w_aloadN X27 hx (d46_27 hby) rfl rfl (pq 28) ?_
 refine w_aloadN X27 hx (d46_28 hby) rfl rfl (pq 29) ?_
 refine w_iconst X27 hx (d46_29 hby) (v := (0 : Int32)) rfl (pq 30) ?_
 refine w_iload X27 hx (d46_30 hby) rfl (pq 32) ?_
 have ne31 : a0 ≠ jj0 := Exa.neArv E_a0 zz12 (wd_22 hw)
 have f32 : Arv Z h27 jj0 jj3 .byte jj4 (mI jj5) (.int (0 : Int32)) := (zz12.other W27 (Ne.symm ne31))
 refine w_static X27 hx (y := yn_28) hown (mvT hZ (wd_224 hw)) (mvT hZ (wd_117 hw)) (mvT hZ (wd_118 hw)) (mvT hZ (wd_119 hw)) (by decide) (backOf (W := 1) (rm_m28_65 l Z aZ hw [] jj0 jj1 jj3 jj4 jj5 h27 n0 (Nat.le_trans Z0 (Keep.of_wr W27).1) f32 zz13 zz14 zz15) hZ (wd_119 hw) (wd_118 hw) (by decide) (by decide)) (by rw [hml]; rfl) [(.ref jj0), (.int (0 : Int32)), (.int jj1)] (lenOf pd_16 rfl) rfl (Nat.le_of_eq rfl) (d46_32 hby) (fun _ _ => ⟨rfl, e27, (by decide : 0 + 1 ≤ _), (by decide : 0 + 12 ≤ _)⟩) (pq 35) ?_
 rintro _ _ ⟨T33, L33, k33, n33⟩ X33 ⟨Lc33, hQ33, l33, y33, z33⟩
 dsimp only [Pt.U, Pt.locs, Pt.cells, Pt.slots] at X33 l33 y33 z33 hQ33 ⊢
 rw [l33, y33, z33] at X33
 obtain ⟨r0_33, c0_33, rfl, N33q, K33, g33_0, g33_1⟩ := hQ33
 have N34 := Fr.app N30 N33q
 have K35 : Keep h0 T33.heap [a0] := K29.trans K33 (all0 (P := fun x => x ∈ [a0] ∨ h0.size ≤ x))
 have ge36 : n0 ≤ r0_33 := Nat.le_trans (Nat.le_trans Z0 (Keep.of_wr W27).1) g33_0
 have sz37 : h0.size ≤ r0_33 := Nat.le_trans (Keep.of_wr W27).1 g33_0
 show Runs _ _ _ _ (T33.setTop (mkF m 35 _ [(.ref r0_33), (.ref a0)]))
 have f38 : Exa Z T33.heap a0 kc0 := ((E_a0.wr W27).keep K33)
 have f39 : Fld Z T33.heap a0 kc0 "value" "[B" .null := ((zz16.other W27 (Or.inr (slot_ne (Or.inr (wd_49 hw)) (Or.inr (wd_47 hw)) (by decide) (t := (.array .byte)) (t' := .byte) (by decide) (by decide)))).keep K33 nin0)
 refine w_putF X33 hx "" hZ hown (Or.inl (wd_48 hw)) Via.refl rfl f39 f38 (Or.inr ⟨(wd_49 hw), rfl, hnm⟩) (wd_22 hw) (ty := (.array .byte)) (by decide) rfl rfl (d46_35 hby) (pq 38) ?_
 intro T40 h40 X40 e40 W40
 have f41 : Fld Z h40 a0 kc0 "value" "[B" (.ref r0_33) := f39.same W40
 have K42 : Keep h0 h40 [a0] := K35.wr W40 (Or.inl (by simp))
 have N43 := Fr.snoc X40 N34 zz11
 refine w_goto X40 hx (d46_38 hby) (pc' := 97) (by decide) (by decide) ?_
 have ne44 : a0 ≠ r0_33 := (Nat.ne_of_lt (Nat.lt_of_lt_of_le zz10.lt (Nat.le_trans (Keep.of_wr W27).1 g33_0)))
 have f45 : Arv Z h40 r0_33 c0_33 .byte (jj1 - (0 : Int32)) (mI (cprL jj5 (0 : Int32) jj1)) (.int (0 : Int32)) := (g33_1.other W40 (Ne.symm ne44))
 have f46 : Exa Z h40 a0 kc0 := (f38.wr W40)
 have f47 : Fld Z h40 a0 kc0 "coder" "B" (.int (0 : Int32)) := ((f28.keep K33 nin0).other W40 (Or.inr (slot_ne (Or.inr (wd_47 hw)) (Or.inr (wd_49 hw)) (by decide) (t := .byte) (t' := (.array .byte)) (by decide) (by decide))))
 exact w_done X40 hlk (v := none) e40 (fun _ => rfl) (fun fs hr => X40.returnOut hx hret (d46_97 hby) hr) (by decide) (by decide) (⟨r0_33, c0_33, rfl, N43, K42, sz37, f45, f46, f47, f41⟩)
theorem ef_m45_59 (m : MethodId) (a0 : Addr) (a1 : Addr)  : entryFrame m #[(.ref a0), (.ref a1)] 2 = mkF m 0 #[.val (.ref a0), .val (.ref a1)] [] := by first | (simp [entryFrame, mkF, argsToLocals, Value.category]; done) | rfl
def Q_m45_59 (Z : State) (a0 : Addr) (a1 : Addr) (jj0 : Addr) (jj1 : Int32) (jj2 : ClassId) (jj3 : Int32) (jj4 : List Int32) (jj5 : Int32) (h0 : Heap) (n0 : Nat) (v : Option Value) (h : Heap) (L : List Loc) : Prop := ∃ (r0 : Addr) (c0 : ClassId), v = none ∧ Fr n0 L ∧ Keep h0 h [a0] ∧ h0.size ≤ r0 ∧ Arv Z h r0 c0 .byte (jj1 - (0 : Int32)) (mI (cprL jj4 (0 : Int32) jj1)) (.int (0 : Int32)) ∧ Exa Z h a0 kc0 ∧ Fld Z h a0 kc0 "coder" "B" (.int (0 : Int32)) ∧ Fld Z h a0 kc0 "value" "[B" (.ref r0)
theorem rm_m45_59 (l : Launch) (Z : State) (aZ : Array Value) (hw : ∀ d ∈ tables_1, d.before aZ Z = true) (ws : List Jvm.Cond) (a0 : Addr) (a1 : Addr) (jj0 : Addr) (jj1 : Int32) (jj2 : ClassId) (jj3 : Int32) (jj4 : List Int32) (jj5 : Int32) (h0 : Heap) (n0 : Nat) (Z0 : n0 ≤ h0.size) (E_a1 : Exa Z h0 a1 kc4) (zz6 : Fld Z h0 a1 kc1 "value" "[B" (.ref jj0)) (zz7 : Fld Z h0 a1 kc1 "count" "I" (.int jj1)) (zz8 : Fld Z h0 a1 kc1 "coder" "B" (.int (0 : Int32))) (E_a0 : Exa Z h0 a0 kc0) (zz9 : Fld Z h0 a0 kc0 "coder" "B" (.int (0 : Int32))) (zz10 : Arv Z h0 jj0 jj2 .byte jj3 (mI jj4) (.int (0 : Int32))) (hP_7 : ¬ (jj1 = jj3)) (zz11 : Fld Z h0 a0 kc0 "value" "[B" .null) (zz12 : Sta Z Z.heap kc0 "COMPACT_STRINGS" "Z" (.int jj5)) (O0 : Old Z n0 h0) (zz13 : ¬ (jj5 = (0 : Int32))) (zz14 : n0 ≤ a0) (zz15 : CPR jj3 (0 : Int32) jj1) (zz16 : jj4.length = jj3.toNatClampNeg) :
    MetN l Z yn_45 jdk_42_method_53_code 2 none ws ({ frames := 4, cells := 1, slots := 12, locals := 65 } : Room) #[(.ref a0), (.ref a1)] h0 (Q_m45_59 Z a0 a1 jj0 jj1 jj2 jj3 jj4 jj5 h0 n0) := by
 refine MetN.of (plainFor_of_name pn_3) ?_
 intro p e s m below meth c s₁ hret hx hby hml hown hnm hlk hZ X0 e0
 have N0 := Fr.nil n0
 rw [ef_m45_59 m a0 a1]
 refine w_aloadN X0 hx (d45_0 hby) rfl rfl (pq 1) ?_
 refine w_aloadN X0 hx (d45_1 hby) rfl rfl (pq 2) ?_
 refine w_null X0 hx (d45_2 hby) (pq 3) ?_
 refine w_special X0 hx (y := yn_46) rfl hown (mvT hZ (wd_207 hw)) (mvT hZ (wd_208 hw)) (mvT hZ (wd_209 hw)) (by decide) (backOf (W := 0) (rm_m46_60 l Z aZ hw [] a0 a1 jj0 jj1 jj5 jj2 jj3 jj4 h0 n0 Z0 E_a1 zz6 zz7 zz13 zz8 zz12 O0 E_a0 zz9 zz14 zz10 hP_7 zz15 zz16 zz11) hZ (wd_209 hw) (wd_23 hw) (by decide) (by decide)) (by rw [hml]; rfl) [(.ref a1), .null] (lenOf pd_28 rfl) rfl (Nat.le_of_eq rfl) (d45_3 hby) (fun _ _ => ⟨rfl, e0, (by decide : 0 + 1 ≤ _), (by decide : 0 + 12 ≤ _)⟩) (pq 6) ?_
 rintro _ _ ⟨T20, L20, k20, n20⟩ X20 ⟨Lc20, hQ20, l20, y20, z20⟩
 dsimp only [Pt.U, Pt.locs, Pt.cells, Pt.slots] at X20 l20 y20 z20 hQ20 ⊢
 rw [l20, y20, z20] at X20
 obtain ⟨r0_20, c0_20, rfl, N20q, K20, g20_0, g20_1, g20_2, g20_3, g20_4⟩ := hQ20
 have N21 := Fr.app N0 N20q
 have K22 : Keep h0 T20.heap [a0] := (Keep.refl h0 [a0]).trans K20 (allS (Or.inl (by simp)) (all0 (P := fun x => x ∈ [a0] ∨ h0.size ≤ x)))
 have ge23 : n0 ≤ r0_20 := Nat.le_trans Z0 g20_0
 have sz24 : h0.size ≤ r0_20 := Nat.le_trans (Nat.le_refl _) g20_0
 show Runs _ _ _ _ (T20.setTop (mkF m 6 _ []))
 exact w_done X20 hlk (v := none) rfl (fun _ => rfl) (fun fs hr => X20.returnOut hx hret (d45_6 hby) hr) (by decide) (by decide) (⟨r0_20, c0_20, rfl, N21, K22, sz24, g20_1, g20_2, g20_3, g20_4⟩)
theorem ef_m44_58 (m : MethodId) (a0 : Addr)  : entryFrame m #[(.ref a0)] 1 = mkF m 0 #[.val (.ref a0)] [] := by first | (simp [entryFrame, mkF, argsToLocals, Value.category]; done) | rfl
def Q_m44_58 (Z : State) (a0 : Addr) (jj0 : Addr) (jj1 : Int32) (jj2 : ClassId) (jj3 : Int32) (jj4 : List Int32) (jj5 : Int32) (h0 : Heap) (n0 : Nat) (v : Option Value) (h : Heap) (L : List Loc) : Prop := ∃ (r0 : Addr) (r1 : Addr) (c0 : ClassId), v = some (.ref r0) ∧ Fr n0 L ∧ Keep h0 h [] ∧ h0.size ≤ r0 ∧ h0.size ≤ r1 ∧ Exa Z h r0 kc0 ∧ Fld Z h r0 kc0 "coder" "B" (.int (0 : Int32)) ∧ Fld Z h r0 kc0 "value" "[B" (.ref r1) ∧ Arv Z h r1 c0 .byte (jj1 - (0 : Int32)) (mI (cprL jj4 (0 : Int32) jj1)) (.int (0 : Int32))
theorem rm_m44_58 (l : Launch) (Z : State) (aZ : Array Value) (hw : ∀ d ∈ tables_1, d.before aZ Z = true) (ws : List Jvm.Cond) (a0 : Addr) (jj0 : Addr) (jj1 : Int32) (jj2 : ClassId) (jj3 : Int32) (jj4 : List Int32) (jj5 : Int32) (h0 : Heap) (n0 : Nat) (Z0 : n0 ≤ h0.size) (E_a0 : Exa Z h0 a0 kc4) (zz6 : Fld Z h0 a0 kc1 "value" "[B" (.ref jj0)) (zz7 : Fld Z h0 a0 kc1 "count" "I" (.int jj1)) (zz8 : Fld Z h0 a0 kc1 "coder" "B" (.int (0 : Int32))) (zz9 : Arv Z h0 jj0 jj2 .byte jj3 (mI jj4) (.int (0 : Int32))) (hP_5 : ¬ (jj1 = jj3)) (zz10 : Sta Z Z.heap kc0 "COMPACT_STRINGS" "Z" (.int jj5)) (O0 : Old Z n0 h0) (hP_8 : ¬ (jj5 = (0 : Int32))) (hX_9 : CPR jj3 (0 : Int32) jj1) (zz11 : jj4.length = jj3.toNatClampNeg) :
    MetN l Z yn_44 jdk_67_method_42_code 1 (some (.object kc0)) ws ({ frames := 5, cells := 2, slots := 16, locals := 79 } : Room) #[(.ref a0)] h0 (Q_m44_58 Z a0 jj0 jj1 jj2 jj3 jj4 jj5 h0 n0) := by
 refine MetN.of (plainFor_of_name pn_10) ?_
 intro p e s m below meth c s₁ hret hx hby hml hown hnm hlk hZ X0 e0
 have N0 := Fr.nil n0
 rw [ef_m44_58 m a0]
 refine w_new X0 hx hZ hown (wd_203 hw) (wd_22 hw) (wd_23 hw) e0 (d44_0 hby) (by decide) (by decide) (pq 3) ?_
 intro T20 h20 b20 X20 e20 E20 g20 A20 D20
 have ge21 : n0 ≤ b20 := Nat.le_trans Z0 (Nat.le_of_eq g20.symm)
 have sz22 : h0.size ≤ b20 := Nat.le_trans (Nat.le_refl _) (Nat.le_of_eq g20.symm)
 have K23 : Keep h0 h20 [] := (Keep.refl h0 []).ext E20
 have f24 : Fld Z h20 b20 kc0 "coder" "B" (.int (0 : Int32)) := D20 (Or.inr (wd_47 hw)) (ty := .byte) (by decide)
 have f25 : Fld Z h20 b20 kc0 "value" "[B" .null := D20 (Or.inr (wd_49 hw)) (ty := (.array .byte)) (by decide)
 refine w_dup X20 hx (d44_3 hby) rfl (pq 4) ?_
 refine w_aloadN X20 hx (d44_4 hby) rfl rfl (pq 5) ?_
 have f26 : Exa Z h20 a0 kc4 := (E_a0.ext E20)
 have f27 : Fld Z h20 a0 kc1 "value" "[B" (.ref jj0) := (zz6.ext E20)
 have f28 : Fld Z h20 a0 kc1 "count" "I" (.int jj1) := (zz7.ext E20)
 have f29 : Fld Z h20 a0 kc1 "coder" "B" (.int (0 : Int32)) := (zz8.ext E20)
 have f30 : Arv Z h20 jj0 jj2 .byte jj3 (mI jj4) (.int (0 : Int32)) := (zz9.ext E20)
 have f31 : Old Z n0 h20 := (O0.ext E20)
 refine w_special X20 hx (y := yn_45) rfl hown (mvT hZ (wd_204 hw)) (mvT hZ (wd_205 hw)) (mvT hZ (wd_206 hw)) (by decide) (backOf (W := 1) (rm_m45_59 l Z aZ hw [] b20 a0 jj0 jj1 jj2 jj3 jj4 jj5 h20 n0 (Nat.le_trans Z0 E20.1) f26 f27 f28 f29 A20 f24 f30 hP_5 f25 zz10 f31 hP_8 ge21 hX_9 zz11) hZ (wd_206 hw) (wd_23 hw) (by decide) (by decide)) (by rw [hml]; rfl) [(.ref a0)] (lenOf pd_29 rfl) rfl (Nat.le_of_eq rfl) (d44_5 hby) (fun _ _ => ⟨rfl, e20, (by decide : 1 + 1 ≤ _), (by decide : 4 + 12 ≤ _)⟩) (pq 8) ?_
 rintro _ _ ⟨T32, L32, k32, n32⟩ X32 ⟨Lc32, hQ32, l32, y32, z32⟩
 dsimp only [Pt.U, Pt.locs, Pt.cells, Pt.slots] at X32 l32 y32 z32 hQ32 ⊢
 rw [l32, y32, z32] at X32
 obtain ⟨r0_32, c0_32, rfl, N32q, K32, g32_0, g32_1, g32_2, g32_3, g32_4⟩ := hQ32
 have N33 := Fr.app N0 N32q
 have K34 : Keep h0 T32.heap [] := K23.trans K32 (allS (Or.inr sz22) (all0 (P := fun x => x ∈ [] ∨ h0.size ≤ x)))
 have ge35 : n0 ≤ r0_32 := Nat.le_trans (Nat.le_trans Z0 E20.1) g32_0
 have sz36 : h0.size ≤ r0_32 := Nat.le_trans E20.1 g32_0
 show Runs _ _ _ _ (T32.setTop (mkF m 8 _ [(.ref b20)]))
 exact w_done X32 hlk (v := some (.ref b20)) rfl (fun h => by rw [hret] at h; cases h) (fun fs hr => retOut X32 hx hret rfl (Or.inr (Or.inr (Or.inr (Or.inr ⟨rfl, rfl, rfl⟩)))) (d44_8 hby) hr) (by decide) (by decide) (⟨b20, r0_32, c0_32, rfl, N33, K34, sz22, sz36, g32_2, g32_3, g32_4, g32_1⟩)
theorem ef_m41_69 (m : MethodId) (a0 : Addr) (p1 : Int32)  : entryFrame m #[(.ref a0), (.int p1)] 3 = mkF m 0 #[.val (.ref a0), .val (.int p1), .unset] [] := by first | (simp [entryFrame, mkF, argsToLocals, Value.category]; done) | rfl
def Q_m41_69 (Z : State) (a0 : Addr) (p1 : Int32) (jj0 : Addr) (jj1 : ClassId) (jj2 : Int32) (jj3 : List Int32) (h0 : Heap) (n0 : Nat) (v : Option Value) (h : Heap) (L : List Loc) : Prop := v = none ∧ Fr n0 L ∧ h = h0
theorem rm_m41_69 (l : Launch) (Z : State) (aZ : Array Value) (hw : ∀ d ∈ tables_1, d.before aZ Z = true) (ws : List Jvm.Cond) (a0 : Addr) (p1 : Int32) (jj0 : Addr) (jj1 : ClassId) (jj2 : Int32) (jj3 : List Int32) (h0 : Heap) (n0 : Nat) (Z0 : n0 ≤ h0.size) (zz4 : Fld Z h0 a0 kc1 "value" "[B" (.ref jj0)) (zz5 : Arv Z h0 jj0 jj1 .byte jj2 (mI jj3) (.int (0 : Int32))) (zz6 : Fld Z h0 a0 kc1 "coder" "B" (.int (0 : Int32))) (hP_3 : ¬ ((0 : Int32) < (p1 - (jj2 >>> ((0 : Int32) &&& 31))))) :
    MetN l Z yn_41 jdk_68_method_9_code 3 none ws ({ frames := 0, cells := 0, slots := 0, locals := 0 } : Room) #[(.ref a0), (.int p1)] h0 (Q_m41_69 Z a0 p1 jj0 jj1 jj2 jj3 h0 n0) := by
 refine MetN.of (plainFor_of_name pn_9) ?_
 intro p e s m below meth c s₁ hret hx hby hml hown hnm hlk hZ X0 e0
 have N0 := Fr.nil n0
 rw [ef_m41_69 m a0 p1]
 refine w_aloadN X0 hx (d41_0 hby) rfl rfl (pq 1) ?_
 refine w_getF X0 hx "" hZ hown (Or.inl (wd_169 hw)) Via.refl e0 zz4 (d41_1 hby) (pq 4) ?_
 intro T20 X20 e20
 refine w_alen X20 hx hZ e20 zz5 (d41_4 hby) (pq 5) ?_
 refine w_aloadN X20 hx (d41_5 hby) rfl rfl (pq 6) ?_
 refine w_getF X20 hx "" hZ hown (Or.inl (wd_171 hw)) Via.refl e20 zz6 (d41_6 hby) (pq 9) ?_
 intro T21 X21 e21
 refine w_ishr X21 hx (d41_9 hby) (pq 10) ?_
 refine w_istoreN X21 hx (d41_10 hby) (L' := #[.val (.ref a0), .val (.int p1), .val (.int (jj2 >>> ((0 : Int32) &&& 31)))]) rfl (pq 11) ?_
 refine w_iloadN X21 hx (d41_11 hby) rfl (pq 12) ?_
 refine w_iloadN X21 hx (d41_12 hby) rfl (pq 13) ?_
 refine w_isub X21 hx (d41_13 hby) (pq 14) ?_
 refine w_ifY X21 hx (d41_14 hby) (flt hP_3).2.2.2 (pc' := 38) (by decide) (by decide) ?_
 exact w_done X21 hlk (v := none) e21 (fun _ => rfl) (fun fs hr => X21.returnOut hx hret (d41_38 hby) hr) (by decide) (by decide) (⟨rfl, N0, rfl⟩)
theorem ef_m43_70 (m : MethodId) (p0 : Int32)  : entryFrame m #[(.int p0)] 1 = mkF m 0 #[.val (.int p0)] [] := by first | (simp [entryFrame, mkF, argsToLocals, Value.category]; done) | rfl
def Q_m43_70 (Z : State) (p0 : Int32) (h0 : Heap) (n0 : Nat) (v : Option Value) (h : Heap) (L : List Loc) : Prop := v = some (.int (1 : Int32)) ∧ Fr n0 L ∧ h = h0
theorem rm_m43_70 (l : Launch) (Z : State) (aZ : Array Value) (hw : ∀ d ∈ tables_1, d.before aZ Z = true) (ws : List Jvm.Cond) (p0 : Int32) (h0 : Heap) (n0 : Nat) (Z0 : n0 ≤ h0.size) (hP_0 : ¬ ((255 : Int32) < p0)) :
    MetN l Z yn_43 jdk_43_method_3_code 1 (some .boolean) ws ({ frames := 0, cells := 0, slots := 0, locals := 0 } : Room) #[(.int p0)] h0 (Q_m43_70 Z p0 h0 n0) := by
 refine MetN.of (plainFor_of_name pn_5) ?_
 intro p e s m below meth c s₁ hret hx hby hml hown hnm hlk hZ X0 e0
 have N0 := Fr.nil n0
 rw [ef_m43_70 m p0]
 refine w_iloadN X0 hx (d43_0 hby) rfl (pq 1) ?_
 refine w_sipush X0 hx (d43_1 hby) (v := (255 : Int32)) rfl (pq 4) ?_
 refine w_icN X0 hx (d43_4 hby) (flt hP_0).2.2.1 (pq 7) ?_
 refine w_iconst X0 hx (d43_7 hby) (v := (1 : Int32)) rfl (pq 8) ?_
 refine w_goto X0 hx (d43_8 hby) (pc' := 12) (by decide) (by decide) ?_
 exact w_done X0 hlk (v := some (.int (1 : Int32))) e0 (fun h => by rw [hret] at h; cases h) (fun fs hr => retN X0 hx (t := .boolean) hret (by simp) (d43_12 hby) hr) (by decide) (by decide) (⟨rfl, N0, rfl⟩)
theorem ef_m40_68 (m : MethodId) (a0 : Addr) (p1 : Int32)  : entryFrame m #[(.ref a0), (.int p1)] 2 = mkF m 0 #[.val (.ref a0), .val (.int p1)] [] := by first | (simp [entryFrame, mkF, argsToLocals, Value.category]; done) | rfl
def Q_m40_68 (Z : State) (a0 : Addr) (p1 : Int32) (jj0 : Int32) (jj1 : Addr) (jj2 : ClassId) (jj3 : Int32) (jj4 : List Int32) (jj5 : Int32) (h0 : Heap) (n0 : Nat) (v : Option Value) (h : Heap) (L : List Loc) : Prop := v = some (.ref a0) ∧ Fr n0 L ∧ Keep h0 h [a0, jj1] ∧ Fld Z h a0 kc1 "count" "I" (.int (jj0 + (1 : Int32))) ∧ Exa Z h a0 kc4 ∧ Fld Z h a0 kc1 "value" "[B" (.ref jj1) ∧ Fld Z h a0 kc1 "coder" "B" (.int (0 : Int32)) ∧ Arv Z h jj1 jj2 .byte jj3 (mI (setI jj4 jj0 (p1.toInt8.toInt32))) (.int (0 : Int32))
theorem rm_m40_68 (l : Launch) (Z : State) (aZ : Array Value) (hw : ∀ d ∈ tables_1, d.before aZ Z = true) (ws : List Jvm.Cond) (a0 : Addr) (p1 : Int32) (jj0 : Int32) (jj1 : Addr) (jj2 : ClassId) (jj3 : Int32) (jj4 : List Int32) (jj5 : Int32) (h0 : Heap) (n0 : Nat) (Z0 : n0 ≤ h0.size) (zz6 : Fld Z h0 a0 kc1 "count" "I" (.int jj0)) (E_a0 : Exa Z h0 a0 kc4) (zz7 : Fld Z h0 a0 kc1 "value" "[B" (.ref jj1)) (zz8 : Arv Z h0 jj1 jj2 .byte jj3 (mI jj4) (.int (0 : Int32))) (zz9 : Fld Z h0 a0 kc1 "coder" "B" (.int (0 : Int32))) (hP_5 : ¬ ((0 : Int32) < ((jj0 + (1 : Int32)) - (jj3 >>> ((0 : Int32) &&& 31))))) (zz10 : Sta Z Z.heap kc0 "COMPACT_STRINGS" "Z" (.int jj5)) (O0 : Old Z n0 h0) (hP_8 : ¬ (jj5 = (0 : Int32))) (hP_9 : ¬ ((255 : Int32) < p1)) (zz11 : n0 ≤ a0) (zz12 : ¬ (jj0 < (0 : Int32))) (zz13 : jj0 < jj3) (zz14 : jj4.length = jj3.toNatClampNeg) (zz15 : n0 ≤ jj1) :
    MetN l Z yn_40 jdk_68_method_31_code 2 (some (.object kc1)) ws ({ frames := 1, cells := 0, slots := 0, locals := 14 } : Room) #[(.ref a0), (.int p1)] h0 (Q_m40_68 Z a0 p1 jj0 jj1 jj2 jj3 jj4 jj5 h0 n0) := by
 refine MetN.of (plainFor_of_name pn_9) ?_
 intro p e s m below meth c s₁ hret hx hby hml hown hnm hlk hZ X0 e0
 have N0 := Fr.nil n0
 rw [ef_m40_68 m a0 p1]
 refine w_aloadN X0 hx (d40_0 hby) rfl rfl (pq 1) ?_
 refine w_aloadN X0 hx (d40_1 hby) rfl rfl (pq 2) ?_
 refine w_getF X0 hx "" hZ hown (Or.inl (wd_183 hw)) Via.refl e0 zz6 (d40_2 hby) (pq 5) ?_
 intro T20 X20 e20
 refine w_iconst X20 hx (d40_5 hby) (v := (1 : Int32)) rfl (pq 6) ?_
 refine w_iadd X20 hx (d40_6 hby) (pq 7) ?_
 obtain ⟨ce21, he21, hs21⟩ := Exa.cell E_a0
 refine w_private X20 hx (y := yn_41) hown (mvT hZ (wd_185 hw)) (mvT hZ (wd_186 hw)) (own_prS (args := #[]) (mvT hZ (wd_188 hw)) rfl (Cond.privateMethod_at (args := #[]) (mvP hZ (wd_187 hw))) (mvT hZ (wd_186 hw)) (by decide)) (Cond.privateMethod_at (args := #[]) (mvP hZ (wd_187 hw))) (mvT hZ (wd_189 hw)) (by decide) (backOf (W := 0) (rm_m41_69 l Z aZ hw [] a0 (jj0 + (1 : Int32)) jj1 jj2 jj3 jj4 h0 n0 Z0 zz7 zz8 zz9 hP_5) hZ (wd_189 hw) (wd_165 hw) (by decide) (by decide)) ((congrArg (fun z : Heap => z[a0]?) e20).trans he21) hs21 (by rw [hml]; rfl) [(.int (jj0 + (1 : Int32)))] (lenOf pd_26 rfl) rfl (Nat.le_of_eq rfl) (d40_7 hby) (fun _ _ => ⟨rfl, e20, (by decide : 0 + 0 ≤ _), (by decide : 0 + 0 ≤ _)⟩) (pq 10) ?_
 rintro _ _ ⟨T21, L21, k21, n21⟩ X21 ⟨Lc21, hQ21, l21, y21, z21⟩
 dsimp only [Pt.U, Pt.locs, Pt.cells, Pt.slots] at X21 l21 y21 z21 hQ21 ⊢
 rw [l21, y21, z21] at X21
 obtain ⟨rfl, N21q, e21⟩ := hQ21
 have N22 := Fr.app N0 N21q
 show Runs _ _ _ _ (T21.setTop (mkF m 10 _ []))
 refine w_aloadN X21 hx (d40_10 hby) rfl rfl (pq 11) ?_
 obtain ⟨cq23, kq23, q23a, q23b, q23c⟩ := isOf hZ e21 E_a0
 refine w_virtual X21 hx (y := yn_42) (z := yn_42) hown (mvT hZ (wd_190 hw)) (mvT hZ (wd_191 hw)) (notFace_of_selects (args := #[]) (mvT hZ (wd_193 hw))) (mvT hZ (wd_193 hw)) (mvT hZ (wd_192 hw)) (by decide) (backOf (W := 0) (rm_m42_64 l Z aZ hw [] a0 jj5 h0 n0 Z0 zz10 O0 hP_8 zz9) hZ (wd_194 hw) (wd_165 hw) (by decide) (by decide)) q23a q23c (by rw [hml]; rfl) [] (lenOf pd_9 rfl) rfl (Nat.le_of_eq rfl) (d40_11 hby) (fun _ _ => ⟨rfl, e21, (by decide : 0 + 0 ≤ _), (by decide : 0 + 0 ≤ _)⟩) (pq 14) ?_
 rintro _ _ ⟨T23, L23, k23, n23⟩ X23 ⟨Lc23, hQ23, l23, y23, z23⟩
 dsimp only [Pt.U, Pt.locs, Pt.cells, Pt.slots] at X23 l23 y23 z23 hQ23 ⊢
 rw [l23, y23, z23] at X23
 obtain ⟨rfl, N23q, e23⟩ := hQ23
 have N24 := Fr.app N22 N23q
 show Runs _ _ _ _ (T23.setTop (mkF m 14 _ [(.int (1 : Int32))]))
 refine w_ifN X23 hx (d40_14 hby) (feq (by decide : ¬ ((1 : Int32) = (0 : Int32)))).1 (pq 17) ?_
 refine w_iloadN X23 hx (d40_17 hby) rfl (pq 18) ?_
 refine w_static X23 hx (y := yn_43) hown (mvT hZ (wd_195 hw)) (mvT hZ (wd_196 hw)) (mvT hZ (wd_87 hw)) (mvT hZ (wd_197 hw)) (by decide) (backOf (W := 0) (rm_m43_70 l Z aZ hw [] p1 h0 n0 Z0 hP_9) hZ (wd_197 hw) (wd_87 hw) (by decide) (by decide)) (by rw [hml]; rfl) [(.int p1)] (lenOf pd_0 rfl) rfl (Nat.le_of_eq rfl) (d40_18 hby) (fun _ _ => ⟨rfl, e23, (by decide : 0 + 0 ≤ _), (by decide : 0 + 0 ≤ _)⟩) (pq 21) ?_
 rintro _ _ ⟨T25, L25, k25, n25⟩ X25 ⟨Lc25, hQ25, l25, y25, z25⟩
 dsimp only [Pt.U, Pt.locs, Pt.cells, Pt.slots] at X25 l25 y25 z25 hQ25 ⊢
 rw [l25, y25, z25] at X25
 obtain ⟨rfl, N25q, e25⟩ := hQ25
 have N26 := Fr.app N24 N25q
 show Runs _ _ _ _ (T25.setTop (mkF m 21 _ [(.int (1 : Int32))]))
 refine w_ifN X25 hx (d40_21 hby) (feq (by decide : ¬ ((1 : Int32) = (0 : Int32)))).1 (pq 24) ?_
 refine w_aloadN X25 hx (d40_24 hby) rfl rfl (pq 25) ?_
 refine w_getF X25 hx "" hZ hown (Or.inl (wd_169 hw)) Via.refl e25 zz7 (d40_25 hby) (pq 28) ?_
 intro T27 X27 e27
 refine w_aloadN X27 hx (d40_28 hby) rfl rfl (pq 29) ?_
 refine w_dup X27 hx (d40_29 hby) rfl (pq 30) ?_
 refine w_getF X27 hx "" hZ hown (Or.inl (wd_183 hw)) Via.refl e27 zz6 (d40_30 hby) (pq 33) ?_
 intro T28 X28 e28
 refine w_dupX1 X28 hx (d40_33 hby) rfl rfl (pq 34) ?_
 refine w_iconst X28 hx (d40_34 hby) (v := (1 : Int32)) rfl (pq 35) ?_
 refine w_iadd X28 hx (d40_35 hby) (pq 36) ?_
 refine w_putF X28 hx "" hZ hown (Or.inl (wd_183 hw)) Via.refl e28 zz6 E_a0 (Or.inl (wd_184 hw)) (wd_156 hw) (ty := .int) (by decide) rfl rfl (d40_36 hby) (pq 39) ?_
 intro T29 h29 X29 e29 W29
 have f30 : Fld Z h29 a0 kc1 "count" "I" (.int (jj0 + (1 : Int32))) := zz6.same W29
 have K31 : Keep h0 h29 [a0, jj1] := (Keep.refl h0 [a0, jj1]).wr W29 (Or.inl (by simp))
 have N32 := Fr.snoc X29 N26 zz11
 refine w_iloadN X29 hx (d40_39 hby) rfl (pq 40) ?_
 refine w_i2b X29 hx (d40_40 hby) (pq 41) ?_
 have ne33 : a0 ≠ jj1 := Exa.neArv E_a0 zz8 (wd_156 hw)
 have f34 : Arv Z h29 jj1 jj2 .byte jj3 (mI jj4) (.int (0 : Int32)) := (zz8.other W29 (Ne.symm ne33))
 obtain ⟨clu35, Aru35, qu35, Su35, Nu35, Hu35, Gu35⟩ := id f34
 have hinu35 := inb_of (j := jj0) Su35 ⟨zz12, zz13⟩
 refine w_stB X29 hx hZ e29 Aru35 hinu35 (d40_41 hby) (pq 42) ?_
 intro T36 h36 X36 e36 W36
 rw [nar_b] at W36
 have V37 : Arv Z h36 jj1 jj2 .byte jj3 (mI (setI jj4 jj0 (p1.toInt8.toInt32))) (.int (0 : Int32)) := own_sto Aru35 qu35 Su35 Nu35 Hu35 Gu35 (own_fitb (nar_b _)) W36 zz14 hinu35
 have K38 : Keep h0 h36 [a0, jj1] := K31.wr W36 (Or.inl (by simp))
 have N39 := Fr.snoc X36 N32 zz15
 refine w_goto X36 hx (d40_42 hby) (pc' := 75) (by decide) (by decide) ?_
 refine w_aloadN X36 hx (d40_75 hby) rfl rfl (pq 76) ?_
 have f40 : Fld Z h36 a0 kc1 "count" "I" (.int (jj0 + (1 : Int32))) := (f30.other W36 (Or.inl ne33))
 have f41 : Exa Z h36 a0 kc4 := ((E_a0.wr W29).wr W36)
 have f42 : Fld Z h36 a0 kc1 "value" "[B" (.ref jj1) := ((zz7.other W29 (Or.inr (slot_ne (Or.inl (wd_170 hw)) (Or.inl (wd_184 hw)) (by decide) (t := (.array .byte)) (t' := .int) (by decide) (by decide)))).other W36 (Or.inl ne33))
 have f43 : Fld Z h36 a0 kc1 "coder" "B" (.int (0 : Int32)) := ((zz9.other W29 (Or.inr (slot_ne (Or.inl (wd_172 hw)) (Or.inl (wd_184 hw)) (by decide) (t := .byte) (t' := .int) (by decide) (by decide)))).other W36 (Or.inl ne33))
 exact w_done X36 hlk (v := some (.ref a0)) e36 (fun h => by rw [hret] at h; cases h) (fun fs hr => retOut X36 hx hret rfl (Or.inr (Or.inr (Or.inr (Or.inr ⟨rfl, rfl, rfl⟩)))) (d40_76 hby) hr) (by decide) (by decide) (⟨rfl, N39, K38, f40, f41, f42, f43, V37⟩)
theorem ef_m39_67 (m : MethodId) (a0 : Addr) (p1 : Int32)  : entryFrame m #[(.ref a0), (.int p1)] 2 = mkF m 0 #[.val (.ref a0), .val (.int p1)] [] := by first | (simp [entryFrame, mkF, argsToLocals, Value.category]; done) | rfl
def Q_m39_67 (Z : State) (a0 : Addr) (p1 : Int32) (jj0 : Int32) (jj1 : Addr) (jj2 : ClassId) (jj3 : Int32) (jj4 : List Int32) (jj5 : Int32) (h0 : Heap) (n0 : Nat) (v : Option Value) (h : Heap) (L : List Loc) : Prop := v = some (.ref a0) ∧ Fr n0 L ∧ Keep h0 h [a0, jj1] ∧ Fld Z h a0 kc1 "count" "I" (.int (jj0 + (1 : Int32))) ∧ Exa Z h a0 kc4 ∧ Fld Z h a0 kc1 "value" "[B" (.ref jj1) ∧ Fld Z h a0 kc1 "coder" "B" (.int (0 : Int32)) ∧ Arv Z h jj1 jj2 .byte jj3 (mI (setI jj4 jj0 (p1.toInt8.toInt32))) (.int (0 : Int32))
theorem rm_m39_67 (l : Launch) (Z : State) (aZ : Array Value) (hw : ∀ d ∈ tables_1, d.before aZ Z = true) (ws : List Jvm.Cond) (a0 : Addr) (p1 : Int32) (jj0 : Int32) (jj1 : Addr) (jj2 : ClassId) (jj3 : Int32) (jj4 : List Int32) (jj5 : Int32) (h0 : Heap) (n0 : Nat) (Z0 : n0 ≤ h0.size) (zz6 : Fld Z h0 a0 kc1 "count" "I" (.int jj0)) (E_a0 : Exa Z h0 a0 kc4) (zz7 : Fld Z h0 a0 kc1 "value" "[B" (.ref jj1)) (zz8 : Arv Z h0 jj1 jj2 .byte jj3 (mI jj4) (.int (0 : Int32))) (zz9 : Fld Z h0 a0 kc1 "coder" "B" (.int (0 : Int32))) (hP_5 : ¬ ((0 : Int32) < ((jj0 + (1 : Int32)) - (jj3 >>> ((0 : Int32) &&& 31))))) (hP_6 : ¬ ((255 : Int32) < p1)) (hP_7 : ¬ (jj0 < (0 : Int32))) (hP_8 : jj0 < jj3) (zz10 : Sta Z Z.heap kc0 "COMPACT_STRINGS" "Z" (.int jj5)) (O0 : Old Z n0 h0) (zz11 : ¬ (jj5 = (0 : Int32))) (zz12 : n0 ≤ a0) (zz13 : jj4.length = jj3.toNatClampNeg) (zz14 : n0 ≤ jj1) :
    MetN l Z yn_39 jdk_67_method_14_code 2 (some (.object kc4)) ws ({ frames := 2, cells := 0, slots := 0, locals := 27 } : Room) #[(.ref a0), (.int p1)] h0 (Q_m39_67 Z a0 p1 jj0 jj1 jj2 jj3 jj4 jj5 h0 n0) := by
 refine MetN.of (plainFor_of_name pn_10) ?_
 intro p e s m below meth c s₁ hret hx hby hml hown hnm hlk hZ X0 e0
 have N0 := Fr.nil n0
 rw [ef_m39_67 m a0 p1]
 refine w_aloadN X0 hx (d39_0 hby) rfl rfl (pq 1) ?_
 refine w_iloadN X0 hx (d39_1 hby) rfl (pq 2) ?_
 refine w_super X0 hx (y := yn_40) hZ hown (wd_178 hw) (own_sameS (args := aZ) (wd_188 hw) rfl (wd_179 hw) (by decide)) (wd_179 hw) (wd_180 hw) (by decide) (wd_182 hw) (backOf (W := 0) (rm_m40_68 l Z aZ hw [] a0 p1 jj0 jj1 jj2 jj3 jj4 jj5 h0 n0 Z0 zz6 E_a0 zz7 zz8 zz9 hP_5 zz10 O0 zz11 hP_6 zz12 hP_7 hP_8 zz13 zz14) hZ (wd_182 hw) (wd_165 hw) (by decide) (by decide)) e0 (Ins.of_exa E_a0 (wd_164 hw)) (by rw [hml]; rfl) [(.int p1)] (lenOf pd_31 rfl) rfl (Nat.le_of_eq rfl) (d39_2 hby) (fun _ _ => ⟨rfl, e0, (by decide : 0 + 0 ≤ _), (by decide : 0 + 0 ≤ _)⟩) (pq 5) ?_
 rintro _ _ ⟨T20, L20, k20, n20⟩ X20 ⟨Lc20, hQ20, l20, y20, z20⟩
 dsimp only [Pt.U, Pt.locs, Pt.cells, Pt.slots] at X20 l20 y20 z20 hQ20 ⊢
 rw [l20, y20, z20] at X20
 obtain ⟨rfl, N20q, K20, g20_0, g20_1, g20_2, g20_3, g20_4⟩ := hQ20
 have N21 := Fr.app N0 N20q
 have K22 : Keep h0 T20.heap [a0, jj1] := (Keep.refl h0 [a0, jj1]).trans K20 (allS (Or.inl (by simp)) (allS (Or.inl (by simp)) (all0 (P := fun x => x ∈ [a0, jj1] ∨ h0.size ≤ x))))
 show Runs _ _ _ _ (T20.setTop (mkF m 5 _ [(.ref a0)]))
 refine w_pop X20 hx (d39_5 hby) rfl (pq 6) ?_
 refine w_aloadN X20 hx (d39_6 hby) rfl rfl (pq 7) ?_
 exact w_done X20 hlk (v := some (.ref a0)) rfl (fun h => by rw [hret] at h; cases h) (fun fs hr => retOut X20 hx hret rfl (Or.inr (Or.inr (Or.inr (Or.inr ⟨rfl, rfl, rfl⟩)))) (d39_7 hby) hr) (by decide) (by decide) (⟨rfl, N21, K22, g20_0, g20_1, g20_2, g20_3, g20_4⟩)
theorem ef_m36_51 (m : MethodId) (a0 : Addr)  : entryFrame m #[(.ref a0)] 5 = mkF m 0 #[.val (.ref a0), .unset, .unset, .unset, .unset] [] := by first | (simp [entryFrame, mkF, argsToLocals, Value.category]; done) | rfl
def Q_m36_51 (Z : State) (a0 : Addr) (qq : Int32) (nn : Int32) (k0 : Int32) (k1 : Int32) (k2 : Int32) (k3 : Int32) (jj0 : Addr) (jj1 : ClassId) (jj2 : Int32) (jj3 : Value) (h0 : Heap) (n0 : Nat) (v : Option Value) (h : Heap) (L : List Loc) : Prop := ∃ (r : Addr) (t : Addr) (kb : ClassId), v = some (.ref r) ∧ Fr n0 L ∧ Keep h0 h [] ∧ h0.size ≤ r ∧ Exa Z h r kc0 ∧ Fld Z h r kc0 "coder" "B" (.int (0 : Int32)) ∧ Fld Z h r kc0 "value" "[B" (.ref t) ∧ h0.size ≤ t ∧ Arv Z h t kb .byte nn (mI (lowL (cl4 nn k0 k1 k2 k3))) (.int (0 : Int32))
theorem rm_m36_51 (l : Launch) (Z : State) (aZ : Array Value) (hw : ∀ d ∈ tables_1, d.before aZ Z = true) (ws : List Jvm.Cond) (a0 : Addr) (qq : Int32) (nn : Int32) (k0 : Int32) (k1 : Int32) (k2 : Int32) (k3 : Int32) (jj0 : Addr) (jj1 : ClassId) (jj2 : Int32) (jj3 : Value) (h0 : Heap) (n0 : Nat) (Z0 : n0 ≤ h0.size) (E_a0 : Exa Z h0 a0 kc0) (zz4 : Fld Z h0 a0 kc0 "value" "[B" (.ref jj0)) (zz5 : Arv Z h0 jj0 jj1 .byte (lenK qq nn k0 k1 k2 k3) (mI (lowL (encK qq nn k0 k1 k2 k3))) (.int (0 : Int32))) (zz6 : Sta Z Z.heap kc0 "COMPACT_STRINGS" "Z" (.int jj2)) (O0 : Old Z n0 h0) (zz7 : Fld Z h0 a0 kc0 "coder" "B" (.int (0 : Int32))) (hP_6 : ¬ (qq = (0 : Int32))) (hP_7 : ¬ (jj2 = (0 : Int32))) (hX_8 : ENC qq nn k0 k1 k2 k3) (zz8 : jj3.isRef = true) (zz9 : Sta Z Z.heap kc3 "SIOOBE_FORMATTER" "Ljava/util/function/BiFunction;" jj3) :
    MetN l Z yn_36 prog_3_method_5_code 5 (some (.object kc0)) ws ({ frames := 6, cells := 4, slots := 32, locals := 91 } : Room) #[(.ref a0)] h0 (Q_m36_51 Z a0 qq nn k0 k1 k2 k3 jj0 jj1 jj2 jj3 h0 n0) := by
 refine MetN.of (plainFor_of_name pn_1) ?_
 intro p e s m below meth c s₁ hret hx hby hml hown hnm hlk hZ X0 e0
 have N0 := Fr.nil n0
 rw [ef_m36_51 m a0]
 refine w_new X0 hx hZ hown (wd_155 hw) (wd_156 hw) (wd_157 hw) e0 (d36_0 hby) (by decide) (by decide) (pq 3) ?_
 intro T20 h20 b20 X20 e20 E20 g20 A20 D20
 have ge21 : n0 ≤ b20 := Nat.le_trans Z0 (Nat.le_of_eq g20.symm)
 have sz22 : h0.size ≤ b20 := Nat.le_trans (Nat.le_refl _) (Nat.le_of_eq g20.symm)
 have K23 : Keep h0 h20 [] := (Keep.refl h0 []).ext E20
 have f24 : Fld Z h20 b20 kc1 "value" "[B" .null := D20 (Or.inl (wd_170 hw)) (ty := (.array .byte)) (by decide)
 have f25 : Fld Z h20 b20 kc1 "coder" "B" (.int (0 : Int32)) := D20 (Or.inl (wd_172 hw)) (ty := .byte) (by decide)
 have f26 : Fld Z h20 b20 kc1 "count" "I" (.int (0 : Int32)) := D20 (Or.inl (wd_184 hw)) (ty := .int) (by decide)
 refine w_dup X20 hx (d36_3 hby) rfl (pq 4) ?_
 refine w_aloadN X20 hx (d36_4 hby) rfl rfl (pq 5) ?_
 have f28 : Fld Z h20 a0 kc0 "value" "[B" (.ref jj0) := (zz4.ext E20)
 have f29 : Arv Z h20 jj0 jj1 .byte (lenK qq nn k0 k1 k2 k3) (mI (lowL (encK qq nn k0 k1 k2 k3))) (.int (0 : Int32)) := (zz5.ext E20)
 have f30 : Exa Z h20 a0 kc0 := (E_a0.ext E20)
 have f31 : Old Z n0 h20 := (O0.ext E20)
 have f32 : Fld Z h20 a0 kc0 "coder" "B" (.int (0 : Int32)) := (zz7.ext E20)
 obtain ⟨cq33, kq33, q33a, q33b, q33c⟩ := isOf hZ e20 f30
 refine w_virtual X20 hx (y := yn_16) (z := yn_16) hown (mvT hZ (wd_65 hw)) (mvT hZ (wd_66 hw)) (notFace_of_selects (args := #[]) (mvT hZ (wd_68 hw))) (mvT hZ (wd_68 hw)) (mvT hZ (wd_67 hw)) (by decide) (backOf (W := 2) (rm_m16_25 l Z aZ hw [] a0 jj0 jj1 (lenK qq nn k0 k1 k2 k3) (lowL (encK qq nn k0 k1 k2 k3)) jj2 h20 n0 (Nat.le_trans Z0 E20.1) f28 f29 f30 zz6 f31 f32 hP_7) hZ (wd_69 hw) (wd_23 hw) (by decide) (by decide)) q33a q33c (by rw [hml]; rfl) [] (lenOf pd_8 rfl) rfl (Nat.le_of_eq rfl) (d36_5 hby) (fun _ _ => ⟨rfl, e20, (by decide : 1 + 0 ≤ _), (by decide : 4 + 0 ≤ _)⟩) (pq 8) ?_
 rintro _ _ ⟨T33, L33, k33, n33⟩ X33 ⟨Lc33, hQ33, l33, y33, z33⟩
 dsimp only [Pt.U, Pt.locs, Pt.cells, Pt.slots] at X33 l33 y33 z33 hQ33 ⊢
 rw [l33, y33, z33] at X33
 obtain ⟨rfl, N33q, e33⟩ := hQ33
 have N34 := Fr.app N0 N33q
 show Runs _ _ _ _ (T33.setTop (mkF m 8 _ [(.int ((lenK qq nn k0 k1 k2 k3) >>> ((0 : Int32) &&& 31))), (.ref b20), (.ref b20)]))
 rw [own_shr0 (lenK qq nn k0 k1 k2 k3)]
 refine w_special X33 hx (y := yn_37) rfl hown (mvT hZ (wd_158 hw)) (mvT hZ (wd_159 hw)) (mvT hZ (wd_160 hw)) (by decide) (backOf (W := 1) (rm_m37_52 l Z aZ hw [] b20 (lenK qq nn k0 k1 k2 k3) jj2 h20 n0 (Nat.le_trans Z0 E20.1) hP_7 A20 f24 f25 f26 zz6 f31 (own_nbK hX_8) ge21) hZ (wd_160 hw) (wd_157 hw) (by decide) (by decide)) (by rw [hml]; rfl) [(.int (lenK qq nn k0 k1 k2 k3))] (lenOf pd_26 rfl) rfl (Nat.le_of_eq rfl) (d36_8 hby) (fun _ _ => ⟨rfl, e33, (by decide : 1 + 1 ≤ _), (by decide : 4 + 12 ≤ _)⟩) (pq 11) ?_
 rintro _ _ ⟨T35, L35, k35, n35⟩ X35 ⟨Lc35, hQ35, l35, y35, z35⟩
 dsimp only [Pt.U, Pt.locs, Pt.cells, Pt.slots] at X35 l35 y35 z35 hQ35 ⊢
 rw [l35, y35, z35] at X35
 obtain ⟨r0_35, c0_35, rfl, N35q, K35, g35_0, g35_1, g35_2, g35_3, g35_4, g35_5⟩ := hQ35
 have N36 := Fr.app N34 N35q
 have K37 : Keep h0 T35.heap [] := K23.trans K35 (allS (Or.inr sz22) (all0 (P := fun x => x ∈ [] ∨ h0.size ≤ x)))
 have ge38 : n0 ≤ r0_35 := Nat.le_trans (Nat.le_trans Z0 E20.1) g35_0
 have sz39 : h0.size ≤ r0_35 := Nat.le_trans E20.1 g35_0
 show Runs _ _ _ _ (T35.setTop (mkF m 11 _ [(.ref b20)]))
 refine w_astoreN X35 hx (d36_11 hby) rfl (L' := #[.val (.ref a0), .val (.ref b20), .unset, .unset, .unset]) rfl (pq 12) ?_
 refine w_iconst X35 hx (d36_12 hby) (v := (-1 : Int32)) rfl (pq 13) ?_
 refine w_istoreN X35 hx (d36_13 hby) (L' := #[.val (.ref a0), .val (.ref b20), .val (.int (-1 : Int32)), .unset, .unset]) rfl (pq 14) ?_
 refine w_iconst X35 hx (d36_14 hby) (v := (1 : Int32)) rfl (pq 15) ?_
 refine w_istoreN X35 hx (d36_15 hby) (L' := #[.val (.ref a0), .val (.ref b20), .val (.int (-1 : Int32)), .val (.int (1 : Int32)), .unset]) rfl (pq 16) ?_
 suffices lp40 : ∀ (d46 : Nat) (T41 : State) (L42 : List Loc) (hN47 : Heap) (cs48 : Slot), Stand p l e ({ frames := 6, cells := 4, slots := 32, locals := 91 } : Room) s m #[(.ref a0)] below meth c T41 L42 2 16 → T41.heap = hN47 → Fr n0 L42 → (cs48 = .unset ∨ ∃ w, cs48 = .val w ∧ w.category = 1) → Keep T35.heap hN47 [b20, r0_35] → Fld Z hN47 b20 kc1 "count" "I" (.int (UC nn k0 k1 k2 k3 d46)) → Fld Z hN47 b20 kc1 "coder" "B" (.int (0 : Int32)) → Fld Z hN47 b20 kc1 "value" "[B" (.ref r0_35) → Arv Z hN47 r0_35 c0_35 .byte (lenK qq nn k0 k1 k2 k3) (mI (UB qq nn k0 k1 k2 k3 d46)) (.int (0 : Int32)) → d46 ≤ (UN nn k0 k1 k2 k3) → Runs p e below (EndN s (Q_m36_51 Z a0 qq nn k0 k1 k2 k3 jj0 jj1 jj2 jj3 h0 n0) ({ frames := 6, cells := 4, slots := 32, locals := 91 } : Room).cells ({ frames := 6, cells := 4, slots := 32, locals := 91 } : Room).slots) (T41.setTop (mkF m 16 #[.val (.ref a0), .val (.ref b20), .val (.int (-1 : Int32)), .val (.int (UI nn k0 k1 k2 k3 d46)), cs48] [])) by
  have z := lp40 (UN nn k0 k1 k2 k3) _ _ _ _ X35 rfl N36 (Or.inl rfl) (Keep.refl _ _) (by rw [own_uc0]; exact g35_5) g35_4 g35_3 (by rw [own_ub0]; exact g35_1) (Nat.le_refl _)
  rw [own_ui0] at z
  exact z
 intro d46
 induction d46 with
 | zero =>
  intro T41 L42 hN47 cs48 X43 e44 N45 hs49 KN50 fu51 fu52 fu53 fu54 _
  have K55 : Keep h0 hN47 [] := K37.trans KN50 (allS (Or.inr sz22) (allS (Or.inr sz39) (all0 (P := fun x => x ∈ [] ∨ h0.size ≤ x))))
  obtain ⟨iz56, hz57⟩ := own_uz hX_8 hP_6
  rw [hz57.ui]
  rw [own_ucz hX_8] at fu51
  show Runs _ _ _ _ (T41.setTop (mkF m 16 #[.val (.ref a0), .val (.ref b20), .val (.int (-1 : Int32)), .val (.int iz56), cs48] []))
  refine w_iloadN X43 hx (d36_16 hby) rfl (pq 17) ?_
  refine w_aloadN X43 hx (d36_17 hby) rfl rfl (pq 18) ?_
  have ne61 : a0 ≠ b20 := (Nat.ne_of_lt (Nat.lt_of_lt_of_le zz4.lt (Nat.le_trans (Nat.le_refl _) (Nat.le_of_eq g20.symm))))
  have ne62 : a0 ≠ r0_35 := (Nat.ne_of_lt (Nat.lt_of_lt_of_le zz4.lt (Nat.le_trans E20.1 g35_0)))
  have f63 : Fld Z hN47 a0 kc0 "value" "[B" (.ref jj0) := ((f28.keep K35 (ninS ne61 nin0)).keep KN50 (ninS ne61 (ninS ne62 nin0)))
  have ne64 : jj0 ≠ b20 := (Nat.ne_of_lt (Nat.lt_of_lt_of_le zz5.lt (Nat.le_trans (Nat.le_refl _) (Nat.le_of_eq g20.symm))))
  have ne65 : jj0 ≠ r0_35 := (Nat.ne_of_lt (Nat.lt_of_lt_of_le zz5.lt (Nat.le_trans E20.1 g35_0)))
  have f66 : Arv Z hN47 jj0 jj1 .byte (lenK qq nn k0 k1 k2 k3) (mI (lowL (encK qq nn k0 k1 k2 k3))) (.int (0 : Int32)) := ((f29.keep K35 (ninS ne64 nin0)).keep KN50 (ninS ne64 (ninS ne65 nin0)))
  have f67 : Exa Z hN47 a0 kc0 := ((f30.keep K35).keep KN50)
  have f68 : Old Z n0 hN47 := ((f31.keep K35 (allS ge21 all0)).keep KN50 (allS ge21 (allS ge38 all0)))
  have f69 : Fld Z hN47 a0 kc0 "coder" "B" (.int (0 : Int32)) := ((f32.keep K35 (ninS ne61 nin0)).keep KN50 (ninS ne61 (ninS ne62 nin0)))
  have le70 : h0.size ≤ T35.heap.size := (Nat.le_trans E20.1 K35.1)
  have le71 : h0.size ≤ hN47.size := (Nat.le_trans le70 KN50.1)
  obtain ⟨cq72, kq72, q72a, q72b, q72c⟩ := isOf hZ e44 f67
  refine w_virtual X43 hx (y := yn_16) (z := yn_16) hown (mvT hZ (wd_65 hw)) (mvT hZ (wd_66 hw)) (notFace_of_selects (args := #[]) (mvT hZ (wd_68 hw))) (mvT hZ (wd_68 hw)) (mvT hZ (wd_67 hw)) (by decide) (backOf (W := 1) (rm_m16_25 l Z aZ hw [] a0 jj0 jj1 (lenK qq nn k0 k1 k2 k3) (lowL (encK qq nn k0 k1 k2 k3)) jj2 hN47 n0 (Nat.le_trans Z0 le71) f63 f66 f67 zz6 f68 f69 hP_7) hZ (wd_69 hw) (wd_23 hw) (by decide) (by decide)) q72a q72c (by rw [hml]; rfl) [] (lenOf pd_8 rfl) rfl (Nat.le_of_eq rfl) (d36_18 hby) (fun _ _ => ⟨rfl, e44, (by decide : 2 + 0 ≤ _), (by decide : 16 + 0 ≤ _)⟩) (pq 21) ?_
  rintro _ _ ⟨T72, L72, k72, n72⟩ X72 ⟨Lc72, hQ72, l72, y72, z72⟩
  dsimp only [Pt.U, Pt.locs, Pt.cells, Pt.slots] at X72 l72 y72 z72 hQ72 ⊢
  rw [l72, y72, z72] at X72
  obtain ⟨rfl, N72q, e72⟩ := hQ72
  have N73 := Fr.app N45 N72q
  show Runs _ _ _ _ (T72.setTop (mkF m 21 _ [(.int ((lenK qq nn k0 k1 k2 k3) >>> ((0 : Int32) &&& 31))), (.int iz56)]))
  rw [own_shr0 (lenK qq nn k0 k1 k2 k3)]
  refine w_icN X72 hx (d36_21 hby) (tlt hz57.iL).2.1 (pq 24) ?_
  refine w_iloadN X72 hx (d36_24 hby) rfl (pq 25) ?_
  refine w_ifN X72 hx (d36_25 hby) (tlt (by decide : (-1 : Int32) < (0 : Int32))).2.1 (pq 28) ?_
  refine w_aloadN X72 hx (d36_28 hby) rfl rfl (pq 29) ?_
  refine w_iloadN X72 hx (d36_29 hby) rfl (pq 30) ?_
  obtain ⟨cq74, kq74, q74a, q74b, q74c⟩ := isOf hZ e72 f67
  refine w_virtual X72 hx (y := yn_18) (z := yn_18) hown (mvT hZ (wd_75 hw)) (mvT hZ (wd_76 hw)) (notFace_of_selects (args := #[]) (mvT hZ (wd_78 hw))) (mvT hZ (wd_78 hw)) (mvT hZ (wd_77 hw)) (by decide) (backOf (W := 0) (rm_m18_54 l Z aZ hw [] a0 iz56 jj2 jj0 jj1 (lenK qq nn k0 k1 k2 k3) (lowL (encK qq nn k0 k1 k2 k3)) jj3 hN47 n0 (Nat.le_trans Z0 le71) f67 zz6 f68 f69 hP_7 f63 f66 hz57.i0 hz57.iL zz8 zz9) hZ (wd_79 hw) (wd_23 hw) (by decide) (by decide)) q74a q74c (by rw [hml]; rfl) [(.int iz56)] (lenOf pd_1 rfl) rfl (Nat.le_of_eq rfl) (d36_30 hby) (fun _ _ => ⟨rfl, e72, (by decide : 2 + 0 ≤ _), (by decide : 16 + 0 ≤ _)⟩) (pq 33) ?_
  rintro _ _ ⟨T74, L74, k74, n74⟩ X74 ⟨Lc74, hQ74, l74, y74, z74⟩
  dsimp only [Pt.U, Pt.locs, Pt.cells, Pt.slots] at X74 l74 y74 z74 hQ74 ⊢
  rw [l74, y74, z74] at X74
  obtain ⟨rfl, N74q, e74⟩ := hQ74
  have N75 := Fr.app N73 N74q
  show Runs _ _ _ _ (T74.setTop (mkF m 33 _ [(.int (((gI (lowL (encK qq nn k0 k1 k2 k3)) iz56) &&& (255 : Int32)).toUInt32.toUInt16.toUInt32.toInt32))]))
  rw [hz57.ch]
  refine w_istore X74 hx (d36_33 hby) (L' := #[.val (.ref a0), .val (.ref b20), .val (.int (-1 : Int32)), .val (.int iz56), .val (.int (34 : Int32))]) ((XS.store1 rfl hs49 rfl).trans rfl) (pq 35) ?_
  refine w_iload X74 hx (d36_35 hby) rfl (pq 37) ?_
  refine w_bipush X74 hx (d36_37 hby) (v := (34 : Int32)) rfl (pq 39) ?_
  refine w_icN X74 hx (d36_39 hby) (teq (by decide : (34 : Int32) = (34 : Int32))).2 (pq 42) ?_
  refine w_iloadN X74 hx (d36_42 hby) rfl (pq 43) ?_
  refine w_istoreN X74 hx (d36_43 hby) (L' := #[.val (.ref a0), .val (.ref b20), .val (.int iz56), .val (.int iz56), .val (.int (34 : Int32))]) rfl (pq 44) ?_
  refine w_goto X74 hx (d36_44 hby) (pc' := 116) (by decide) (by decide) ?_
  refine w_iinc X74 hx (d36_116 hby) (v := (1 : Int32)) rfl rfl (L' := #[.val (.ref a0), .val (.ref b20), .val (.int iz56), .val (.int (iz56 + (1 : Int32))), .val (.int (34 : Int32))]) rfl (pq 119) ?_
  refine w_goto X74 hx (d36_119 hby) (pc' := 16) (by decide) (by decide) ?_
  refine w_iloadN X74 hx (d36_16 hby) rfl (pq 17) ?_
  refine w_aloadN X74 hx (d36_17 hby) rfl rfl (pq 18) ?_
  obtain ⟨cq76, kq76, q76a, q76b, q76c⟩ := isOf hZ e74 f67
  refine w_virtual X74 hx (y := yn_16) (z := yn_16) hown (mvT hZ (wd_65 hw)) (mvT hZ (wd_66 hw)) (notFace_of_selects (args := #[]) (mvT hZ (wd_68 hw))) (mvT hZ (wd_68 hw)) (mvT hZ (wd_67 hw)) (by decide) (backOf (W := 1) (rm_m16_25 l Z aZ hw [] a0 jj0 jj1 (lenK qq nn k0 k1 k2 k3) (lowL (encK qq nn k0 k1 k2 k3)) jj2 hN47 n0 (Nat.le_trans Z0 le71) f63 f66 f67 zz6 f68 f69 hP_7) hZ (wd_69 hw) (wd_23 hw) (by decide) (by decide)) q76a q76c (by rw [hml]; rfl) [] (lenOf pd_8 rfl) rfl (Nat.le_of_eq rfl) (d36_18 hby) (fun _ _ => ⟨rfl, e74, (by decide : 2 + 0 ≤ _), (by decide : 16 + 0 ≤ _)⟩) (pq 21) ?_
  rintro _ _ ⟨T76, L76, k76, n76⟩ X76 ⟨Lc76, hQ76, l76, y76, z76⟩
  dsimp only [Pt.U, Pt.locs, Pt.cells, Pt.slots] at X76 l76 y76 z76 hQ76 ⊢
  rw [l76, y76, z76] at X76
  obtain ⟨rfl, N76q, e76⟩ := hQ76
  have N77 := Fr.app N75 N76q
  show Runs _ _ _ _ (T76.setTop (mkF m 21 _ [(.int ((lenK qq nn k0 k1 k2 k3) >>> ((0 : Int32) &&& 31))), (.int (iz56 + (1 : Int32)))]))
  rw [own_shr0 (lenK qq nn k0 k1 k2 k3)]
  refine w_icY X76 hx (d36_21 hby) (flt hz57.iE).2.1 (pc' := 122) (by decide) (by decide) ?_
  refine w_iloadN X76 hx (d36_122 hby) rfl (pq 123) ?_
  refine w_aloadN X76 hx (d36_123 hby) rfl rfl (pq 124) ?_
  obtain ⟨cq78, kq78, q78a, q78b, q78c⟩ := isOf hZ e76 f67
  refine w_virtual X76 hx (y := yn_16) (z := yn_16) hown (mvT hZ (wd_65 hw)) (mvT hZ (wd_66 hw)) (notFace_of_selects (args := #[]) (mvT hZ (wd_68 hw))) (mvT hZ (wd_68 hw)) (mvT hZ (wd_67 hw)) (by decide) (backOf (W := 1) (rm_m16_25 l Z aZ hw [] a0 jj0 jj1 (lenK qq nn k0 k1 k2 k3) (lowL (encK qq nn k0 k1 k2 k3)) jj2 hN47 n0 (Nat.le_trans Z0 le71) f63 f66 f67 zz6 f68 f69 hP_7) hZ (wd_69 hw) (wd_23 hw) (by decide) (by decide)) q78a q78c (by rw [hml]; rfl) [] (lenOf pd_8 rfl) rfl (Nat.le_of_eq rfl) (d36_124 hby) (fun _ _ => ⟨rfl, e76, (by decide : 2 + 0 ≤ _), (by decide : 16 + 0 ≤ _)⟩) (pq 127) ?_
  rintro _ _ ⟨T78, L78, k78, n78⟩ X78 ⟨Lc78, hQ78, l78, y78, z78⟩
  dsimp only [Pt.U, Pt.locs, Pt.cells, Pt.slots] at X78 l78 y78 z78 hQ78 ⊢
  rw [l78, y78, z78] at X78
  obtain ⟨rfl, N78q, e78⟩ := hQ78
  have N79 := Fr.app N77 N78q
  show Runs _ _ _ _ (T78.setTop (mkF m 127 _ [(.int ((lenK qq nn k0 k1 k2 k3) >>> ((0 : Int32) &&& 31))), (.int iz56)]))
  rw [own_shr0 (lenK qq nn k0 k1 k2 k3)]
  refine w_iconst X78 hx (d36_127 hby) (v := (1 : Int32)) rfl (pq 128) ?_
  refine w_isub X78 hx (d36_128 hby) (pq 129) ?_
  refine w_icY X78 hx (d36_129 hby) (teq hz57.iM).1 (pc' := 142) (by decide) (by decide) ?_
  refine w_aloadN X78 hx (d36_142 hby) rfl rfl (pq 143) ?_
  have f80 : Exa Z hN47 b20 kc4 := (g35_2.keep KN50)
  obtain ⟨cq81, kq81, q81a, q81b, q81c⟩ := isOf hZ e78 f80
  refine w_virtual X78 hx (y := yn_44) (z := yn_44) hown (mvT hZ (wd_198 hw)) (mvT hZ (wd_199 hw)) (notFace_of_selects (args := #[]) (mvT hZ (wd_201 hw))) (mvT hZ (wd_201 hw)) (mvT hZ (wd_200 hw)) (by decide) (backOf (W := 0) (rm_m44_58 l Z aZ hw [] b20 r0_35 nn c0_35 (lenK qq nn k0 k1 k2 k3) (UB qq nn k0 k1 k2 k3 0) jj2 hN47 n0 (Nat.le_trans Z0 le71) f80 fu53 fu51 fu52 fu54 hz57.nl zz6 f68 hP_7 (own_cprU hX_8 hP_6) (own_ublen hX_8 hP_6 _)) hZ (wd_202 hw) (wd_157 hw) (by decide) (by decide)) q81a q81c (by rw [hml]; rfl) [] (lenOf pd_30 rfl) rfl (Nat.le_of_eq rfl) (d36_143 hby) (fun _ _ => ⟨rfl, e78, (by decide : 2 + 2 ≤ _), (by decide : 16 + 16 ≤ _)⟩) (pq 146) ?_
  rintro _ _ ⟨T81, L81, k81, n81⟩ X81 ⟨Lc81, hQ81, l81, y81, z81⟩
  dsimp only [Pt.U, Pt.locs, Pt.cells, Pt.slots] at X81 l81 y81 z81 hQ81 ⊢
  rw [l81, y81, z81] at X81
  obtain ⟨r0_81, r1_81, c0_81, rfl, N81q, K81, g81_0, g81_1, g81_2, g81_3, g81_4, g81_5⟩ := hQ81
  have N82 := Fr.app N79 N81q
  have K83 : Keep h0 T81.heap [] := K55.trans K81 (all0 (P := fun x => x ∈ [] ∨ h0.size ≤ x))
  have ge84 : n0 ≤ r0_81 := Nat.le_trans (Nat.le_trans Z0 le71) g81_0
  have sz85 : h0.size ≤ r0_81 := Nat.le_trans le71 g81_0
  have ge86 : n0 ≤ r1_81 := Nat.le_trans (Nat.le_trans Z0 le71) g81_1
  have sz87 : h0.size ≤ r1_81 := Nat.le_trans le71 g81_1
  show Runs _ _ _ _ (T81.setTop (mkF m 146 _ [(.ref r0_81)]))
  exact w_done X81 hlk (v := some (.ref r0_81)) rfl (fun h => by rw [hret] at h; cases h) (fun fs hr => retOut X81 hx hret rfl (Or.inr (Or.inr (Or.inr (Or.inr ⟨rfl, rfl, rfl⟩)))) (d36_146 hby) hr) (by decide) (by decide) (⟨r0_81, r1_81, c0_81, rfl, N82, K83, sz85, g81_2, g81_3, g81_4, sz87, (by have z := g81_5; rw [own_cprUB hX_8 hP_6, own_sub0 nn] at z; exact z)⟩)
 | succ d46 ih =>
  intro T41 L42 hN47 cs48 X43 e44 N45 hs49 KN50 fu51 fu52 fu53 fu54 hd
  have K88 : Keep h0 hN47 [] := K37.trans KN50 (allS (Or.inr sz22) (allS (Or.inr sz39) (all0 (P := fun x => x ∈ [] ∨ h0.size ≤ x))))
  obtain ⟨ii89, kx90, cj91, bl92, uq93⟩ := own_uq hX_8 hP_6 hd
  rw [uq93.ui]
  rw [uq93.uc] at fu51
  rw [uq93.ub] at fu54
  by_cases hc94 : (escF kx90) = (0 : Int32)
  · refine w_iloadN X43 hx (d36_16 hby) rfl (pq 17) ?_
    refine w_aloadN X43 hx (d36_17 hby) rfl rfl (pq 18) ?_
    have ne98 : a0 ≠ b20 := (Nat.ne_of_lt (Nat.lt_of_lt_of_le zz4.lt (Nat.le_trans (Nat.le_refl _) (Nat.le_of_eq g20.symm))))
    have ne99 : a0 ≠ r0_35 := (Nat.ne_of_lt (Nat.lt_of_lt_of_le zz4.lt (Nat.le_trans E20.1 g35_0)))
    have f100 : Fld Z hN47 a0 kc0 "value" "[B" (.ref jj0) := ((f28.keep K35 (ninS ne98 nin0)).keep KN50 (ninS ne98 (ninS ne99 nin0)))
    have ne101 : jj0 ≠ b20 := (Nat.ne_of_lt (Nat.lt_of_lt_of_le zz5.lt (Nat.le_trans (Nat.le_refl _) (Nat.le_of_eq g20.symm))))
    have ne102 : jj0 ≠ r0_35 := (Nat.ne_of_lt (Nat.lt_of_lt_of_le zz5.lt (Nat.le_trans E20.1 g35_0)))
    have f103 : Arv Z hN47 jj0 jj1 .byte (lenK qq nn k0 k1 k2 k3) (mI (lowL (encK qq nn k0 k1 k2 k3))) (.int (0 : Int32)) := ((f29.keep K35 (ninS ne101 nin0)).keep KN50 (ninS ne101 (ninS ne102 nin0)))
    have f104 : Exa Z hN47 a0 kc0 := ((f30.keep K35).keep KN50)
    have f105 : Old Z n0 hN47 := ((f31.keep K35 (allS ge21 all0)).keep KN50 (allS ge21 (allS ge38 all0)))
    have f106 : Fld Z hN47 a0 kc0 "coder" "B" (.int (0 : Int32)) := ((f32.keep K35 (ninS ne98 nin0)).keep KN50 (ninS ne98 (ninS ne99 nin0)))
    have le107 : h0.size ≤ T35.heap.size := (Nat.le_trans E20.1 K35.1)
    have le108 : h0.size ≤ hN47.size := (Nat.le_trans le107 KN50.1)
    obtain ⟨cq109, kq109, q109a, q109b, q109c⟩ := isOf hZ e44 f104
    refine w_virtual X43 hx (y := yn_16) (z := yn_16) hown (mvT hZ (wd_65 hw)) (mvT hZ (wd_66 hw)) (notFace_of_selects (args := #[]) (mvT hZ (wd_68 hw))) (mvT hZ (wd_68 hw)) (mvT hZ (wd_67 hw)) (by decide) (backOf (W := 1) (rm_m16_25 l Z aZ hw [] a0 jj0 jj1 (lenK qq nn k0 k1 k2 k3) (lowL (encK qq nn k0 k1 k2 k3)) jj2 hN47 n0 (Nat.le_trans Z0 le108) f100 f103 f104 zz6 f105 f106 hP_7) hZ (wd_69 hw) (wd_23 hw) (by decide) (by decide)) q109a q109c (by rw [hml]; rfl) [] (lenOf pd_8 rfl) rfl (Nat.le_of_eq rfl) (d36_18 hby) (fun _ _ => ⟨rfl, e44, (by decide : 2 + 0 ≤ _), (by decide : 16 + 0 ≤ _)⟩) (pq 21) ?_
    rintro _ _ ⟨T109, L109, k109, n109⟩ X109 ⟨Lc109, hQ109, l109, y109, z109⟩
    dsimp only [Pt.U, Pt.locs, Pt.cells, Pt.slots] at X109 l109 y109 z109 hQ109 ⊢
    rw [l109, y109, z109] at X109
    obtain ⟨rfl, N109q, e109⟩ := hQ109
    have N110 := Fr.app N45 N109q
    show Runs _ _ _ _ (T109.setTop (mkF m 21 _ [(.int ((lenK qq nn k0 k1 k2 k3) >>> ((0 : Int32) &&& 31))), (.int ii89)]))
    rw [own_shr0 (lenK qq nn k0 k1 k2 k3)]
    refine w_icN X109 hx (d36_21 hby) (tlt uq93.iL).2.1 (pq 24) ?_
    refine w_iloadN X109 hx (d36_24 hby) rfl (pq 25) ?_
    refine w_ifN X109 hx (d36_25 hby) (tlt (by decide : (-1 : Int32) < (0 : Int32))).2.1 (pq 28) ?_
    refine w_aloadN X109 hx (d36_28 hby) rfl rfl (pq 29) ?_
    refine w_iloadN X109 hx (d36_29 hby) rfl (pq 30) ?_
    obtain ⟨cq111, kq111, q111a, q111b, q111c⟩ := isOf hZ e109 f104
    refine w_virtual X109 hx (y := yn_18) (z := yn_18) hown (mvT hZ (wd_75 hw)) (mvT hZ (wd_76 hw)) (notFace_of_selects (args := #[]) (mvT hZ (wd_78 hw))) (mvT hZ (wd_78 hw)) (mvT hZ (wd_77 hw)) (by decide) (backOf (W := 0) (rm_m18_54 l Z aZ hw [] a0 ii89 jj2 jj0 jj1 (lenK qq nn k0 k1 k2 k3) (lowL (encK qq nn k0 k1 k2 k3)) jj3 hN47 n0 (Nat.le_trans Z0 le108) f104 zz6 f105 f106 hP_7 f100 f103 uq93.i0 uq93.iL zz8 zz9) hZ (wd_79 hw) (wd_23 hw) (by decide) (by decide)) q111a q111c (by rw [hml]; rfl) [(.int ii89)] (lenOf pd_1 rfl) rfl (Nat.le_of_eq rfl) (d36_30 hby) (fun _ _ => ⟨rfl, e109, (by decide : 2 + 0 ≤ _), (by decide : 16 + 0 ≤ _)⟩) (pq 33) ?_
    rintro _ _ ⟨T111, L111, k111, n111⟩ X111 ⟨Lc111, hQ111, l111, y111, z111⟩
    dsimp only [Pt.U, Pt.locs, Pt.cells, Pt.slots] at X111 l111 y111 z111 hQ111 ⊢
    rw [l111, y111, z111] at X111
    obtain ⟨rfl, N111q, e111⟩ := hQ111
    have N112 := Fr.app N110 N111q
    show Runs _ _ _ _ (T111.setTop (mkF m 33 _ [(.int (((gI (lowL (encK qq nn k0 k1 k2 k3)) ii89) &&& (255 : Int32)).toUInt32.toUInt16.toUInt32.toInt32))]))
    rw [(uq93.ch0 hc94).1]
    refine w_istore X111 hx (d36_33 hby) (L' := #[.val (.ref a0), .val (.ref b20), .val (.int (-1 : Int32)), .val (.int ii89), .val (.int kx90)]) ((XS.store1 rfl hs49 rfl).trans rfl) (pq 35) ?_
    refine w_iload X111 hx (d36_35 hby) rfl (pq 37) ?_
    refine w_bipush X111 hx (d36_37 hby) (v := (34 : Int32)) rfl (pq 39) ?_
    refine w_icY X111 hx (d36_39 hby) (feq (own_esc34 hc94)).2 (pc' := 47) (by decide) (by decide) ?_
    refine w_iload X111 hx (d36_47 hby) rfl (pq 49) ?_
    refine w_bipush X111 hx (d36_49 hby) (v := (92 : Int32)) rfl (pq 51) ?_
    refine w_icY X111 hx (d36_51 hby) (feq (own_esc92 hc94)).2 (pc' := 109) (by decide) (by decide) ?_
    refine w_aloadN X111 hx (d36_109 hby) rfl rfl (pq 110) ?_
    refine w_iload X111 hx (d36_110 hby) rfl (pq 112) ?_
    have f113 : Exa Z hN47 b20 kc4 := (g35_2.keep KN50)
    obtain ⟨cq114, kq114, q114a, q114b, q114c⟩ := isOf hZ e111 f113
    refine w_virtual X111 hx (y := yn_39) (z := yn_39) hown (mvT hZ (wd_173 hw)) (mvT hZ (wd_174 hw)) (notFace_of_selects (args := #[]) (mvT hZ (wd_176 hw))) (mvT hZ (wd_176 hw)) (mvT hZ (wd_175 hw)) (by decide) (backOf (W := 0) (rm_m39_67 l Z aZ hw [] b20 kx90 cj91 r0_35 c0_35 (lenK qq nn k0 k1 k2 k3) bl92 jj2 hN47 n0 (Nat.le_trans Z0 le108) fu51 f113 fu53 fu54 fu52 uq93.cap (own_k255 uq93.kc) uq93.c0 uq93.cL zz6 f105 hP_7 ge21 uq93.bll ge38) hZ (wd_177 hw) (wd_157 hw) (by decide) (by decide)) q114a q114c (by rw [hml]; rfl) [(.int kx90)] (lenOf pd_32 rfl) rfl (Nat.le_of_eq rfl) (d36_112 hby) (fun _ _ => ⟨rfl, e111, (by decide : 2 + 0 ≤ _), (by decide : 16 + 0 ≤ _)⟩) (pq 115) ?_
    rintro _ _ ⟨T114, L114, k114, n114⟩ X114 ⟨Lc114, hQ114, l114, y114, z114⟩
    dsimp only [Pt.U, Pt.locs, Pt.cells, Pt.slots] at X114 l114 y114 z114 hQ114 ⊢
    rw [l114, y114, z114] at X114
    obtain ⟨rfl, N114q, K114, g114_0, g114_1, g114_2, g114_3, g114_4⟩ := hQ114
    have N115 := Fr.app N112 N114q
    have K116 : Keep h0 T114.heap [] := K88.trans K114 (allS (Or.inr sz22) (allS (Or.inr sz39) (all0 (P := fun x => x ∈ [] ∨ h0.size ≤ x))))
    show Runs _ _ _ _ (T114.setTop (mkF m 115 _ [(.ref b20)]))
    refine w_pop X114 hx (d36_115 hby) rfl (pq 116) ?_
    refine w_iinc X114 hx (d36_116 hby) (v := (1 : Int32)) rfl rfl (L' := #[.val (.ref a0), .val (.ref b20), .val (.int (-1 : Int32)), .val (.int (ii89 + (1 : Int32))), .val (.int kx90)]) rfl (pq 119) ?_
    refine w_goto X114 hx (d36_119 hby) (pc' := 16) (by decide) (by decide) ?_
    rw [(uq93.ch0 hc94).2]
    exact ih _ _ _ _ X114 rfl N115 (Or.inr ⟨_, rfl, rfl⟩) (KN50.trans K114 (fun _ q => Or.inl q)) (by rw [← uq93.cn]; exact g114_0) g114_3 g114_2 (by rw [← uq93.bn]; exact g114_4) (by omega)
  · refine w_iloadN X43 hx (d36_16 hby) rfl (pq 17) ?_
    refine w_aloadN X43 hx (d36_17 hby) rfl rfl (pq 18) ?_
    have ne120 : a0 ≠ b20 := (Nat.ne_of_lt (Nat.lt_of_lt_of_le zz4.lt (Nat.le_trans (Nat.le_refl _) (Nat.le_of_eq g20.symm))))
    have ne121 : a0 ≠ r0_35 := (Nat.ne_of_lt (Nat.lt_of_lt_of_le zz4.lt (Nat.le_trans E20.1 g35_0)))
    have f122 : Fld Z hN47 a0 kc0 "value" "[B" (.ref jj0) := ((f28.keep K35 (ninS ne120 nin0)).keep KN50 (ninS ne120 (ninS ne121 nin0)))
    have ne123 : jj0 ≠ b20 := (Nat.ne_of_lt (Nat.lt_of_lt_of_le zz5.lt (Nat.le_trans (Nat.le_refl _) (Nat.le_of_eq g20.symm))))
    have ne124 : jj0 ≠ r0_35 := (Nat.ne_of_lt (Nat.lt_of_lt_of_le zz5.lt (Nat.le_trans E20.1 g35_0)))
    have f125 : Arv Z hN47 jj0 jj1 .byte (lenK qq nn k0 k1 k2 k3) (mI (lowL (encK qq nn k0 k1 k2 k3))) (.int (0 : Int32)) := ((f29.keep K35 (ninS ne123 nin0)).keep KN50 (ninS ne123 (ninS ne124 nin0)))
    have f126 : Exa Z hN47 a0 kc0 := ((f30.keep K35).keep KN50)
    have f127 : Old Z n0 hN47 := ((f31.keep K35 (allS ge21 all0)).keep KN50 (allS ge21 (allS ge38 all0)))
    have f128 : Fld Z hN47 a0 kc0 "coder" "B" (.int (0 : Int32)) := ((f32.keep K35 (ninS ne120 nin0)).keep KN50 (ninS ne120 (ninS ne121 nin0)))
    have le129 : h0.size ≤ T35.heap.size := (Nat.le_trans E20.1 K35.1)
    have le130 : h0.size ≤ hN47.size := (Nat.le_trans le129 KN50.1)
    obtain ⟨cq131, kq131, q131a, q131b, q131c⟩ := isOf hZ e44 f126
    refine w_virtual X43 hx (y := yn_16) (z := yn_16) hown (mvT hZ (wd_65 hw)) (mvT hZ (wd_66 hw)) (notFace_of_selects (args := #[]) (mvT hZ (wd_68 hw))) (mvT hZ (wd_68 hw)) (mvT hZ (wd_67 hw)) (by decide) (backOf (W := 1) (rm_m16_25 l Z aZ hw [] a0 jj0 jj1 (lenK qq nn k0 k1 k2 k3) (lowL (encK qq nn k0 k1 k2 k3)) jj2 hN47 n0 (Nat.le_trans Z0 le130) f122 f125 f126 zz6 f127 f128 hP_7) hZ (wd_69 hw) (wd_23 hw) (by decide) (by decide)) q131a q131c (by rw [hml]; rfl) [] (lenOf pd_8 rfl) rfl (Nat.le_of_eq rfl) (d36_18 hby) (fun _ _ => ⟨rfl, e44, (by decide : 2 + 0 ≤ _), (by decide : 16 + 0 ≤ _)⟩) (pq 21) ?_
    rintro _ _ ⟨T131, L131, k131, n131⟩ X131 ⟨Lc131, hQ131, l131, y131, z131⟩
    dsimp only [Pt.U, Pt.locs, Pt.cells, Pt.slots] at X131 l131 y131 z131 hQ131 ⊢
    rw [l131, y131, z131] at X131
    obtain ⟨rfl, N131q, e131⟩ := hQ131
    have N132 := Fr.app N45 N131q
    show Runs _ _ _ _ (T131.setTop (mkF m 21 _ [(.int ((lenK qq nn k0 k1 k2 k3) >>> ((0 : Int32) &&& 31))), (.int ii89)]))
    rw [own_shr0 (lenK qq nn k0 k1 k2 k3)]
    refine w_icN X131 hx (d36_21 hby) (tlt uq93.iL).2.1 (pq 24) ?_
    refine w_iloadN X131 hx (d36_24 hby) rfl (pq 25) ?_
    refine w_ifN X131 hx (d36_25 hby) (tlt (by decide : (-1 : Int32) < (0 : Int32))).2.1 (pq 28) ?_
    refine w_aloadN X131 hx (d36_28 hby) rfl rfl (pq 29) ?_
    refine w_iloadN X131 hx (d36_29 hby) rfl (pq 30) ?_
    obtain ⟨cq133, kq133, q133a, q133b, q133c⟩ := isOf hZ e131 f126
    refine w_virtual X131 hx (y := yn_18) (z := yn_18) hown (mvT hZ (wd_75 hw)) (mvT hZ (wd_76 hw)) (notFace_of_selects (args := #[]) (mvT hZ (wd_78 hw))) (mvT hZ (wd_78 hw)) (mvT hZ (wd_77 hw)) (by decide) (backOf (W := 0) (rm_m18_54 l Z aZ hw [] a0 ii89 jj2 jj0 jj1 (lenK qq nn k0 k1 k2 k3) (lowL (encK qq nn k0 k1 k2 k3)) jj3 hN47 n0 (Nat.le_trans Z0 le130) f126 zz6 f127 f128 hP_7 f122 f125 uq93.i0 uq93.iL zz8 zz9) hZ (wd_79 hw) (wd_23 hw) (by decide) (by decide)) q133a q133c (by rw [hml]; rfl) [(.int ii89)] (lenOf pd_1 rfl) rfl (Nat.le_of_eq rfl) (d36_30 hby) (fun _ _ => ⟨rfl, e131, (by decide : 2 + 0 ≤ _), (by decide : 16 + 0 ≤ _)⟩) (pq 33) ?_
    rintro _ _ ⟨T133, L133, k133, n133⟩ X133 ⟨Lc133, hQ133, l133, y133, z133⟩
    dsimp only [Pt.U, Pt.locs, Pt.cells, Pt.slots] at X133 l133 y133 z133 hQ133 ⊢
    rw [l133, y133, z133] at X133
    obtain ⟨rfl, N133q, e133⟩ := hQ133
    have N134 := Fr.app N132 N133q
    show Runs _ _ _ _ (T133.setTop (mkF m 33 _ [(.int (((gI (lowL (encK qq nn k0 k1 k2 k3)) ii89) &&& (255 : Int32)).toUInt32.toUInt16.toUInt32.toInt32))]))
    rw [(uq93.ch1 hc94).1]
    refine w_istore X133 hx (d36_33 hby) (L' := #[.val (.ref a0), .val (.ref b20), .val (.int (-1 : Int32)), .val (.int ii89), .val (.int (92 : Int32))]) ((XS.store1 rfl hs49 rfl).trans rfl) (pq 35) ?_
    refine w_iload X133 hx (d36_35 hby) rfl (pq 37) ?_
    refine w_bipush X133 hx (d36_37 hby) (v := (34 : Int32)) rfl (pq 39) ?_
    refine w_icY X133 hx (d36_39 hby) (feq (by decide : ¬ ((92 : Int32) = (34 : Int32)))).2 (pc' := 47) (by decide) (by decide) ?_
    refine w_iload X133 hx (d36_47 hby) rfl (pq 49) ?_
    refine w_bipush X133 hx (d36_49 hby) (v := (92 : Int32)) rfl (pq 51) ?_
    refine w_icN X133 hx (d36_51 hby) (teq (by decide : (92 : Int32) = (92 : Int32))).2 (pq 54) ?_
    refine w_iloadN X133 hx (d36_54 hby) rfl (pq 55) ?_
    refine w_iconst X133 hx (d36_55 hby) (v := (1 : Int32)) rfl (pq 56) ?_
    refine w_iadd X133 hx (d36_56 hby) (pq 57) ?_
    refine w_aloadN X133 hx (d36_57 hby) rfl rfl (pq 58) ?_
    obtain ⟨cq135, kq135, q135a, q135b, q135c⟩ := isOf hZ e133 f126
    refine w_virtual X133 hx (y := yn_16) (z := yn_16) hown (mvT hZ (wd_65 hw)) (mvT hZ (wd_66 hw)) (notFace_of_selects (args := #[]) (mvT hZ (wd_68 hw))) (mvT hZ (wd_68 hw)) (mvT hZ (wd_67 hw)) (by decide) (backOf (W := 1) (rm_m16_25 l Z aZ hw [] a0 jj0 jj1 (lenK qq nn k0 k1 k2 k3) (lowL (encK qq nn k0 k1 k2 k3)) jj2 hN47 n0 (Nat.le_trans Z0 le130) f122 f125 f126 zz6 f127 f128 hP_7) hZ (wd_69 hw) (wd_23 hw) (by decide) (by decide)) q135a q135c (by rw [hml]; rfl) [] (lenOf pd_8 rfl) rfl (Nat.le_of_eq rfl) (d36_58 hby) (fun _ _ => ⟨rfl, e133, (by decide : 2 + 0 ≤ _), (by decide : 16 + 0 ≤ _)⟩) (pq 61) ?_
    rintro _ _ ⟨T135, L135, k135, n135⟩ X135 ⟨Lc135, hQ135, l135, y135, z135⟩
    dsimp only [Pt.U, Pt.locs, Pt.cells, Pt.slots] at X135 l135 y135 z135 hQ135 ⊢
    rw [l135, y135, z135] at X135
    obtain ⟨rfl, N135q, e135⟩ := hQ135
    have N136 := Fr.app N134 N135q
    show Runs _ _ _ _ (T135.setTop (mkF m 61 _ [(.int ((lenK qq nn k0 k1 k2 k3) >>> ((0 : Int32) &&& 31))), (.int (ii89 + (1 : Int32)))]))
    rw [own_shr0 (lenK qq nn k0 k1 k2 k3)]
    refine w_icN X135 hx (d36_61 hby) (feq (uq93.ch1 hc94).2.1).1 (pq 64) ?_
    refine w_aloadN X135 hx (d36_64 hby) rfl rfl (pq 65) ?_
    refine w_iloadN X135 hx (d36_65 hby) rfl (pq 66) ?_
    refine w_iconst X135 hx (d36_66 hby) (v := (1 : Int32)) rfl (pq 67) ?_
    refine w_iadd X135 hx (d36_67 hby) (pq 68) ?_
    obtain ⟨cq137, kq137, q137a, q137b, q137c⟩ := isOf hZ e135 f126
    refine w_virtual X135 hx (y := yn_18) (z := yn_18) hown (mvT hZ (wd_75 hw)) (mvT hZ (wd_76 hw)) (notFace_of_selects (args := #[]) (mvT hZ (wd_78 hw))) (mvT hZ (wd_78 hw)) (mvT hZ (wd_77 hw)) (by decide) (backOf (W := 0) (rm_m18_54 l Z aZ hw [] a0 (ii89 + (1 : Int32)) jj2 jj0 jj1 (lenK qq nn k0 k1 k2 k3) (lowL (encK qq nn k0 k1 k2 k3)) jj3 hN47 n0 (Nat.le_trans Z0 le130) f126 zz6 f127 f128 hP_7 f122 f125 (uq93.ch1 hc94).2.2.1 (uq93.ch1 hc94).2.2.2.1 zz8 zz9) hZ (wd_79 hw) (wd_23 hw) (by decide) (by decide)) q137a q137c (by rw [hml]; rfl) [(.int (ii89 + (1 : Int32)))] (lenOf pd_1 rfl) rfl (Nat.le_of_eq rfl) (d36_68 hby) (fun _ _ => ⟨rfl, e135, (by decide : 2 + 0 ≤ _), (by decide : 16 + 0 ≤ _)⟩) (pq 71) ?_
    rintro _ _ ⟨T137, L137, k137, n137⟩ X137 ⟨Lc137, hQ137, l137, y137, z137⟩
    dsimp only [Pt.U, Pt.locs, Pt.cells, Pt.slots] at X137 l137 y137 z137 hQ137 ⊢
    rw [l137, y137, z137] at X137
    obtain ⟨rfl, N137q, e137⟩ := hQ137
    have N138 := Fr.app N136 N137q
    show Runs _ _ _ _ (T137.setTop (mkF m 71 _ [(.int (((gI (lowL (encK qq nn k0 k1 k2 k3)) (ii89 + (1 : Int32))) &&& (255 : Int32)).toUInt32.toUInt16.toUInt32.toInt32))]))
    rw [(uq93.ch1 hc94).2.2.2.2.1]
    refine w_static X137 hx (y := yn_57) hown (mvT hZ (wd_261 hw)) (mvT hZ (wd_262 hw)) (mvT hZ (wd_52 hw)) (mvT hZ (wd_263 hw)) (by decide) (backOf (W := 0) (rm_isesc l Z aZ hw [] kx90 hN47 n0 (Nat.le_trans Z0 le130) ) hZ (wd_263 hw) (wd_52 hw) (by decide) (by decide)) (by rw [hml]; rfl) [(.int kx90)] (lenOf pd_0 rfl) rfl (Nat.le_of_eq rfl) (d36_71 hby) (fun _ _ => ⟨rfl, e137, (by decide : 2 + 0 ≤ _), (by decide : 16 + 0 ≤ _)⟩) (pq 74) ?_
    rintro _ _ ⟨T139, L139, k139, n139⟩ X139 ⟨Lc139, hQ139, l139, y139, z139⟩
    dsimp only [Pt.U, Pt.locs, Pt.cells, Pt.slots] at X139 l139 y139 z139 hQ139 ⊢
    rw [l139, y139, z139] at X139
    obtain ⟨rfl, N139q, e139⟩ := hQ139
    have N140 := Fr.app N138 N139q
    show Runs _ _ _ _ (T139.setTop (mkF m 74 _ [(.int (escF kx90))]))
    refine w_ifY X139 hx (d36_74 hby) (feq hc94).2 (pc' := 91) (by decide) (by decide) ?_
    refine w_aloadN X139 hx (d36_91 hby) rfl rfl (pq 92) ?_
    refine w_aloadN X139 hx (d36_92 hby) rfl rfl (pq 93) ?_
    refine w_iloadN X139 hx (d36_93 hby) rfl (pq 94) ?_
    refine w_iconst X139 hx (d36_94 hby) (v := (1 : Int32)) rfl (pq 95) ?_
    refine w_iadd X139 hx (d36_95 hby) (pq 96) ?_
    obtain ⟨cq141, kq141, q141a, q141b, q141c⟩ := isOf hZ e139 f126
    refine w_virtual X139 hx (y := yn_18) (z := yn_18) hown (mvT hZ (wd_75 hw)) (mvT hZ (wd_76 hw)) (notFace_of_selects (args := #[]) (mvT hZ (wd_78 hw))) (mvT hZ (wd_78 hw)) (mvT hZ (wd_77 hw)) (by decide) (backOf (W := 1) (rm_m18_54 l Z aZ hw [] a0 (ii89 + (1 : Int32)) jj2 jj0 jj1 (lenK qq nn k0 k1 k2 k3) (lowL (encK qq nn k0 k1 k2 k3)) jj3 hN47 n0 (Nat.le_trans Z0 le130) f126 zz6 f127 f128 hP_7 f122 f125 (uq93.ch1 hc94).2.2.1 (uq93.ch1 hc94).2.2.2.1 zz8 zz9) hZ (wd_79 hw) (wd_23 hw) (by decide) (by decide)) q141a q141c (by rw [hml]; rfl) [(.int (ii89 + (1 : Int32)))] (lenOf pd_1 rfl) rfl (Nat.le_of_eq rfl) (d36_96 hby) (fun _ _ => ⟨rfl, e139, (by decide : 2 + 0 ≤ _), (by decide : 16 + 0 ≤ _)⟩) (pq 99) ?_
    rintro _ _ ⟨T141, L141, k141, n141⟩ X141 ⟨Lc141, hQ141, l141, y141, z141⟩
    dsimp only [Pt.U, Pt.locs, Pt.cells, Pt.slots] at X141 l141 y141 z141 hQ141 ⊢
    rw [l141, y141, z141] at X141
    obtain ⟨rfl, N141q, e141⟩ := hQ141
    have N142 := Fr.app N140 N141q
    show Runs _ _ _ _ (T141.setTop (mkF m 99 _ [(.int (((gI (lowL (encK qq nn k0 k1 k2 k3)) (ii89 + (1 : Int32))) &&& (255 : Int32)).toUInt32.toUInt16.toUInt32.toInt32)), (.ref b20)]))
    rw [(uq93.ch1 hc94).2.2.2.2.1]
    have f143 : Exa Z hN47 b20 kc4 := (g35_2.keep KN50)
    obtain ⟨cq144, kq144, q144a, q144b, q144c⟩ := isOf hZ e141 f143
    refine w_virtual X141 hx (y := yn_39) (z := yn_39) hown (mvT hZ (wd_173 hw)) (mvT hZ (wd_174 hw)) (notFace_of_selects (args := #[]) (mvT hZ (wd_176 hw))) (mvT hZ (wd_176 hw)) (mvT hZ (wd_175 hw)) (by decide) (backOf (W := 0) (rm_m39_67 l Z aZ hw [] b20 kx90 cj91 r0_35 c0_35 (lenK qq nn k0 k1 k2 k3) bl92 jj2 hN47 n0 (Nat.le_trans Z0 le130) fu51 f143 fu53 fu54 fu52 uq93.cap (own_k255 uq93.kc) uq93.c0 uq93.cL zz6 f127 hP_7 ge21 uq93.bll ge38) hZ (wd_177 hw) (wd_157 hw) (by decide) (by decide)) q144a q144c (by rw [hml]; rfl) [(.int kx90)] (lenOf pd_32 rfl) rfl (Nat.le_of_eq rfl) (d36_99 hby) (fun _ _ => ⟨rfl, e141, (by decide : 2 + 0 ≤ _), (by decide : 16 + 0 ≤ _)⟩) (pq 102) ?_
    rintro _ _ ⟨T144, L144, k144, n144⟩ X144 ⟨Lc144, hQ144, l144, y144, z144⟩
    dsimp only [Pt.U, Pt.locs, Pt.cells, Pt.slots] at X144 l144 y144 z144 hQ144 ⊢
    rw [l144, y144, z144] at X144
    obtain ⟨rfl, N144q, K144, g144_0, g144_1, g144_2, g144_3, g144_4⟩ := hQ144
    have N145 := Fr.app N142 N144q
    have K146 : Keep h0 T144.heap [] := K88.trans K144 (allS (Or.inr sz22) (allS (Or.inr sz39) (all0 (P := fun x => x ∈ [] ∨ h0.size ≤ x))))
    show Runs _ _ _ _ (T144.setTop (mkF m 102 _ [(.ref b20)]))
    refine w_pop X144 hx (d36_102 hby) rfl (pq 103) ?_
    refine w_iinc X144 hx (d36_103 hby) (v := (1 : Int32)) rfl rfl (L' := #[.val (.ref a0), .val (.ref b20), .val (.int (-1 : Int32)), .val (.int (ii89 + (1 : Int32))), .val (.int (92 : Int32))]) rfl (pq 106) ?_
    refine w_goto X144 hx (d36_106 hby) (pc' := 116) (by decide) (by decide) ?_
    refine w_iinc X144 hx (d36_116 hby) (v := (1 : Int32)) rfl rfl (L' := #[.val (.ref a0), .val (.ref b20), .val (.int (-1 : Int32)), .val (.int ((ii89 + (1 : Int32)) + (1 : Int32))), .val (.int (92 : Int32))]) rfl (pq 119) ?_
    refine w_goto X144 hx (d36_119 hby) (pc' := 16) (by decide) (by decide) ?_
    rw [(uq93.ch1 hc94).2.2.2.2.2]
    exact ih _ _ _ _ X144 rfl N145 (Or.inr ⟨_, rfl, rfl⟩) (KN50.trans K144 (fun _ q => Or.inl q)) (by rw [← uq93.cn]; exact g144_0) g144_3 g144_2 (by rw [← uq93.bn]; exact g144_4) (by omega)
theorem ef_m50_71 (m : MethodId) (a0 : Addr) (a1 : Addr)  : entryFrame m #[(.ref a0), (.ref a1)] 4 = mkF m 0 #[.val (.ref a0), .val (.ref a1), .unset, .unset] [] := by first | (simp [entryFrame, mkF, argsToLocals, Value.category]; done) | rfl
def Q_m50_71 (Z : State) (a0 : Addr) (a1 : Addr) (qq : Int32) (nn : Int32) (k0 : Int32) (k1 : Int32) (k2 : Int32) (k3 : Int32) (jj0 : Addr) (jj1 : ClassId) (jj2 : Int32) (jj3 : Value) (h0 : Heap) (n0 : Nat) (v : Option Value) (h : Heap) (L : List Loc) (S : Addr → Prop) : Prop := v = none ∧ Fr n0 L ∧ Keep h0 h [a0] ∧ Exa Z h a0 kc2 ∧ Fld Z h a0 kc2 "value" "Ljava/lang/String;" (.ref a1)
theorem rm_m50_71 (l : Launch) (Z : State) (aZ : Array Value) (hw : ∀ d ∈ tables_1, d.before aZ Z = true) (ws : List Jvm.Cond) (a0 : Addr) (a1 : Addr) (qq : Int32) (nn : Int32) (k0 : Int32) (k1 : Int32) (k2 : Int32) (k3 : Int32) (jj0 : Addr) (jj1 : ClassId) (jj2 : Int32) (jj3 : Value) (h0 : Heap) (n0 : Nat) (Z0 : n0 ≤ h0.size) (E_a1 : Exa Z h0 a1 kc0) (zz4 : Fld Z h0 a1 kc0 "value" "[B" (.ref jj0)) (zz5 : Arv Z h0 jj0 jj1 .byte nn (mI (lowL (cl4 nn k0 k1 k2 k3))) (.int (0 : Int32))) (hP_3 : ¬ (qq = (0 : Int32))) (hX_4 : ENC qq nn k0 k1 k2 k3) (zz6 : Sta Z Z.heap kc0 "COMPACT_STRINGS" "Z" (.int jj2)) (O0 : Old Z n0 h0) (zz7 : Fld Z h0 a1 kc0 "coder" "B" (.int (0 : Int32))) (hP_8 : ¬ (jj2 = (0 : Int32))) (zz8 : jj3.isRef = true) (zz9 : Sta Z Z.heap kc3 "SIOOBE_FORMATTER" "Ljava/util/function/BiFunction;" jj3) (E_a0 : Exa Z h0 a0 kc2) (zz10 : Fld Z h0 a0 kc2 "value" "Ljava/lang/String;" .null) (zz11 : n0 ≤ a0) :
    MetH l Z EL yn_50 prog_3_method_1_code 4 none ws ({ frames := 4, cells := 2, slots := 24, locals := 53 } : Room) #[(.ref a0), (.ref a1)] h0 (Q_m50_71 Z a0 a1 qq nn k0 k1 k2 k3 jj0 jj1 jj2 jj3 h0 n0) [] := by
 refine MetH.of (plainFor_of_name pn_1) ?_
 intro p e s m below meth c s₁ hret hx hby hml hown hnm hlk hZ X0 e0 hh hH hsf hS0 C0
 have N0 := Fr.nil n0
 rw [ef_m50_71 m a0 a1]
 refine w_aloadN X0 hx (d50_0 hby) rfl rfl (pq 1) ?_
 refine w_special X0 hx (y := yn_51) rfl hown (mvT hZ (wd_230 hw)) (mvT hZ (wd_231 hw)) (mvT hZ (wd_234 hw)) (by decide) (backOf (W := 0) (rm_m51_46 l Z aZ hw [] a0 h0 n0 Z0 ) hZ (wd_234 hw) (wd_233 hw) (by decide) (by decide)) (by rw [hml]; rfl) [] (lenOf pd_24 rfl) rfl (Nat.le_of_eq rfl) (d50_1 hby) (fun _ _ => ⟨rfl, e0, (by decide : 0 + 0 ≤ _), (by decide : 0 + 0 ≤ _)⟩) (pq 4) ?_
 rintro _ _ ⟨T20, L20, k20, n20⟩ X20 ⟨Lc20, hQ20, l20, y20, z20⟩
 dsimp only [Pt.U, Pt.locs, Pt.cells, Pt.slots] at X20 l20 y20 z20 hQ20 ⊢
 rw [l20, y20, z20] at X20
 obtain ⟨rfl, N20q, e20⟩ := hQ20
 have N21 := Fr.app N0 N20q
 show Runs _ _ _ _ (T20.setTop (mkF m 4 _ []))
 refine w_aloadN X20 hx (d50_4 hby) rfl rfl (pq 5) ?_
 obtain ⟨a22, T22, h22, k22, b22, c22, X22, e22, E22, hS22, hk22, hZ22, hown22, gE22, gC22, gV22, gA22, lt22, ltb22, A22, -, ns22, st22⟩ := ldcCH X20 hx hZ hown (wd_236 hw) (own_wS hw) e20 hS0 (Nat.le_refl _) (own_EW hw) (by simp [EL, x]) C0.1 (vs := [(.int (118 : Int32)), (.int (97 : Int32)), (.int (108 : Int32)), (.int (117 : Int32)), (.int (101 : Int32))]) (z := (5 : Int32)) (by decide +kernel) (by decide) (by decide) (g := (mkF m 5 #[.val (.ref a0), .val (.ref a1), .unset, .unset] [(.ref a1)])) rfl (d50_5 hby) (n := 20) (by decide +kernel) (by decide) (by decide) (by decide)
 refine Runs.by ?_ st22
 have C23 : CHr Z EL s.vm h0 T22.vm h22 := C0.trans A22
 have K24 : Keep h0 h22 [a0] := (Keep.refl h0 [a0]).ext E22
 show Runs _ _ _ _ (T22.setTop (mkF m 7 _ [(.ref a22), (.ref a1)]))
 refine w_static X22 hx (y := yn_14) hown22 (mvT hZ22 (wd_57 hw)) (mvT hZ22 (wd_58 hw)) (mvT hZ22 (wd_59 hw)) (mvT hZ22 (wd_60 hw)) (by decide) (backOf (W := 0) (rm_m14_2 l Z aZ hw [] a1 a22 h22 n0 (Nat.le_trans Z0 E22.1) ) hZ22 (wd_60 hw) (wd_59 hw) (by decide) (by decide)) (by rw [hml]; rfl) [(.ref a1), (.ref a22)] (lenOf pd_6 rfl) rfl (Nat.le_of_eq rfl) (d50_7 hby) (fun _ _ => ⟨rfl, e22, (by decide : 2 + 0 ≤ _), (by decide : 24 + 0 ≤ _)⟩) (pq 10) ?_
 rintro _ _ ⟨T25, L25, k25, n25⟩ X25 ⟨Lc25, hQ25, l25, y25, z25⟩
 dsimp only [Pt.U, Pt.locs, Pt.cells, Pt.slots] at X25 l25 y25 z25 hQ25 ⊢
 rw [l25, y25, z25] at X25
 obtain ⟨rfl, N25q, e25⟩ := hQ25
 have N26 := Fr.app N21 N25q
 show Runs _ _ _ _ (T25.setTop (mkF m 10 _ [(.ref a1)]))
 refine w_pop X25 hx (d50_10 hby) rfl (pq 11) ?_
 refine w_aloadN X25 hx (d50_11 hby) rfl rfl (pq 12) ?_
 have f27 : Fld Z h22 a1 kc0 "value" "[B" (.ref jj0) := (zz4.ext E22)
 have f28 : Arv Z h22 jj0 jj1 .byte nn (mI (lowL (cl4 nn k0 k1 k2 k3))) (.int (0 : Int32)) := (zz5.ext E22)
 have f30 : Exa Z h22 a1 kc0 := (E_a1.ext E22)
 obtain ⟨cq29, kq29, q29a, q29b, q29c⟩ := isOf hZ22 e25 f30
 refine w_virtual X25 hx (y := yn_52) (z := yn_52) hown22 (mvT hZ22 (wd_237 hw)) (mvT hZ22 (wd_238 hw)) (notFace_of_selects (args := #[]) (mvT hZ22 (wd_240 hw))) (mvT hZ22 (wd_240 hw)) (mvT hZ22 (wd_239 hw)) (by decide) (backOf (W := 0) (rm_m52_47 l Z aZ hw [] a1 jj0 jj1 nn (lowL (cl4 nn k0 k1 k2 k3)) h22 n0 (Nat.le_trans Z0 E22.1) f27 f28 (own_nn0 hX_4)) hZ22 (wd_241 hw) (wd_23 hw) (by decide) (by decide)) q29a q29c (by rw [hml]; rfl) [] (lenOf pd_9 rfl) rfl (Nat.le_of_eq rfl) (d50_12 hby) (fun _ _ => ⟨rfl, e25, (by decide : 2 + 0 ≤ _), (by decide : 24 + 0 ≤ _)⟩) (pq 15) ?_
 rintro _ _ ⟨T29, L29, k29, n29⟩ X29 ⟨Lc29, hQ29, l29, y29, z29⟩
 dsimp only [Pt.U, Pt.locs, Pt.cells, Pt.slots] at X29 l29 y29 z29 hQ29 ⊢
 rw [l29, y29, z29] at X29
 obtain ⟨rfl, N29q, e29⟩ := hQ29
 have N31 := Fr.app N26 N29q
 show Runs _ _ _ _ (T29.setTop (mkF m 15 _ [(.int (0 : Int32))]))
 refine w_ifN X29 hx (d50_15 hby) (teq (by decide : (0 : Int32) = (0 : Int32))).2 (pq 18) ?_
 refine w_aloadN X29 hx (d50_18 hby) rfl rfl (pq 19) ?_
 have f32 : Old Z n0 h22 := (O0.ext E22)
 have f33 : Fld Z h22 a1 kc0 "coder" "B" (.int (0 : Int32)) := (zz7.ext E22)
 obtain ⟨cq34, kq34, q34a, q34b, q34c⟩ := isOf hZ22 e29 f30
 refine w_virtual X29 hx (y := yn_16) (z := yn_16) hown22 (mvT hZ22 (wd_65 hw)) (mvT hZ22 (wd_66 hw)) (notFace_of_selects (args := #[]) (mvT hZ22 (wd_68 hw))) (mvT hZ22 (wd_68 hw)) (mvT hZ22 (wd_67 hw)) (by decide) (backOf (W := 0) (rm_m16_25 l Z aZ hw [] a1 jj0 jj1 nn (lowL (cl4 nn k0 k1 k2 k3)) jj2 h22 n0 (Nat.le_trans Z0 E22.1) f27 f28 f30 zz6 f32 f33 hP_8) hZ22 (wd_69 hw) (wd_23 hw) (by decide) (by decide)) q34a q34c (by rw [hml]; rfl) [] (lenOf pd_8 rfl) rfl (Nat.le_of_eq rfl) (d50_19 hby) (fun _ _ => ⟨rfl, e29, (by decide : 2 + 0 ≤ _), (by decide : 24 + 0 ≤ _)⟩) (pq 22) ?_
 rintro _ _ ⟨T34, L34, k34, n34⟩ X34 ⟨Lc34, hQ34, l34, y34, z34⟩
 dsimp only [Pt.U, Pt.locs, Pt.cells, Pt.slots] at X34 l34 y34 z34 hQ34 ⊢
 rw [l34, y34, z34] at X34
 obtain ⟨rfl, N34q, e34⟩ := hQ34
 have N35 := Fr.app N31 N34q
 show Runs _ _ _ _ (T34.setTop (mkF m 22 _ [(.int (nn >>> ((0 : Int32) &&& 31)))]))
 rw [own_shr0 nn]
 refine w_sipush X34 hx (d50_22 hby) (v := (255 : Int32)) rfl (pq 25) ?_
 refine w_icY X34 hx (d50_25 hby) (flt (own_nn4x hX_4 (by decide) (by decide))).2.2.2 (pc' := 45) (by decide) (by decide) ?_
 refine w_iconst X34 hx (d50_45 hby) (v := (0 : Int32)) rfl (pq 46) ?_
 refine w_istoreN X34 hx (d50_46 hby) (L' := #[.val (.ref a0), .val (.ref a1), .val (.int (0 : Int32)), .unset]) rfl (pq 47) ?_
 refine w_iloadN X34 hx (d50_47 hby) rfl (pq 48) ?_
 refine w_aloadN X34 hx (d50_48 hby) rfl rfl (pq 49) ?_
 obtain ⟨cq36, kq36, q36a, q36b, q36c⟩ := isOf hZ22 e34 f30
 refine w_virtual X34 hx (y := yn_16) (z := yn_16) hown22 (mvT hZ22 (wd_65 hw)) (mvT hZ22 (wd_66 hw)) (notFace_of_selects (args := #[]) (mvT hZ22 (wd_68 hw))) (mvT hZ22 (wd_68 hw)) (mvT hZ22 (wd_67 hw)) (by decide) (backOf (W := 1) (rm_m16_25 l Z aZ hw [] a1 jj0 jj1 nn (lowL (cl4 nn k0 k1 k2 k3)) jj2 h22 n0 (Nat.le_trans Z0 E22.1) f27 f28 f30 zz6 f32 f33 hP_8) hZ22 (wd_69 hw) (wd_23 hw) (by decide) (by decide)) q36a q36c (by rw [hml]; rfl) [] (lenOf pd_8 rfl) rfl (Nat.le_of_eq rfl) (d50_49 hby) (fun _ _ => ⟨rfl, e34, (by decide : 2 + 0 ≤ _), (by decide : 24 + 0 ≤ _)⟩) (pq 52) ?_
 rintro _ _ ⟨T36, L36, k36, n36⟩ X36 ⟨Lc36, hQ36, l36, y36, z36⟩
 dsimp only [Pt.U, Pt.locs, Pt.cells, Pt.slots] at X36 l36 y36 z36 hQ36 ⊢
 rw [l36, y36, z36] at X36
 obtain ⟨rfl, N36q, e36⟩ := hQ36
 have N37 := Fr.app N35 N36q
 show Runs _ _ _ _ (T36.setTop (mkF m 52 _ [(.int (nn >>> ((0 : Int32) &&& 31))), (.int (0 : Int32))]))
 rw [own_shr0 nn]
 refine w_icN X36 hx (d50_52 hby) (tlt (own_0nn hX_4)).2.1 (pq 55) ?_
 refine w_aloadN X36 hx (d50_55 hby) rfl rfl (pq 56) ?_
 refine w_iloadN X36 hx (d50_56 hby) rfl (pq 57) ?_
 obtain ⟨cq38, kq38, q38a, q38b, q38c⟩ := isOf hZ22 e36 f30
 refine w_virtual X36 hx (y := yn_18) (z := yn_18) hown22 (mvT hZ22 (wd_75 hw)) (mvT hZ22 (wd_76 hw)) (notFace_of_selects (args := #[]) (mvT hZ22 (wd_78 hw))) (mvT hZ22 (wd_78 hw)) (mvT hZ22 (wd_77 hw)) (by decide) (backOf (W := 0) (rm_m18_29 l Z aZ hw [] a1 jj2 jj0 jj1 nn (lowL (cl4 nn k0 k1 k2 k3)) jj3 h22 n0 (Nat.le_trans Z0 E22.1) f30 zz6 f32 f33 hP_8 f27 f28 (own_0nn hX_4) zz8 zz9) hZ22 (wd_79 hw) (wd_23 hw) (by decide) (by decide)) q38a q38c (by rw [hml]; rfl) [(.int (0 : Int32))] (lenOf pd_1 rfl) rfl (Nat.le_of_eq rfl) (d50_57 hby) (fun _ _ => ⟨rfl, e36, (by decide : 2 + 0 ≤ _), (by decide : 24 + 0 ≤ _)⟩) (pq 60) ?_
 rintro _ _ ⟨T38, L38, k38, n38⟩ X38 ⟨Lc38, hQ38, l38, y38, z38⟩
 dsimp only [Pt.U, Pt.locs, Pt.cells, Pt.slots] at X38 l38 y38 z38 hQ38 ⊢
 rw [l38, y38, z38] at X38
 obtain ⟨rfl, N38q, e38⟩ := hQ38
 have N39 := Fr.app N37 N38q
 show Runs _ _ _ _ (T38.setTop (mkF m 60 _ [(.int (((gI (lowL (cl4 nn k0 k1 k2 k3)) (0 : Int32)) &&& (255 : Int32)).toUInt32.toUInt16.toUInt32.toInt32))]))
 rw [show (((gI (lowL (cl4 nn k0 k1 k2 k3)) (0 : Int32)) &&& (255 : Int32)).toUInt32.toUInt16.toUInt32.toInt32) = k0 from own_clx0 hX_4 ]
 refine w_istoreN X38 hx (d50_60 hby) (L' := #[.val (.ref a0), .val (.ref a1), .val (.int (0 : Int32)), .val (.int k0)]) rfl (pq 61) ?_
 refine w_iloadN X38 hx (d50_61 hby) rfl (pq 62) ?_
 refine w_bipush X38 hx (d50_62 hby) (v := (32 : Int32)) rfl (pq 64) ?_
 refine w_icN X38 hx (d50_64 hby) (flt (own_eK0 hX_4).1).1 (pq 67) ?_
 refine w_iloadN X38 hx (d50_67 hby) rfl (pq 68) ?_
 refine w_bipush X38 hx (d50_68 hby) (v := (126 : Int32)) rfl (pq 70) ?_
 refine w_icY X38 hx (d50_70 hby) (flt (own_k126 (own_eK0 hX_4))).2.2.2 (pc' := 104) (by decide) (by decide) ?_
 refine w_iinc X38 hx (d50_104 hby) (v := (1 : Int32)) rfl rfl (L' := #[.val (.ref a0), .val (.ref a1), .val (.int ((0 : Int32) + (1 : Int32))), .val (.int k0)]) rfl (pq 107) ?_
 rw [show ((0 : Int32) + (1 : Int32)) = (1 : Int32) from by decide]
 refine w_goto X38 hx (d50_107 hby) (pc' := 47) (by decide) (by decide) ?_
 refine w_iloadN X38 hx (d50_47 hby) rfl (pq 48) ?_
 refine w_aloadN X38 hx (d50_48 hby) rfl rfl (pq 49) ?_
 obtain ⟨cq40, kq40, q40a, q40b, q40c⟩ := isOf hZ22 e38 f30
 refine w_virtual X38 hx (y := yn_16) (z := yn_16) hown22 (mvT hZ22 (wd_65 hw)) (mvT hZ22 (wd_66 hw)) (notFace_of_selects (args := #[]) (mvT hZ22 (wd_68 hw))) (mvT hZ22 (wd_68 hw)) (mvT hZ22 (wd_67 hw)) (by decide) (backOf (W := 1) (rm_m16_25 l Z aZ hw [] a1 jj0 jj1 nn (lowL (cl4 nn k0 k1 k2 k3)) jj2 h22 n0 (Nat.le_trans Z0 E22.1) f27 f28 f30 zz6 f32 f33 hP_8) hZ22 (wd_69 hw) (wd_23 hw) (by decide) (by decide)) q40a q40c (by rw [hml]; rfl) [] (lenOf pd_8 rfl) rfl (Nat.le_of_eq rfl) (d50_49 hby) (fun _ _ => ⟨rfl, e38, (by decide : 2 + 0 ≤ _), (by decide : 24 + 0 ≤ _)⟩) (pq 52) ?_
 rintro _ _ ⟨T40, L40, k40, n40⟩ X40 ⟨Lc40, hQ40, l40, y40, z40⟩
 dsimp only [Pt.U, Pt.locs, Pt.cells, Pt.slots] at X40 l40 y40 z40 hQ40 ⊢
 rw [l40, y40, z40] at X40
 obtain ⟨rfl, N40q, e40⟩ := hQ40
 have N41 := Fr.app N39 N40q
 show Runs _ _ _ _ (T40.setTop (mkF m 52 _ [(.int (nn >>> ((0 : Int32) &&& 31))), (.int (1 : Int32))]))
 rw [own_shr0 nn]
 by_cases hc42 : nn < (2 : Int32)
 · refine w_icY X40 hx (d50_52 hby) (flt (own_ltn hc42 (by decide))).2.1 (pc' := 110) (by decide) (by decide) ?_
   refine w_aloadN X40 hx (d50_110 hby) rfl rfl (pq 111) ?_
   refine w_aloadN X40 hx (d50_111 hby) rfl rfl (pq 112) ?_
   have f43 : Exa Z h22 a0 kc2 := (E_a0.ext E22)
   have f44 : Fld Z h22 a0 kc2 "value" "Ljava/lang/String;" .null := (zz10.ext E22)
   refine w_putF X40 hx "" hZ22 hown22 (Or.inl (wd_242 hw)) Via.refl e40 f44 f43 (Or.inr ⟨(wd_243 hw), rfl, hnm⟩) (wd_226 hw) (ty := (.object kc0)) (by decide) rfl rfl (d50_112 hby) (pq 115) ?_
   intro T45 h45 X45 e45 W45
   have C46 : CHr Z EL s.vm h0 T22.vm h45 := C23.trans (CHr.wr W45 (Safe.exa hZ22.alike f43 (by decide) (by decide)) C23.1)
   have f47 : Fld Z h45 a0 kc2 "value" "Ljava/lang/String;" (.ref a1) := f44.same W45
   have K48 : Keep h0 h45 [a0] := K24.wr W45 (Or.inl (by simp))
   have N49 := Fr.snoc X45 N41 zz11
   have f50 : Exa Z h45 a0 kc2 := (f43.wr W45)
   exact w_doneH X45 hlk (v := none) e45 hh hZ22 (own_EW hw) hS22 (Nat.le_trans hk22 (Keep.of_wr W45).1) C46 (fun _ => rfl) (fun fs hr => X45.returnOut hx hret (d50_115 hby) hr) (by decide) (by decide) (fun hsy => ⟨rfl, N49, K48, f50, f47⟩)
 · refine w_icN X40 hx (d50_52 hby) (tlt (own_gen hc42 (by decide))).2.1 (pq 55) ?_
   refine w_aloadN X40 hx (d50_55 hby) rfl rfl (pq 56) ?_
   refine w_iloadN X40 hx (d50_56 hby) rfl (pq 57) ?_
   obtain ⟨cq51, kq51, q51a, q51b, q51c⟩ := isOf hZ22 e40 f30
   refine w_virtual X40 hx (y := yn_18) (z := yn_18) hown22 (mvT hZ22 (wd_75 hw)) (mvT hZ22 (wd_76 hw)) (notFace_of_selects (args := #[]) (mvT hZ22 (wd_78 hw))) (mvT hZ22 (wd_78 hw)) (mvT hZ22 (wd_77 hw)) (by decide) (backOf (W := 0) (rm_m18_33 l Z aZ hw [] a1 jj2 jj0 jj1 nn (lowL (cl4 nn k0 k1 k2 k3)) jj3 h22 n0 (Nat.le_trans Z0 E22.1) f30 zz6 f32 f33 hP_8 f27 f28 (own_gen hc42 (by decide)) zz8 zz9) hZ22 (wd_79 hw) (wd_23 hw) (by decide) (by decide)) q51a q51c (by rw [hml]; rfl) [(.int (1 : Int32))] (lenOf pd_1 rfl) rfl (Nat.le_of_eq rfl) (d50_57 hby) (fun _ _ => ⟨rfl, e40, (by decide : 2 + 0 ≤ _), (by decide : 24 + 0 ≤ _)⟩) (pq 60) ?_
   rintro _ _ ⟨T51, L51, k51, n51⟩ X51 ⟨Lc51, hQ51, l51, y51, z51⟩
   dsimp only [Pt.U, Pt.locs, Pt.cells, Pt.slots] at X51 l51 y51 z51 hQ51 ⊢
   rw [l51, y51, z51] at X51
   obtain ⟨rfl, N51q, e51⟩ := hQ51
   have N52 := Fr.app N41 N51q
   show Runs _ _ _ _ (T51.setTop (mkF m 60 _ [(.int (((gI (lowL (cl4 nn k0 k1 k2 k3)) (1 : Int32)) &&& (255 : Int32)).toUInt32.toUInt16.toUInt32.toInt32))]))
   rw [show (((gI (lowL (cl4 nn k0 k1 k2 k3)) (1 : Int32)) &&& (255 : Int32)).toUInt32.toUInt16.toUInt32.toInt32) = k1 from own_clx1 hX_4 hc42]
   refine w_istoreN X51 hx (d50_60 hby) (L' := #[.val (.ref a0), .val (.ref a1), .val (.int (1 : Int32)), .val (.int k1)]) rfl (pq 61) ?_
   refine w_iloadN X51 hx (d50_61 hby) rfl (pq 62) ?_
   refine w_bipush X51 hx (d50_62 hby) (v := (32 : Int32)) rfl (pq 64) ?_
   refine w_icN X51 hx (d50_64 hby) (flt (own_eK1 hX_4).1).1 (pq 67) ?_
   refine w_iloadN X51 hx (d50_67 hby) rfl (pq 68) ?_
   refine w_bipush X51 hx (d50_68 hby) (v := (126 : Int32)) rfl (pq 70) ?_
   refine w_icY X51 hx (d50_70 hby) (flt (own_k126 (own_eK1 hX_4))).2.2.2 (pc' := 104) (by decide) (by decide) ?_
   refine w_iinc X51 hx (d50_104 hby) (v := (1 : Int32)) rfl rfl (L' := #[.val (.ref a0), .val (.ref a1), .val (.int ((1 : Int32) + (1 : Int32))), .val (.int k1)]) rfl (pq 107) ?_
   rw [show ((1 : Int32) + (1 : Int32)) = (2 : Int32) from by decide]
   refine w_goto X51 hx (d50_107 hby) (pc' := 47) (by decide) (by decide) ?_
   refine w_iloadN X51 hx (d50_47 hby) rfl (pq 48) ?_
   refine w_aloadN X51 hx (d50_48 hby) rfl rfl (pq 49) ?_
   obtain ⟨cq53, kq53, q53a, q53b, q53c⟩ := isOf hZ22 e51 f30
   refine w_virtual X51 hx (y := yn_16) (z := yn_16) hown22 (mvT hZ22 (wd_65 hw)) (mvT hZ22 (wd_66 hw)) (notFace_of_selects (args := #[]) (mvT hZ22 (wd_68 hw))) (mvT hZ22 (wd_68 hw)) (mvT hZ22 (wd_67 hw)) (by decide) (backOf (W := 1) (rm_m16_25 l Z aZ hw [] a1 jj0 jj1 nn (lowL (cl4 nn k0 k1 k2 k3)) jj2 h22 n0 (Nat.le_trans Z0 E22.1) f27 f28 f30 zz6 f32 f33 hP_8) hZ22 (wd_69 hw) (wd_23 hw) (by decide) (by decide)) q53a q53c (by rw [hml]; rfl) [] (lenOf pd_8 rfl) rfl (Nat.le_of_eq rfl) (d50_49 hby) (fun _ _ => ⟨rfl, e51, (by decide : 2 + 0 ≤ _), (by decide : 24 + 0 ≤ _)⟩) (pq 52) ?_
   rintro _ _ ⟨T53, L53, k53, n53⟩ X53 ⟨Lc53, hQ53, l53, y53, z53⟩
   dsimp only [Pt.U, Pt.locs, Pt.cells, Pt.slots] at X53 l53 y53 z53 hQ53 ⊢
   rw [l53, y53, z53] at X53
   obtain ⟨rfl, N53q, e53⟩ := hQ53
   have N54 := Fr.app N52 N53q
   show Runs _ _ _ _ (T53.setTop (mkF m 52 _ [(.int (nn >>> ((0 : Int32) &&& 31))), (.int (2 : Int32))]))
   rw [own_shr0 nn]
   by_cases hc55 : nn < (3 : Int32)
   · refine w_icY X53 hx (d50_52 hby) (flt (own_ltn hc55 (by decide))).2.1 (pc' := 110) (by decide) (by decide) ?_
     refine w_aloadN X53 hx (d50_110 hby) rfl rfl (pq 111) ?_
     refine w_aloadN X53 hx (d50_111 hby) rfl rfl (pq 112) ?_
     have f56 : Exa Z h22 a0 kc2 := (E_a0.ext E22)
     have f57 : Fld Z h22 a0 kc2 "value" "Ljava/lang/String;" .null := (zz10.ext E22)
     refine w_putF X53 hx "" hZ22 hown22 (Or.inl (wd_242 hw)) Via.refl e53 f57 f56 (Or.inr ⟨(wd_243 hw), rfl, hnm⟩) (wd_226 hw) (ty := (.object kc0)) (by decide) rfl rfl (d50_112 hby) (pq 115) ?_
     intro T58 h58 X58 e58 W58
     have C59 : CHr Z EL s.vm h0 T22.vm h58 := C23.trans (CHr.wr W58 (Safe.exa hZ22.alike f56 (by decide) (by decide)) C23.1)
     have f60 : Fld Z h58 a0 kc2 "value" "Ljava/lang/String;" (.ref a1) := f57.same W58
     have K61 : Keep h0 h58 [a0] := K24.wr W58 (Or.inl (by simp))
     have N62 := Fr.snoc X58 N54 zz11
     have f63 : Exa Z h58 a0 kc2 := (f56.wr W58)
     exact w_doneH X58 hlk (v := none) e58 hh hZ22 (own_EW hw) hS22 (Nat.le_trans hk22 (Keep.of_wr W58).1) C59 (fun _ => rfl) (fun fs hr => X58.returnOut hx hret (d50_115 hby) hr) (by decide) (by decide) (fun hsy => ⟨rfl, N62, K61, f63, f60⟩)
   · refine w_icN X53 hx (d50_52 hby) (tlt (own_gen hc55 (by decide))).2.1 (pq 55) ?_
     refine w_aloadN X53 hx (d50_55 hby) rfl rfl (pq 56) ?_
     refine w_iloadN X53 hx (d50_56 hby) rfl (pq 57) ?_
     obtain ⟨cq64, kq64, q64a, q64b, q64c⟩ := isOf hZ22 e53 f30
     refine w_virtual X53 hx (y := yn_18) (z := yn_18) hown22 (mvT hZ22 (wd_75 hw)) (mvT hZ22 (wd_76 hw)) (notFace_of_selects (args := #[]) (mvT hZ22 (wd_78 hw))) (mvT hZ22 (wd_78 hw)) (mvT hZ22 (wd_77 hw)) (by decide) (backOf (W := 0) (rm_m18_37 l Z aZ hw [] a1 jj2 jj0 jj1 nn (lowL (cl4 nn k0 k1 k2 k3)) jj3 h22 n0 (Nat.le_trans Z0 E22.1) f30 zz6 f32 f33 hP_8 f27 f28 (own_gen hc55 (by decide)) zz8 zz9) hZ22 (wd_79 hw) (wd_23 hw) (by decide) (by decide)) q64a q64c (by rw [hml]; rfl) [(.int (2 : Int32))] (lenOf pd_1 rfl) rfl (Nat.le_of_eq rfl) (d50_57 hby) (fun _ _ => ⟨rfl, e53, (by decide : 2 + 0 ≤ _), (by decide : 24 + 0 ≤ _)⟩) (pq 60) ?_
     rintro _ _ ⟨T64, L64, k64, n64⟩ X64 ⟨Lc64, hQ64, l64, y64, z64⟩
     dsimp only [Pt.U, Pt.locs, Pt.cells, Pt.slots] at X64 l64 y64 z64 hQ64 ⊢
     rw [l64, y64, z64] at X64
     obtain ⟨rfl, N64q, e64⟩ := hQ64
     have N65 := Fr.app N54 N64q
     show Runs _ _ _ _ (T64.setTop (mkF m 60 _ [(.int (((gI (lowL (cl4 nn k0 k1 k2 k3)) (2 : Int32)) &&& (255 : Int32)).toUInt32.toUInt16.toUInt32.toInt32))]))
     rw [show (((gI (lowL (cl4 nn k0 k1 k2 k3)) (2 : Int32)) &&& (255 : Int32)).toUInt32.toUInt16.toUInt32.toInt32) = k2 from own_clx2 hX_4 hc55]
     refine w_istoreN X64 hx (d50_60 hby) (L' := #[.val (.ref a0), .val (.ref a1), .val (.int (2 : Int32)), .val (.int k2)]) rfl (pq 61) ?_
     refine w_iloadN X64 hx (d50_61 hby) rfl (pq 62) ?_
     refine w_bipush X64 hx (d50_62 hby) (v := (32 : Int32)) rfl (pq 64) ?_
     refine w_icN X64 hx (d50_64 hby) (flt (own_eK2 hX_4).1).1 (pq 67) ?_
     refine w_iloadN X64 hx (d50_67 hby) rfl (pq 68) ?_
     refine w_bipush X64 hx (d50_68 hby) (v := (126 : Int32)) rfl (pq 70) ?_
     refine w_icY X64 hx (d50_70 hby) (flt (own_k126 (own_eK2 hX_4))).2.2.2 (pc' := 104) (by decide) (by decide) ?_
     refine w_iinc X64 hx (d50_104 hby) (v := (1 : Int32)) rfl rfl (L' := #[.val (.ref a0), .val (.ref a1), .val (.int ((2 : Int32) + (1 : Int32))), .val (.int k2)]) rfl (pq 107) ?_
     rw [show ((2 : Int32) + (1 : Int32)) = (3 : Int32) from by decide]
     refine w_goto X64 hx (d50_107 hby) (pc' := 47) (by decide) (by decide) ?_
     refine w_iloadN X64 hx (d50_47 hby) rfl (pq 48) ?_
     refine w_aloadN X64 hx (d50_48 hby) rfl rfl (pq 49) ?_
     obtain ⟨cq66, kq66, q66a, q66b, q66c⟩ := isOf hZ22 e64 f30
     refine w_virtual X64 hx (y := yn_16) (z := yn_16) hown22 (mvT hZ22 (wd_65 hw)) (mvT hZ22 (wd_66 hw)) (notFace_of_selects (args := #[]) (mvT hZ22 (wd_68 hw))) (mvT hZ22 (wd_68 hw)) (mvT hZ22 (wd_67 hw)) (by decide) (backOf (W := 1) (rm_m16_25 l Z aZ hw [] a1 jj0 jj1 nn (lowL (cl4 nn k0 k1 k2 k3)) jj2 h22 n0 (Nat.le_trans Z0 E22.1) f27 f28 f30 zz6 f32 f33 hP_8) hZ22 (wd_69 hw) (wd_23 hw) (by decide) (by decide)) q66a q66c (by rw [hml]; rfl) [] (lenOf pd_8 rfl) rfl (Nat.le_of_eq rfl) (d50_49 hby) (fun _ _ => ⟨rfl, e64, (by decide : 2 + 0 ≤ _), (by decide : 24 + 0 ≤ _)⟩) (pq 52) ?_
     rintro _ _ ⟨T66, L66, k66, n66⟩ X66 ⟨Lc66, hQ66, l66, y66, z66⟩
     dsimp only [Pt.U, Pt.locs, Pt.cells, Pt.slots] at X66 l66 y66 z66 hQ66 ⊢
     rw [l66, y66, z66] at X66
     obtain ⟨rfl, N66q, e66⟩ := hQ66
     have N67 := Fr.app N65 N66q
     show Runs _ _ _ _ (T66.setTop (mkF m 52 _ [(.int (nn >>> ((0 : Int32) &&& 31))), (.int (3 : Int32))]))
     rw [own_shr0 nn]
     by_cases hc68 : nn < (4 : Int32)
     · refine w_icY X66 hx (d50_52 hby) (flt (own_ltn hc68 (by decide))).2.1 (pc' := 110) (by decide) (by decide) ?_
       refine w_aloadN X66 hx (d50_110 hby) rfl rfl (pq 111) ?_
       refine w_aloadN X66 hx (d50_111 hby) rfl rfl (pq 112) ?_
       have f69 : Exa Z h22 a0 kc2 := (E_a0.ext E22)
       have f70 : Fld Z h22 a0 kc2 "value" "Ljava/lang/String;" .null := (zz10.ext E22)
       refine w_putF X66 hx "" hZ22 hown22 (Or.inl (wd_242 hw)) Via.refl e66 f70 f69 (Or.inr ⟨(wd_243 hw), rfl, hnm⟩) (wd_226 hw) (ty := (.object kc0)) (by decide) rfl rfl (d50_112 hby) (pq 115) ?_
       intro T71 h71 X71 e71 W71
       have C72 : CHr Z EL s.vm h0 T22.vm h71 := C23.trans (CHr.wr W71 (Safe.exa hZ22.alike f69 (by decide) (by decide)) C23.1)
       have f73 : Fld Z h71 a0 kc2 "value" "Ljava/lang/String;" (.ref a1) := f70.same W71
       have K74 : Keep h0 h71 [a0] := K24.wr W71 (Or.inl (by simp))
       have N75 := Fr.snoc X71 N67 zz11
       have f76 : Exa Z h71 a0 kc2 := (f69.wr W71)
       exact w_doneH X71 hlk (v := none) e71 hh hZ22 (own_EW hw) hS22 (Nat.le_trans hk22 (Keep.of_wr W71).1) C72 (fun _ => rfl) (fun fs hr => X71.returnOut hx hret (d50_115 hby) hr) (by decide) (by decide) (fun hsy => ⟨rfl, N75, K74, f76, f73⟩)
     · refine w_icN X66 hx (d50_52 hby) (tlt (own_gen hc68 (by decide))).2.1 (pq 55) ?_
       refine w_aloadN X66 hx (d50_55 hby) rfl rfl (pq 56) ?_
       refine w_iloadN X66 hx (d50_56 hby) rfl (pq 57) ?_
       obtain ⟨cq77, kq77, q77a, q77b, q77c⟩ := isOf hZ22 e66 f30
       refine w_virtual X66 hx (y := yn_18) (z := yn_18) hown22 (mvT hZ22 (wd_75 hw)) (mvT hZ22 (wd_76 hw)) (notFace_of_selects (args := #[]) (mvT hZ22 (wd_78 hw))) (mvT hZ22 (wd_78 hw)) (mvT hZ22 (wd_77 hw)) (by decide) (backOf (W := 0) (rm_m18_41 l Z aZ hw [] a1 jj2 jj0 jj1 nn (lowL (cl4 nn k0 k1 k2 k3)) jj3 h22 n0 (Nat.le_trans Z0 E22.1) f30 zz6 f32 f33 hP_8 f27 f28 (own_gen hc68 (by decide)) zz8 zz9) hZ22 (wd_79 hw) (wd_23 hw) (by decide) (by decide)) q77a q77c (by rw [hml]; rfl) [(.int (3 : Int32))] (lenOf pd_1 rfl) rfl (Nat.le_of_eq rfl) (d50_57 hby) (fun _ _ => ⟨rfl, e66, (by decide : 2 + 0 ≤ _), (by decide : 24 + 0 ≤ _)⟩) (pq 60) ?_
       rintro _ _ ⟨T77, L77, k77, n77⟩ X77 ⟨Lc77, hQ77, l77, y77, z77⟩
       dsimp only [Pt.U, Pt.locs, Pt.cells, Pt.slots] at X77 l77 y77 z77 hQ77 ⊢
       rw [l77, y77, z77] at X77
       obtain ⟨rfl, N77q, e77⟩ := hQ77
       have N78 := Fr.app N67 N77q
       show Runs _ _ _ _ (T77.setTop (mkF m 60 _ [(.int (((gI (lowL (cl4 nn k0 k1 k2 k3)) (3 : Int32)) &&& (255 : Int32)).toUInt32.toUInt16.toUInt32.toInt32))]))
       rw [show (((gI (lowL (cl4 nn k0 k1 k2 k3)) (3 : Int32)) &&& (255 : Int32)).toUInt32.toUInt16.toUInt32.toInt32) = k3 from own_clx3 hX_4 hc68]
       refine w_istoreN X77 hx (d50_60 hby) (L' := #[.val (.ref a0), .val (.ref a1), .val (.int (3 : Int32)), .val (.int k3)]) rfl (pq 61) ?_
       refine w_iloadN X77 hx (d50_61 hby) rfl (pq 62) ?_
       refine w_bipush X77 hx (d50_62 hby) (v := (32 : Int32)) rfl (pq 64) ?_
       refine w_icN X77 hx (d50_64 hby) (flt (own_eK3 hX_4).1).1 (pq 67) ?_
       refine w_iloadN X77 hx (d50_67 hby) rfl (pq 68) ?_
       refine w_bipush X77 hx (d50_68 hby) (v := (126 : Int32)) rfl (pq 70) ?_
       refine w_icY X77 hx (d50_70 hby) (flt (own_k126 (own_eK3 hX_4))).2.2.2 (pc' := 104) (by decide) (by decide) ?_
       refine w_iinc X77 hx (d50_104 hby) (v := (1 : Int32)) rfl rfl (L' := #[.val (.ref a0), .val (.ref a1), .val (.int ((3 : Int32) + (1 : Int32))), .val (.int k3)]) rfl (pq 107) ?_
       rw [show ((3 : Int32) + (1 : Int32)) = (4 : Int32) from by decide]
       refine w_goto X77 hx (d50_107 hby) (pc' := 47) (by decide) (by decide) ?_
       refine w_iloadN X77 hx (d50_47 hby) rfl (pq 48) ?_
       refine w_aloadN X77 hx (d50_48 hby) rfl rfl (pq 49) ?_
       obtain ⟨cq79, kq79, q79a, q79b, q79c⟩ := isOf hZ22 e77 f30
       refine w_virtual X77 hx (y := yn_16) (z := yn_16) hown22 (mvT hZ22 (wd_65 hw)) (mvT hZ22 (wd_66 hw)) (notFace_of_selects (args := #[]) (mvT hZ22 (wd_68 hw))) (mvT hZ22 (wd_68 hw)) (mvT hZ22 (wd_67 hw)) (by decide) (backOf (W := 1) (rm_m16_25 l Z aZ hw [] a1 jj0 jj1 nn (lowL (cl4 nn k0 k1 k2 k3)) jj2 h22 n0 (Nat.le_trans Z0 E22.1) f27 f28 f30 zz6 f32 f33 hP_8) hZ22 (wd_69 hw) (wd_23 hw) (by decide) (by decide)) q79a q79c (by rw [hml]; rfl) [] (lenOf pd_8 rfl) rfl (Nat.le_of_eq rfl) (d50_49 hby) (fun _ _ => ⟨rfl, e77, (by decide : 2 + 0 ≤ _), (by decide : 24 + 0 ≤ _)⟩) (pq 52) ?_
       rintro _ _ ⟨T79, L79, k79, n79⟩ X79 ⟨Lc79, hQ79, l79, y79, z79⟩
       dsimp only [Pt.U, Pt.locs, Pt.cells, Pt.slots] at X79 l79 y79 z79 hQ79 ⊢
       rw [l79, y79, z79] at X79
       obtain ⟨rfl, N79q, e79⟩ := hQ79
       have N80 := Fr.app N78 N79q
       show Runs _ _ _ _ (T79.setTop (mkF m 52 _ [(.int (nn >>> ((0 : Int32) &&& 31))), (.int (4 : Int32))]))
       rw [own_shr0 nn]
       refine w_icY X79 hx (d50_52 hby) (flt (own_nn4x hX_4 (by decide) (by decide))).2.1 (pc' := 110) (by decide) (by decide) ?_
       refine w_aloadN X79 hx (d50_110 hby) rfl rfl (pq 111) ?_
       refine w_aloadN X79 hx (d50_111 hby) rfl rfl (pq 112) ?_
       have f81 : Exa Z h22 a0 kc2 := (E_a0.ext E22)
       have f82 : Fld Z h22 a0 kc2 "value" "Ljava/lang/String;" .null := (zz10.ext E22)
       refine w_putF X79 hx "" hZ22 hown22 (Or.inl (wd_242 hw)) Via.refl e79 f82 f81 (Or.inr ⟨(wd_243 hw), rfl, hnm⟩) (wd_226 hw) (ty := (.object kc0)) (by decide) rfl rfl (d50_112 hby) (pq 115) ?_
       intro T83 h83 X83 e83 W83
       have C84 : CHr Z EL s.vm h0 T22.vm h83 := C23.trans (CHr.wr W83 (Safe.exa hZ22.alike f81 (by decide) (by decide)) C23.1)
       have f85 : Fld Z h83 a0 kc2 "value" "Ljava/lang/String;" (.ref a1) := f82.same W83
       have K86 : Keep h0 h83 [a0] := K24.wr W83 (Or.inl (by simp))
       have N87 := Fr.snoc X83 N80 zz11
       have f88 : Exa Z h83 a0 kc2 := (f81.wr W83)
       exact w_doneH X83 hlk (v := none) e83 hh hZ22 (own_EW hw) hS22 (Nat.le_trans hk22 (Keep.of_wr W83).1) C84 (fun _ => rfl) (fun fs hr => X83.returnOut hx hret (d50_115 hby) hr) (by decide) (by decide) (fun hsy => ⟨rfl, N87, K86, f88, f85⟩)
theorem ef_m13_1 (m : MethodId) (a0 : Addr)  : entryFrame m #[(.ref a0)] 3 = mkF m 0 #[.val (.ref a0), .unset, .unset] [] := by first | (simp [entryFrame, mkF, argsToLocals, Value.category]; done) | rfl
def Q_m13_1 (Z : State) (a0 : Addr) (qq : Int32) (nn : Int32) (k0 : Int32) (k1 : Int32) (k2 : Int32) (k3 : Int32) (jj0 : Addr) (jj1 : ClassId) (jj2 : List Int32) (jj3 : Int32) (jj4 : Value) (h0 : Heap) (n0 : Nat) (v : Option Value) (h : Heap) (L : List Loc) (S : Addr → Prop) : Prop := ∃ (r : Addr) (s : Addr) (t : Addr) (kb : ClassId), v = some (.ref r) ∧ Fr n0 L ∧ Keep h0 h [] ∧ h0.size ≤ r ∧ Exa Z h r kc2 ∧ Fld Z h r kc2 "value" "Ljava/lang/String;" (.ref s) ∧ h0.size ≤ s ∧ Exa Z h s kc0 ∧ Fld Z h s kc0 "coder" "B" (.int (0 : Int32)) ∧ Fld Z h s kc0 "value" "[B" (.ref t) ∧ h0.size ≤ t ∧ Arv Z h t kb .byte nn (mI (lowL (cl4 nn k0 k1 k2 k3))) (.int (0 : Int32))
theorem rm_m13_1 (l : Launch) (Z : State) (aZ : Array Value) (hw : ∀ d ∈ tables_1, d.before aZ Z = true) (ws : List Jvm.Cond) (a0 : Addr) (qq : Int32) (nn : Int32) (k0 : Int32) (k1 : Int32) (k2 : Int32) (k3 : Int32) (jj0 : Addr) (jj1 : ClassId) (jj2 : List Int32) (jj3 : Int32) (jj4 : Value) (h0 : Heap) (n0 : Nat) (Z0 : n0 ≤ h0.size) (E_a0 : Exa Z h0 a0 kc0) (zz5 : Fld Z h0 a0 kc0 "value" "[B" (.ref jj0)) (zz6 : Arv Z h0 jj0 jj1 .byte (12 : Int32) (mI jj2) (.int (0 : Int32))) (zz7 : Fld Z h0 a0 kc0 "coder" "B" (.int (0 : Int32))) (zz8 : Sta Z Z.heap kc0 "COMPACT_STRINGS" "Z" (.int jj3)) (O0 : Old Z n0 h0) (zz9 : jj4.isRef = true) (zz10 : Sta Z Z.heap kc3 "SIOOBE_FORMATTER" "Ljava/util/function/BiFunction;" jj4) (hX_8 : TRI jj2 (encK qq nn k0 k1 k2 k3)) (hP_9 : ¬ (jj3 = (0 : Int32))) (zz11 : jj2.length = ((12 : Int32)).toNatClampNeg) (zz12 : ENC qq nn k0 k1 k2 k3) :
    MetH l Z EL yn_13 prog_3_method_2_code 3 (some (.object kc2)) ws ({ frames := 7, cells := 13, slots := 125, locals := 107 } : Room) #[(.ref a0)] h0 (Q_m13_1 Z a0 qq nn k0 k1 k2 k3 jj0 jj1 jj2 jj3 jj4 h0 n0) [] := by
 refine MetH.of (plainFor_of_name pn_1) ?_
 intro p e s m below meth c s₁ hret hx hby hml hown hnm hlk hZ X0 e0 hh hH hsf hS0 C0
 have N0 := Fr.nil n0
 rw [ef_m13_1 m a0]
 refine w_aloadN X0 hx (d13_0 hby) rfl rfl (pq 1) ?_
 obtain ⟨a20, T20, h20, k20, b20, c20, X20, e20, E20, hS20, hk20, hZ20, hown20, gE20, gC20, gV20, gA20, lt20, ltb20, A20, -, ns20, st20⟩ := ldcCH X0 hx hZ hown (wd_54 hw) (own_wS hw) e0 hS0 (Nat.le_refl _) (own_EW hw) (by simp [EL, x]) C0.1 (vs := [(.int (102 : Int32)), (.int (105 : Int32)), (.int (101 : Int32)), (.int (108 : Int32)), (.int (100 : Int32)), (.int (86 : Int32)), (.int (97 : Int32)), (.int (108 : Int32)), (.int (117 : Int32)), (.int (101 : Int32))]) (z := (10 : Int32)) (by decide +kernel) (by decide) (by decide) (g := (mkF m 1 #[.val (.ref a0), .unset, .unset] [(.ref a0)])) rfl (d13_1 hby) (n := 40) (by decide +kernel) (by decide) (by decide) (by decide)
 refine Runs.by ?_ st20
 have C21 : CHr Z EL s.vm h0 T20.vm h20 := C0.trans A20
 have K22 : Keep h0 h20 [] := (Keep.refl h0 []).ext E20
 show Runs _ _ _ _ (T20.setTop (mkF m 3 _ [(.ref a20), (.ref a0)]))
 refine w_static X20 hx (y := yn_14) hown20 (mvT hZ20 (wd_57 hw)) (mvT hZ20 (wd_58 hw)) (mvT hZ20 (wd_59 hw)) (mvT hZ20 (wd_60 hw)) (by decide) (backOf (W := 0) (rm_m14_2 l Z aZ hw [] a0 a20 h20 n0 (Nat.le_trans Z0 E20.1) ) hZ20 (wd_60 hw) (wd_59 hw) (by decide) (by decide)) (by rw [hml]; rfl) [(.ref a0), (.ref a20)] (lenOf pd_6 rfl) rfl (Nat.le_of_eq rfl) (d13_3 hby) (fun _ _ => ⟨rfl, e20, (by decide : 2 + 0 ≤ _), (by decide : 44 + 0 ≤ _)⟩) (pq 6) ?_
 rintro _ _ ⟨T23, L23, k23, n23⟩ X23 ⟨Lc23, hQ23, l23, y23, z23⟩
 dsimp only [Pt.U, Pt.locs, Pt.cells, Pt.slots] at X23 l23 y23 z23 hQ23 ⊢
 rw [l23, y23, z23] at X23
 obtain ⟨rfl, N23q, e23⟩ := hQ23
 have N24 := Fr.app N0 N23q
 show Runs _ _ _ _ (T23.setTop (mkF m 6 _ [(.ref a0)]))
 have f25 : Exa Z h20 a0 kc0 := (E_a0.ext E20)
 refine w_castY X23 hx hZ20 hown20 (wd_61 hw) e23 (Ins.self f25) (d13_6 hby) (pq 9) ?_
 intro T26 X26 e26
 have f27 : Fld Z h20 a0 kc0 "value" "[B" (.ref jj0) := (zz5.ext E20)
 have f28 : Arv Z h20 jj0 jj1 .byte (12 : Int32) (mI jj2) (.int (0 : Int32)) := (zz6.ext E20)
 have f29 : Fld Z h20 a0 kc0 "coder" "B" (.int (0 : Int32)) := (zz7.ext E20)
 have f30 : Old Z n0 h20 := (O0.ext E20)
 refine w_static X26 hx (y := yn_15) hown20 (mvT hZ20 (wd_62 hw)) (mvT hZ20 (wd_63 hw)) (mvT hZ20 (wd_52 hw)) (mvT hZ20 (wd_64 hw)) (by decide) (backOf (W := 0) (rm_m15_3 l Z aZ hw [] a0 qq nn k0 k1 k2 k3 jj0 jj1 jj2 jj3 jj4 h20 n0 (Nat.le_trans Z0 E20.1) f27 f28 hX_8 f25 f29 zz8 f30 hP_9 zz9 zz10 zz11) hZ20 (wd_64 hw) (wd_52 hw) (by decide) (by decide)) (by rw [hml]; rfl) [(.ref a0)] (lenOf pd_20 rfl) rfl (Nat.le_of_eq rfl) (d13_9 hby) (fun _ _ => ⟨rfl, e26, (by decide : 2 + 2 ≤ _), (by decide : 44 + 16 ≤ _)⟩) (pq 12) ?_
 rintro _ _ ⟨T31, L31, k31, n31⟩ X31 ⟨Lc31, hQ31, l31, y31, z31⟩
 dsimp only [Pt.U, Pt.locs, Pt.cells, Pt.slots] at X31 l31 y31 z31 hQ31 ⊢
 rw [l31, y31, z31] at X31
 obtain ⟨r_31, t_31, kb_31, rfl, N31q, K31, g31_0, g31_1, g31_2, g31_3, g31_4, g31_5⟩ := hQ31
 have N32 := Fr.app N24 N31q
 have C33 : CHr Z EL s.vm h0 T20.vm T31.heap := C21.trans (CHr.keep K31 sf0 C21.1)
 have K34 : Keep h0 T31.heap [] := K22.trans K31 (all0 (P := fun x => x ∈ [] ∨ h0.size ≤ x))
 have ge35 : n0 ≤ r_31 := Nat.le_trans (Nat.le_trans Z0 E20.1) g31_0
 have sz36 : h0.size ≤ r_31 := Nat.le_trans E20.1 g31_0
 have ge37 : n0 ≤ t_31 := Nat.le_trans (Nat.le_trans Z0 E20.1) g31_4
 have sz38 : h0.size ≤ t_31 := Nat.le_trans E20.1 g31_4
 show Runs _ _ _ _ (T31.setTop (mkF m 12 _ [(.ref r_31)]))
 refine w_astoreN X31 hx (d13_12 hby) rfl (L' := #[.val (.ref a0), .val (.ref r_31), .unset]) rfl (pq 13) ?_
 by_cases hc39 : qq = (0 : Int32)
 · refine w_aloadN X31 hx (d13_13 hby) rfl rfl (pq 14) ?_
   obtain ⟨a40, T40, h40, k40, b40, c40, X40, e40, E40, hS40, hk40, hZ40, hown40, gE40, gC40, gV40, gA40, lt40, ltb40, A40, -, ns40, st40⟩ := ldcCH X31 hx hZ20 hown20 (wd_137 hw) (own_wS hw) rfl hS20 (Nat.le_trans hk20 K31.1) (own_EW hw) (by simp [EL, x]) C33.1 (vs := [(.int (34 : Int32))]) (z := (1 : Int32)) (by decide +kernel) (by decide) (by decide) (g := (mkF m 14 #[.val (.ref a0), .val (.ref r_31), .unset] [(.ref r_31)])) rfl (d13_14 hby) (n := 4) (by decide +kernel) (by decide) (by decide) (by decide)
   refine Runs.by ?_ st40
   have C41 : CHr Z EL s.vm h0 T40.vm h40 := C33.trans A40
   have K42 : Keep h0 h40 [] := K34.ext E40
   show Runs _ _ _ _ (T40.setTop (mkF m 16 _ [(.ref a40), (.ref r_31)]))
   have f43 : Exa Z h40 r_31 kc0 := (g31_1.ext E40)
   have f44 : Fld Z h40 r_31 kc0 "value" "[B" (.ref t_31) := (g31_3.ext E40)
   have f45 : Arv Z h40 t_31 kb_31 .byte (lenK qq nn k0 k1 k2 k3) (mI (lowL (encK qq nn k0 k1 k2 k3))) (.int (0 : Int32)) := (g31_5.ext E40)
   have f46 : Fld Z h40 r_31 kc0 "coder" "B" (.int (0 : Int32)) := (g31_2.ext E40)
   have f47 : Old Z n0 h40 := ((f30.keep K31 all0).ext E40)
   have le48 : h0.size ≤ T31.heap.size := (Nat.le_trans E20.1 K31.1)
   have le49 : h0.size ≤ h40.size := (Nat.le_trans le48 E40.1)
   obtain ⟨cq50, kq50, q50a, q50b, q50c⟩ := isOf hZ40 e40 f43
   refine w_virtual X40 hx (y := yn_33) (z := yn_33) hown40 (mvT hZ40 (wd_138 hw)) (mvT hZ40 (wd_139 hw)) (notFace_of_selects (args := #[]) (mvT hZ40 (wd_141 hw))) (mvT hZ40 (wd_141 hw)) (mvT hZ40 (wd_140 hw)) (by decide) (backOf (W := 0) (rm_m33_23 l Z aZ hw [] r_31 a40 t_31 kb_31 (lenK qq nn k0 k1 k2 k3) (lowL (encK qq nn k0 k1 k2 k3)) b40 c40 jj3 h40 n0 (Nat.le_trans Z0 le49) f43 f44 f45 f46 gE40 gV40 gA40 gC40 (own_sw1 zz12) (own_ln0 zz12) (own_swB zz12 hc39) zz8 f47 hP_9) hZ40 (wd_142 hw) (wd_23 hw) (by decide) (by decide)) q50a q50c (by rw [hml]; rfl) [(.ref a40)] (lenOf pd_23 rfl) rfl (Nat.le_of_eq rfl) (d13_16 hby) (fun _ _ => ⟨rfl, e40, (by decide : 6 + 0 ≤ _), (by decide : 68 + 0 ≤ _)⟩) (pq 19) ?_
   rintro _ _ ⟨T50, L50, k50, n50⟩ X50 ⟨Lc50, hQ50, l50, y50, z50⟩
   dsimp only [Pt.U, Pt.locs, Pt.cells, Pt.slots] at X50 l50 y50 z50 hQ50 ⊢
   rw [l50, y50, z50] at X50
   obtain ⟨rfl, N50q, e50⟩ := hQ50
   have N51 := Fr.app N32 N50q
   show Runs _ _ _ _ (T50.setTop (mkF m 19 _ [(.int (0 : Int32))]))
   refine w_ifY X50 hx (d13_19 hby) (teq (by decide : (0 : Int32) = (0 : Int32))).1 (pc' := 30) (by decide) (by decide) ?_
   refine w_aloadN X50 hx (d13_30 hby) rfl rfl (pq 31) ?_
   refine w_static X50 hx (y := yn_56) hown40 (mvT hZ40 (wd_258 hw)) (mvT hZ40 (wd_259 hw)) (mvT hZ40 (wd_52 hw)) (mvT hZ40 (wd_260 hw)) (by decide) (backOf (W := 0) (rm_m56_28 l Z aZ hw [] r_31 qq nn k0 k1 k2 k3 t_31 kb_31 jj3 jj4 h40 n0 (Nat.le_trans Z0 le49) f43 f44 f45 zz8 f47 f46 hc39 hP_9 zz12 zz9 zz10) hZ40 (wd_260 hw) (wd_52 hw) (by decide) (by decide)) (by rw [hml]; rfl) [(.ref r_31)] (lenOf pd_20 rfl) rfl (Nat.le_of_eq rfl) (d13_31 hby) (fun _ _ => ⟨rfl, e50, (by decide : 6 + 0 ≤ _), (by decide : 68 + 0 ≤ _)⟩) (pq 34) ?_
   rintro _ _ ⟨T52, L52, k52, n52⟩ X52 ⟨Lc52, hQ52, l52, y52, z52⟩
   dsimp only [Pt.U, Pt.locs, Pt.cells, Pt.slots] at X52 l52 y52 z52 hQ52 ⊢
   rw [l52, y52, z52] at X52
   obtain ⟨rfl, N52q, e52⟩ := hQ52
   have N53 := Fr.app N51 N52q
   show Runs _ _ _ _ (T52.setTop (mkF m 34 _ [(.ref r_31)]))
   refine w_astoreN X52 hx (d13_34 hby) rfl (L' := #[.val (.ref a0), .val (.ref r_31), .val (.ref r_31)]) rfl (pq 35) ?_
   have V54 : Arv Z h40 t_31 kb_31 .byte nn (mI (lowL (cl4 nn k0 k1 k2 k3))) (.int (0 : Int32)) := by have z := f45; rw [own_encB hc39, own_lenB zz12 hc39] at z; exact z
   refine w_new X52 hx hZ40 hown40 (wd_225 hw) (wd_226 hw) (wd_52 hw) e52 (d13_35 hby) (by decide) (by decide) (pq 38) ?_
   intro T55 h55 b55 X55 e55 E55 g55 A55 D55
   have ge56 : n0 ≤ b55 := Nat.le_trans (Nat.le_trans Z0 le49) (Nat.le_of_eq g55.symm)
   have sz57 : h0.size ≤ b55 := Nat.le_trans le49 (Nat.le_of_eq g55.symm)
   have C58 : CHr Z EL s.vm h0 T40.vm h55 := C41.trans (CHr.ext E55 C41.1)
   have K59 : Keep h0 h55 [] := K42.ext E55
   have f60 : Fld Z h55 b55 kc2 "value" "Ljava/lang/String;" .null := D55 (Or.inr (wd_243 hw)) (ty := (.object kc0)) (by decide)
   refine w_dup X55 hx (d13_38 hby) rfl (pq 39) ?_
   refine w_aloadN X55 hx (d13_39 hby) rfl rfl (pq 40) ?_
   have f61 : Exa Z h55 r_31 kc0 := (f43.ext E55)
   have f62 : Fld Z h55 r_31 kc0 "value" "[B" (.ref t_31) := (f44.ext E55)
   have f63 : Arv Z h55 t_31 kb_31 .byte nn (mI (lowL (cl4 nn k0 k1 k2 k3))) (.int (0 : Int32)) := (V54.ext E55)
   have f64 : Old Z n0 h55 := (f47.ext E55)
   have f65 : Fld Z h55 r_31 kc0 "coder" "B" (.int (0 : Int32)) := (f46.ext E55)
   have le66 : h0.size ≤ h55.size := (Nat.le_trans le49 E55.1)
   refine w_specialS X55 hx (y := yn_50) rfl hown40 (mvT hZ40 (wd_227 hw)) (mvT hZ40 (wd_228 hw)) (mvT hZ40 (wd_229 hw)) (by decide) (backOfY (W := 1) (rm_m50_46 l Z aZ hw [] b55 r_31 qq nn k0 k1 k2 k3 t_31 kb_31 jj3 jj4 h55 n0 (Nat.le_trans Z0 le66) f61 f62 f63 hc39 zz12 zz8 f64 f65 hP_9 zz9 zz10 A55 f60 ge56) hZ40 (wd_229 hw) (wd_52 hw) (by decide) (by decide) (own_EW hw) C58.1 sf0 all0) (by rw [hml]; rfl) [(.ref r_31)] (lenOf pd_25 rfl) rfl (Nat.le_of_eq rfl) (d13_40 hby) (fun _ _ => ⟨rfl, e55, (by decide : 7 + 2 ≤ _), (by decide : 69 + 24 ≤ _)⟩) (pq 43) ?_
   rintro _ _ ⟨T67, L67, k67, n67⟩ XX67 hSS67 hg67 ⟨Lc67, hQ67, l67, y67, z67, A67⟩
   dsimp only [Pt.U, Pt.locs, Pt.cells, Pt.slots] at XX67 l67 y67 z67 hQ67 hSS67 hg67 A67 ⊢
   rw [l67, y67, z67] at XX67
   obtain ⟨X67, hS67, hZ67, hown67⟩ := rebS hS40 (Nat.le_trans hk40 E55.1) XX67 hSS67 (e55 ▸ hg67) hZ40 hown40
   obtain ⟨rfl, N67q, K67, g67_0, g67_1⟩ := hQ67
   have N68 := Fr.app N53 N67q
   have C69 : CHr Z EL s.vm h0 T67.vm T67.heap := C58.trans A67
   have K70 : Keep h0 T67.heap [] := K59.trans K67 (allS (Or.inr sz57) (all0 (P := fun x => x ∈ [] ∨ h0.size ≤ x)))
   show Runs _ _ _ _ (T67.setTop (mkF m 43 _ [(.ref b55)]))
   have f71 : Exa Z T67.heap r_31 kc0 := (f61.keep K67)
   have ne72 : r_31 ≠ b55 := (Nat.ne_of_lt (Nat.lt_of_lt_of_le g31_1.lt (Nat.le_trans E40.1 (Nat.le_of_eq g55.symm))))
   have f73 : Fld Z T67.heap r_31 kc0 "coder" "B" (.int (0 : Int32)) := (f65.keep K67 (ninS ne72 nin0))
   have f74 : Fld Z T67.heap r_31 kc0 "value" "[B" (.ref t_31) := (f62.keep K67 (ninS ne72 nin0))
   have ne75 : t_31 ≠ b55 := (Nat.ne_of_lt (Nat.lt_of_lt_of_le g31_5.lt (Nat.le_trans E40.1 (Nat.le_of_eq g55.symm))))
   have f76 : Arv Z T67.heap t_31 kb_31 .byte nn (mI (lowL (cl4 nn k0 k1 k2 k3))) (.int (0 : Int32)) := (f63.keep K67 (ninS ne75 nin0))
   exact w_doneH X67 hlk (v := some (.ref b55)) rfl hh hZ67 (own_EW hw) hS67 (Nat.le_refl _) C69 (fun h => by rw [hret] at h; cases h) (fun fs hr => retOut X67 hx hret rfl (Or.inr (Or.inr (Or.inr (Or.inr ⟨rfl, rfl, rfl⟩)))) (d13_43 hby) hr) (by decide) (by decide) (fun hsy => ⟨b55, r_31, t_31, kb_31, rfl, N68, K70, sz57, g67_0, g67_1, sz36, f71, f73, f74, sz38, f76⟩)
 · refine w_aloadN X31 hx (d13_13 hby) rfl rfl (pq 14) ?_
   obtain ⟨a77, T77, h77, k77, b77, c77, X77, e77, E77, hS77, hk77, hZ77, hown77, gE77, gC77, gV77, gA77, lt77, ltb77, A77, -, ns77, st77⟩ := ldcCH X31 hx hZ20 hown20 (wd_137 hw) (own_wS hw) rfl hS20 (Nat.le_trans hk20 K31.1) (own_EW hw) (by simp [EL, x]) C33.1 (vs := [(.int (34 : Int32))]) (z := (1 : Int32)) (by decide +kernel) (by decide) (by decide) (g := (mkF m 14 #[.val (.ref a0), .val (.ref r_31), .unset] [(.ref r_31)])) rfl (d13_14 hby) (n := 4) (by decide +kernel) (by decide) (by decide) (by decide)
   refine Runs.by ?_ st77
   have C78 : CHr Z EL s.vm h0 T77.vm h77 := C33.trans A77
   have K79 : Keep h0 h77 [] := K34.ext E77
   show Runs _ _ _ _ (T77.setTop (mkF m 16 _ [(.ref a77), (.ref r_31)]))
   have f85 : Exa Z h77 r_31 kc0 := (g31_1.ext E77)
   have f86 : Fld Z h77 r_31 kc0 "value" "[B" (.ref t_31) := (g31_3.ext E77)
   have f87 : Arv Z h77 t_31 kb_31 .byte (lenK qq nn k0 k1 k2 k3) (mI (lowL (encK qq nn k0 k1 k2 k3))) (.int (0 : Int32)) := (g31_5.ext E77)
   have f88 : Fld Z h77 r_31 kc0 "coder" "B" (.int (0 : Int32)) := (g31_2.ext E77)
   have f89 : Old Z n0 h77 := ((f30.keep K31 all0).ext E77)
   have le90 : h0.size ≤ T31.heap.size := (Nat.le_trans E20.1 K31.1)
   have le91 : h0.size ≤ h77.size := (Nat.le_trans le90 E77.1)
   obtain ⟨cq92, kq92, q92a, q92b, q92c⟩ := isOf hZ77 e77 f85
   refine w_virtual X77 hx (y := yn_33) (z := yn_33) hown77 (mvT hZ77 (wd_138 hw)) (mvT hZ77 (wd_139 hw)) (notFace_of_selects (args := #[]) (mvT hZ77 (wd_141 hw))) (mvT hZ77 (wd_141 hw)) (mvT hZ77 (wd_140 hw)) (by decide) (backOf (W := 0) (rm_m33_48 l Z aZ hw [] r_31 a77 t_31 kb_31 (lenK qq nn k0 k1 k2 k3) (lowL (encK qq nn k0 k1 k2 k3)) b77 c77 jj3 h77 n0 (Nat.le_trans Z0 le91) f85 f86 f87 f88 gE77 gV77 gA77 gC77 (own_sw1 zz12) (own_ln0 zz12) (own_swQ zz12 hc39) zz8 f89 hP_9) hZ77 (wd_142 hw) (wd_23 hw) (by decide) (by decide)) q92a q92c (by rw [hml]; rfl) [(.ref a77)] (lenOf pd_23 rfl) rfl (Nat.le_of_eq rfl) (d13_16 hby) (fun _ _ => ⟨rfl, e77, (by decide : 6 + 0 ≤ _), (by decide : 68 + 0 ≤ _)⟩) (pq 19) ?_
   rintro _ _ ⟨T92, L92, k92, n92⟩ X92 ⟨Lc92, hQ92, l92, y92, z92⟩
   dsimp only [Pt.U, Pt.locs, Pt.cells, Pt.slots] at X92 l92 y92 z92 hQ92 ⊢
   rw [l92, y92, z92] at X92
   obtain ⟨rfl, N92q, e92⟩ := hQ92
   have N93 := Fr.app N32 N92q
   show Runs _ _ _ _ (T92.setTop (mkF m 19 _ [(.int (1 : Int32))]))
   refine w_ifN X92 hx (d13_19 hby) (feq (by decide : ¬ ((1 : Int32) = (0 : Int32)))).1 (pq 22) ?_
   refine w_aloadN X92 hx (d13_22 hby) rfl rfl (pq 23) ?_
   refine w_static X92 hx (y := yn_36) hown77 (mvT hZ77 (wd_152 hw)) (mvT hZ77 (wd_153 hw)) (mvT hZ77 (wd_52 hw)) (mvT hZ77 (wd_154 hw)) (by decide) (backOf (W := 0) (rm_m36_51 l Z aZ hw [] r_31 qq nn k0 k1 k2 k3 t_31 kb_31 jj3 jj4 h77 n0 (Nat.le_trans Z0 le91) f85 f86 f87 zz8 f89 f88 hc39 hP_9 zz12 zz9 zz10) hZ77 (wd_154 hw) (wd_52 hw) (by decide) (by decide)) (by rw [hml]; rfl) [(.ref r_31)] (lenOf pd_20 rfl) rfl (Nat.le_of_eq rfl) (d13_23 hby) (fun _ _ => ⟨rfl, e92, (by decide : 6 + 4 ≤ _), (by decide : 68 + 32 ≤ _)⟩) (pq 26) ?_
   rintro _ _ ⟨T94, L94, k94, n94⟩ X94 ⟨Lc94, hQ94, l94, y94, z94⟩
   dsimp only [Pt.U, Pt.locs, Pt.cells, Pt.slots] at X94 l94 y94 z94 hQ94 ⊢
   rw [l94, y94, z94] at X94
   obtain ⟨r_94, t_94, kb_94, rfl, N94q, K94, g94_0, g94_1, g94_2, g94_3, g94_4, g94_5⟩ := hQ94
   have N95 := Fr.app N93 N94q
   have C96 : CHr Z EL s.vm h0 T77.vm T94.heap := C78.trans (CHr.keep K94 sf0 C78.1)
   have K97 : Keep h0 T94.heap [] := K79.trans K94 (all0 (P := fun x => x ∈ [] ∨ h0.size ≤ x))
   have ge98 : n0 ≤ r_94 := Nat.le_trans (Nat.le_trans Z0 le91) g94_0
   have sz99 : h0.size ≤ r_94 := Nat.le_trans le91 g94_0
   have ge100 : n0 ≤ t_94 := Nat.le_trans (Nat.le_trans Z0 le91) g94_4
   have sz101 : h0.size ≤ t_94 := Nat.le_trans le91 g94_4
   show Runs _ _ _ _ (T94.setTop (mkF m 26 _ [(.ref r_94)]))
   refine w_astoreN X94 hx (d13_26 hby) rfl (L' := #[.val (.ref a0), .val (.ref r_31), .val (.ref r_94)]) rfl (pq 27) ?_
   refine w_goto X94 hx (d13_27 hby) (pc' := 35) (by decide) (by decide) ?_
   refine w_new X94 hx hZ77 hown77 (wd_225 hw) (wd_226 hw) (wd_52 hw) rfl (d13_35 hby) (by decide) (by decide) (pq 38) ?_
   intro T102 h102 b102 X102 e102 E102 g102 A102 D102
   have le104 : h0.size ≤ T94.heap.size := (Nat.le_trans le91 K94.1)
   have ge103 : n0 ≤ b102 := Nat.le_trans (Nat.le_trans Z0 le104) (Nat.le_of_eq g102.symm)
   have sz105 : h0.size ≤ b102 := Nat.le_trans le104 (Nat.le_of_eq g102.symm)
   have C106 : CHr Z EL s.vm h0 T77.vm h102 := C96.trans (CHr.ext E102 C96.1)
   have K107 : Keep h0 h102 [] := K97.ext E102
   have f108 : Fld Z h102 b102 kc2 "value" "Ljava/lang/String;" .null := D102 (Or.inr (wd_243 hw)) (ty := (.object kc0)) (by decide)
   refine w_dup X102 hx (d13_38 hby) rfl (pq 39) ?_
   refine w_aloadN X102 hx (d13_39 hby) rfl rfl (pq 40) ?_
   have f114 : Exa Z h102 r_94 kc0 := (g94_1.ext E102)
   have f115 : Fld Z h102 r_94 kc0 "value" "[B" (.ref t_94) := (g94_3.ext E102)
   have f116 : Arv Z h102 t_94 kb_94 .byte nn (mI (lowL (cl4 nn k0 k1 k2 k3))) (.int (0 : Int32)) := (g94_5.ext E102)
   have f117 : Old Z n0 h102 := ((f89.keep K94 all0).ext E102)
   have f118 : Fld Z h102 r_94 kc0 "coder" "B" (.int (0 : Int32)) := (g94_2.ext E102)
   have le119 : h0.size ≤ h102.size := (Nat.le_trans le104 E102.1)
   refine w_specialS X102 hx (y := yn_50) rfl hown77 (mvT hZ77 (wd_227 hw)) (mvT hZ77 (wd_228 hw)) (mvT hZ77 (wd_229 hw)) (by decide) (backOfY (W := 1) (rm_m50_71 l Z aZ hw [] b102 r_94 qq nn k0 k1 k2 k3 t_94 kb_94 jj3 jj4 h102 n0 (Nat.le_trans Z0 le119) f114 f115 f116 hc39 zz12 zz8 f117 f118 hP_9 zz9 zz10 A102 f108 ge103) hZ77 (wd_229 hw) (wd_52 hw) (by decide) (by decide) (own_EW hw) C106.1 sf0 all0) (by rw [hml]; rfl) [(.ref r_94)] (lenOf pd_25 rfl) rfl (Nat.le_of_eq rfl) (d13_40 hby) (fun _ _ => ⟨rfl, e102, (by decide : 11 + 2 ≤ _), (by decide : 101 + 24 ≤ _)⟩) (pq 43) ?_
   rintro _ _ ⟨T120, L120, k120, n120⟩ XX120 hSS120 hg120 ⟨Lc120, hQ120, l120, y120, z120, A120⟩
   dsimp only [Pt.U, Pt.locs, Pt.cells, Pt.slots] at XX120 l120 y120 z120 hQ120 hSS120 hg120 A120 ⊢
   rw [l120, y120, z120] at XX120
   have le121 : h77.size ≤ h102.size := (Nat.le_trans K94.1 E102.1)
   obtain ⟨X120, hS120, hZ120, hown120⟩ := rebS hS77 (Nat.le_trans hk77 le121) XX120 hSS120 (e102 ▸ hg120) hZ77 hown77
   obtain ⟨rfl, N120q, K120, g120_0, g120_1⟩ := hQ120
   have N122 := Fr.app N95 N120q
   have C123 : CHr Z EL s.vm h0 T120.vm T120.heap := C106.trans A120
   have K124 : Keep h0 T120.heap [] := K107.trans K120 (allS (Or.inr sz105) (all0 (P := fun x => x ∈ [] ∨ h0.size ≤ x)))
   show Runs _ _ _ _ (T120.setTop (mkF m 43 _ [(.ref b102)]))
   have f125 : Exa Z T120.heap r_94 kc0 := (f114.keep K120)
   have ne126 : r_94 ≠ b102 := (Nat.ne_of_lt (Nat.lt_of_lt_of_le g94_1.lt (Nat.le_trans (Nat.le_refl _) (Nat.le_of_eq g102.symm))))
   have f127 : Fld Z T120.heap r_94 kc0 "coder" "B" (.int (0 : Int32)) := (f118.keep K120 (ninS ne126 nin0))
   have f128 : Fld Z T120.heap r_94 kc0 "value" "[B" (.ref t_94) := (f115.keep K120 (ninS ne126 nin0))
   have ne129 : t_94 ≠ b102 := (Nat.ne_of_lt (Nat.lt_of_lt_of_le g94_5.lt (Nat.le_trans (Nat.le_refl _) (Nat.le_of_eq g102.symm))))
   have f130 : Arv Z T120.heap t_94 kb_94 .byte nn (mI (lowL (cl4 nn k0 k1 k2 k3))) (.int (0 : Int32)) := (f116.keep K120 (ninS ne129 nin0))
   exact w_doneH X120 hlk (v := some (.ref b102)) rfl hh hZ120 (own_EW hw) hS120 (Nat.le_refl _) C123 (fun h => by rw [hret] at h; cases h) (fun fs hr => retOut X120 hx hret rfl (Or.inr (Or.inr (Or.inr (Or.inr ⟨rfl, rfl, rfl⟩)))) (d13_43 hby) hr) (by decide) (by decide) (fun hsy => ⟨b102, r_94, t_94, kb_94, rfl, N122, K124, sz105, g120_0, g120_1, sz99, f125, f127, f128, sz101, f130⟩)
theorem ef_m53_72 (m : MethodId) (a0 : Addr)  : entryFrame m #[(.ref a0)] 1 = mkF m 0 #[.val (.ref a0)] [] := by first | (simp [entryFrame, mkF, argsToLocals, Value.category]; done) | rfl
def Q_m53_72 (Z : State) (a0 : Addr) (jj0 : Addr) (h0 : Heap) (n0 : Nat) (v : Option Value) (h : Heap) (L : List Loc) : Prop := v = some (.ref jj0) ∧ Fr n0 L ∧ h = h0
theorem rm_m53_72 (l : Launch) (Z : State) (aZ : Array Value) (hw : ∀ d ∈ tables_1, d.before aZ Z = true) (ws : List Jvm.Cond) (a0 : Addr) (jj0 : Addr) (h0 : Heap) (n0 : Nat) (Z0 : n0 ≤ h0.size) (zz1 : Fld Z h0 a0 kc2 "value" "Ljava/lang/String;" (.ref jj0)) :
    MetN l Z yn_53 prog_3_method_11_code 1 (some (.object kc0)) ws ({ frames := 0, cells := 0, slots := 0, locals := 0 } : Room) #[(.ref a0)] h0 (Q_m53_72 Z a0 jj0 h0 n0) := by
 refine MetN.of (plainFor_of_name pn_1) ?_
 intro p e s m below meth c s₁ hret hx hby hml hown hnm hlk hZ X0 e0
 have N0 := Fr.nil n0
 rw [ef_m53_72 m a0]
 refine w_aloadN X0 hx (d53_0 hby) rfl rfl (pq 1) ?_
 refine w_getF X0 hx "" hZ hown (Or.inl (wd_242 hw)) Via.refl e0 zz1 (d53_1 hby) (pq 4) ?_
 intro T20 X20 e20
 exact w_done X20 hlk (v := some (.ref jj0)) e20 (fun h => by rw [hret] at h; cases h) (fun fs hr => retOut X20 hx hret rfl (Or.inr (Or.inr (Or.inr (Or.inr ⟨rfl, rfl, rfl⟩)))) (d53_4 hby) hr) (by decide) (by decide) (⟨rfl, N0, rfl⟩)
theorem ef_m55_74 (m : MethodId) (a0 : Addr) (a1 : Addr)  : entryFrame m #[(.ref a0), (.ref a1)] 3 = mkF m 0 #[.val (.ref a0), .val (.ref a1), .unset] [] := by first | (simp [entryFrame, mkF, argsToLocals, Value.category]; done) | rfl
def Q_m55_74 (Z : State) (a0 : Addr) (a1 : Addr) (k_a0 : ClassId) (jj0 : Int32) (k_a1 : ClassId) (h0 : Heap) (n0 : Nat) (v : Option Value) (h : Heap) (L : List Loc) : Prop := v = some (.int (1 : Int32)) ∧ Fr n0 L ∧ h = h0
theorem rm_m55_74 (l : Launch) (Z : State) (aZ : Array Value) (hw : ∀ d ∈ tables_1, d.before aZ Z = true) (ws : List Jvm.Cond) (a0 : Addr) (a1 : Addr) (k_a0 : ClassId) (jj0 : Int32) (k_a1 : ClassId) (h0 : Heap) (n0 : Nat) (Z0 : n0 ≤ h0.size) (V_a0 : Arv Z h0 a0 k_a0 .byte (1 : Int32) [(.int jj0)] (.int (0 : Int32))) (V_a1 : Arv Z h0 a1 k_a1 .byte (1 : Int32) [(.int jj0)] (.int (0 : Int32))) :
    MetN l Z yn_55 jdk_43_method_13_code 3 (some .boolean) ws ({ frames := 0, cells := 0, slots := 0, locals := 0 } : Room) #[(.ref a0), (.ref a1)] h0 (Q_m55_74 Z a0 a1 k_a0 jj0 k_a1 h0 n0) := by
 refine MetN.of (plainFor_of_name pn_5) ?_
 intro p e s m below meth c s₁ hret hx hby hml hown hnm hlk hZ X0 e0
 have N0 := Fr.nil n0
 rw [ef_m55_74 m a0 a1]
 refine w_aloadN X0 hx (d55_0 hby) rfl rfl (pq 1) ?_
 refine w_alen X0 hx hZ e0 V_a0 (d55_1 hby) (pq 2) ?_
 refine w_aloadN X0 hx (d55_2 hby) rfl rfl (pq 3) ?_
 refine w_alen X0 hx hZ e0 V_a1 (d55_3 hby) (pq 4) ?_
 refine w_icN X0 hx (d55_4 hby) (teq (by decide : (1 : Int32) = (1 : Int32))).2 (pq 7) ?_
 refine w_iconst X0 hx (d55_7 hby) (v := (0 : Int32)) rfl (pq 8) ?_
 refine w_istoreN X0 hx (d55_8 hby) (L' := #[.val (.ref a0), .val (.ref a1), .val (.int (0 : Int32))]) rfl (pq 9) ?_
 refine w_iloadN X0 hx (d55_9 hby) rfl (pq 10) ?_
 refine w_aloadN X0 hx (d55_10 hby) rfl rfl (pq 11) ?_
 refine w_alen X0 hx hZ e0 V_a0 (d55_11 hby) (pq 12) ?_
 refine w_icN X0 hx (d55_12 hby) (tlt (by decide : (0 : Int32) < (1 : Int32))).2.1 (pq 15) ?_
 refine w_aloadN X0 hx (d55_15 hby) rfl rfl (pq 16) ?_
 refine w_iloadN X0 hx (d55_16 hby) rfl (pq 17) ?_
 obtain ⟨clu20, Aru20, qu20, Su20, Nu20, Hu20, Gu20⟩ := id V_a0
 have hinu20 := inb_of (j := (0 : Int32)) Su20 ⟨by decide, by decide⟩
 refine w_baload X0 hx hZ e0 Aru20 hinu20 (Hu20.at hinu20 rfl) (d55_17 hby) (pq 18) ?_
 refine w_aloadN X0 hx (d55_18 hby) rfl rfl (pq 19) ?_
 refine w_iloadN X0 hx (d55_19 hby) rfl (pq 20) ?_
 obtain ⟨clu21, Aru21, qu21, Su21, Nu21, Hu21, Gu21⟩ := id V_a1
 have hinu21 := inb_of (j := (0 : Int32)) Su21 ⟨by decide, by decide⟩
 refine w_baload X0 hx hZ e0 Aru21 hinu21 (Hu21.at hinu21 rfl) (d55_20 hby) (pq 21) ?_
 refine w_icY X0 hx (d55_21 hby) (teq (rfl : jj0 = jj0)).1 (pc' := 26) (by decide) (by decide) ?_
 refine w_iinc X0 hx (d55_26 hby) (v := (1 : Int32)) rfl rfl (L' := #[.val (.ref a0), .val (.ref a1), .val (.int ((0 : Int32) + (1 : Int32)))]) rfl (pq 29) ?_
 rw [show ((0 : Int32) + (1 : Int32)) = (1 : Int32) from by decide]
 refine w_goto X0 hx (d55_29 hby) (pc' := 9) (by decide) (by decide) ?_
 refine w_iloadN X0 hx (d55_9 hby) rfl (pq 10) ?_
 refine w_aloadN X0 hx (d55_10 hby) rfl rfl (pq 11) ?_
 refine w_alen X0 hx hZ e0 V_a0 (d55_11 hby) (pq 12) ?_
 refine w_icY X0 hx (d55_12 hby) (flt (by decide : ¬ ((1 : Int32) < (1 : Int32)))).2.1 (pc' := 32) (by decide) (by decide) ?_
 refine w_iconst X0 hx (d55_32 hby) (v := (1 : Int32)) rfl (pq 33) ?_
 exact w_done X0 hlk (v := some (.int (1 : Int32))) e0 (fun h => by rw [hret] at h; cases h) (fun fs hr => retN X0 hx (t := .boolean) hret (by simp) (d55_33 hby) hr) (by decide) (by decide) (⟨rfl, N0, rfl⟩)
theorem ef_m54_73 (m : MethodId) (a0 : Addr) (a1 : Addr)  : entryFrame m #[(.ref a0), (.ref a1)] 3 = mkF m 0 #[.val (.ref a0), .val (.ref a1), .unset] [] := by first | (simp [entryFrame, mkF, argsToLocals, Value.category]; done) | rfl
def Q_m54_73 (Z : State) (a0 : Addr) (a1 : Addr) (jj0 : Int32) (jj1 : Addr) (jj2 : Addr) (jj3 : ClassId) (jj4 : Int32) (jj5 : ClassId) (h0 : Heap) (n0 : Nat) (v : Option Value) (h : Heap) (L : List Loc) : Prop := v = some (.int (1 : Int32)) ∧ Fr n0 L ∧ h = h0
theorem rm_m54_73 (l : Launch) (Z : State) (aZ : Array Value) (hw : ∀ d ∈ tables_1, d.before aZ Z = true) (ws : List Jvm.Cond) (a0 : Addr) (a1 : Addr) (jj0 : Int32) (jj1 : Addr) (jj2 : Addr) (jj3 : ClassId) (jj4 : Int32) (jj5 : ClassId) (h0 : Heap) (n0 : Nat) (Z0 : n0 ≤ h0.size) (zz6 : a0 ≠ a1) (E_a1 : Exa Z h0 a1 kc0) (zz7 : Sta Z Z.heap kc0 "COMPACT_STRINGS" "Z" (.int jj0)) (O0 : Old Z n0 h0) (hP_4 : ¬ (jj0 = (0 : Int32))) (zz8 : Fld Z h0 a0 kc0 "coder" "B" (.int (0 : Int32))) (zz9 : Fld Z h0 a1 kc0 "coder" "B" (.int (0 : Int32))) (zz10 : Fld Z h0 a0 kc0 "value" "[B" (.ref jj1)) (zz11 : Fld Z h0 a1 kc0 "value" "[B" (.ref jj2)) (zz12 : Arv Z h0 jj1 jj3 .byte (1 : Int32) [(.int jj4)] (.int (0 : Int32))) (zz13 : Arv Z h0 jj2 jj5 .byte (1 : Int32) [(.int jj4)] (.int (0 : Int32))) :
    MetN l Z yn_54 jdk_42_method_66_code 3 (some .boolean) ws ({ frames := 1, cells := 0, slots := 0, locals := 14 } : Room) #[(.ref a0), (.ref a1)] h0 (Q_m54_73 Z a0 a1 jj0 jj1 jj2 jj3 jj4 jj5 h0 n0) := by
 refine MetN.of (plainFor_of_name pn_3) ?_
 intro p e s m below meth c s₁ hret hx hby hml hown hnm hlk hZ X0 e0
 have N0 := Fr.nil n0
 rw [ef_m54_73 m a0 a1]
 refine w_aloadN X0 hx (d54_0 hby) rfl rfl (pq 1) ?_
 refine w_aloadN X0 hx (d54_1 hby) rfl rfl (pq 2) ?_
 refine w_acmp X0 hx (d54_2 hby) (same := false) rfl rfl (decide_eq_false fun q => zz6 (Value.ref.inj q)) (pc' := 7) (by decide) (by decide) ?_
 refine w_aloadN X0 hx (d54_7 hby) rfl rfl (pq 8) ?_
 refine w_instY X0 hx hZ hown (wd_254 hw) e0 (Ins.self E_a1) (d54_8 hby) (pq 11) ?_
 intro T20 X20 e20
 refine w_ifN X20 hx (d54_11 hby) (feq (by decide : ¬ ((1 : Int32) = (0 : Int32)))).1 (pq 14) ?_
 refine w_aloadN X20 hx (d54_14 hby) rfl rfl (pq 15) ?_
 refine w_castY X20 hx hZ hown (wd_254 hw) e20 (Ins.self E_a1) (d54_15 hby) (pq 18) ?_
 intro T21 X21 e21
 refine w_astoreN X21 hx (d54_18 hby) rfl (L' := #[.val (.ref a0), .val (.ref a1), .val (.ref a1)]) rfl (pq 19) ?_
 refine w_getS X21 hx "" hZ hown (Or.inl (wd_34 hw)) Via.refl e21 (zz7.ext O0.2) (d54_19 hby) (pq 22) ?_
 intro T22 X22 e22
 refine w_ifN X22 hx (d54_22 hby) (feq hP_4).1 (pq 25) ?_
 refine w_aloadN X22 hx (d54_25 hby) rfl rfl (pq 26) ?_
 refine w_getF X22 hx "" hZ hown (Or.inl (wd_46 hw)) Via.refl e22 zz8 (d54_26 hby) (pq 29) ?_
 intro T23 X23 e23
 refine w_aloadN X23 hx (d54_29 hby) rfl rfl (pq 30) ?_
 refine w_getF X23 hx "" hZ hown (Or.inl (wd_46 hw)) Via.refl e23 zz9 (d54_30 hby) (pq 33) ?_
 intro T24 X24 e24
 refine w_icN X24 hx (d54_33 hby) (teq (by decide : (0 : Int32) = (0 : Int32))).2 (pq 36) ?_
 refine w_aloadN X24 hx (d54_36 hby) rfl rfl (pq 37) ?_
 refine w_getF X24 hx "" hZ hown (Or.inl (wd_48 hw)) Via.refl e24 zz10 (d54_37 hby) (pq 40) ?_
 intro T25 X25 e25
 refine w_aloadN X25 hx (d54_40 hby) rfl rfl (pq 41) ?_
 refine w_getF X25 hx "" hZ hown (Or.inl (wd_48 hw)) Via.refl e25 zz11 (d54_41 hby) (pq 44) ?_
 intro T26 X26 e26
 refine w_static X26 hx (y := yn_55) hown (mvT hZ (wd_255 hw)) (mvT hZ (wd_256 hw)) (mvT hZ (wd_87 hw)) (mvT hZ (wd_257 hw)) (by decide) (backOf (W := 0) (rm_m55_74 l Z aZ hw [] jj1 jj2 jj3 jj4 jj5 h0 n0 Z0 zz12 zz13) hZ (wd_257 hw) (wd_87 hw) (by decide) (by decide)) (by rw [hml]; rfl) [(.ref jj1), (.ref jj2)] (lenOf pd_34 rfl) rfl (Nat.le_of_eq rfl) (d54_44 hby) (fun _ _ => ⟨rfl, e26, (by decide : 0 + 0 ≤ _), (by decide : 0 + 0 ≤ _)⟩) (pq 47) ?_
 rintro _ _ ⟨T27, L27, k27, n27⟩ X27 ⟨Lc27, hQ27, l27, y27, z27⟩
 dsimp only [Pt.U, Pt.locs, Pt.cells, Pt.slots] at X27 l27 y27 z27 hQ27 ⊢
 rw [l27, y27, z27] at X27
 obtain ⟨rfl, N27q, e27⟩ := hQ27
 have N28 := Fr.app N0 N27q
 show Runs _ _ _ _ (T27.setTop (mkF m 47 _ [(.int (1 : Int32))]))
 refine w_ifN X27 hx (d54_47 hby) (feq (by decide : ¬ ((1 : Int32) = (0 : Int32)))).1 (pq 50) ?_
 refine w_iconst X27 hx (d54_50 hby) (v := (1 : Int32)) rfl (pq 51) ?_
 refine w_goto X27 hx (d54_51 hby) (pc' := 55) (by decide) (by decide) ?_
 exact w_done X27 hlk (v := some (.int (1 : Int32))) e27 (fun h => by rw [hret] at h; cases h) (fun fs hr => retN X27 hx (t := .boolean) hret (by simp) (d54_55 hby) hr) (by decide) (by decide) (⟨rfl, N28, rfl⟩)
theorem ef_m55_76 (m : MethodId) (a0 : Addr) (a1 : Addr)  : entryFrame m #[(.ref a0), (.ref a1)] 3 = mkF m 0 #[.val (.ref a0), .val (.ref a1), .unset] [] := by first | (simp [entryFrame, mkF, argsToLocals, Value.category]; done) | rfl
def Q_m55_76 (Z : State) (a0 : Addr) (a1 : Addr) (k_a0 : ClassId) (jj0 : Int32) (jj1 : Int32) (k_a1 : ClassId) (h0 : Heap) (n0 : Nat) (v : Option Value) (h : Heap) (L : List Loc) : Prop := v = some (.int (1 : Int32)) ∧ Fr n0 L ∧ h = h0
theorem rm_m55_76 (l : Launch) (Z : State) (aZ : Array Value) (hw : ∀ d ∈ tables_1, d.before aZ Z = true) (ws : List Jvm.Cond) (a0 : Addr) (a1 : Addr) (k_a0 : ClassId) (jj0 : Int32) (jj1 : Int32) (k_a1 : ClassId) (h0 : Heap) (n0 : Nat) (Z0 : n0 ≤ h0.size) (V_a0 : Arv Z h0 a0 k_a0 .byte (2 : Int32) [(.int jj0), (.int jj1)] (.int (0 : Int32))) (V_a1 : Arv Z h0 a1 k_a1 .byte (2 : Int32) [(.int jj0), (.int jj1)] (.int (0 : Int32))) :
    MetN l Z yn_55 jdk_43_method_13_code 3 (some .boolean) ws ({ frames := 0, cells := 0, slots := 0, locals := 0 } : Room) #[(.ref a0), (.ref a1)] h0 (Q_m55_76 Z a0 a1 k_a0 jj0 jj1 k_a1 h0 n0) := by
 refine MetN.of (plainFor_of_name pn_5) ?_
 intro p e s m below meth c s₁ hret hx hby hml hown hnm hlk hZ X0 e0
 have N0 := Fr.nil n0
 rw [ef_m55_76 m a0 a1]
 refine w_aloadN X0 hx (d55_0 hby) rfl rfl (pq 1) ?_
 refine w_alen X0 hx hZ e0 V_a0 (d55_1 hby) (pq 2) ?_
 refine w_aloadN X0 hx (d55_2 hby) rfl rfl (pq 3) ?_
 refine w_alen X0 hx hZ e0 V_a1 (d55_3 hby) (pq 4) ?_
 refine w_icN X0 hx (d55_4 hby) (teq (by decide : (2 : Int32) = (2 : Int32))).2 (pq 7) ?_
 refine w_iconst X0 hx (d55_7 hby) (v := (0 : Int32)) rfl (pq 8) ?_
 refine w_istoreN X0 hx (d55_8 hby) (L' := #[.val (.ref a0), .val (.ref a1), .val (.int (0 : Int32))]) rfl (pq 9) ?_
 refine w_iloadN X0 hx (d55_9 hby) rfl (pq 10) ?_
 refine w_aloadN X0 hx (d55_10 hby) rfl rfl (pq 11) ?_
 refine w_alen X0 hx hZ e0 V_a0 (d55_11 hby) (pq 12) ?_
 refine w_icN X0 hx (d55_12 hby) (tlt (by decide : (0 : Int32) < (2 : Int32))).2.1 (pq 15) ?_
 refine w_aloadN X0 hx (d55_15 hby) rfl rfl (pq 16) ?_
 refine w_iloadN X0 hx (d55_16 hby) rfl (pq 17) ?_
 obtain ⟨clu20, Aru20, qu20, Su20, Nu20, Hu20, Gu20⟩ := id V_a0
 have hinu20 := inb_of (j := (0 : Int32)) Su20 ⟨by decide, by decide⟩
 refine w_baload X0 hx hZ e0 Aru20 hinu20 (Hu20.at hinu20 rfl) (d55_17 hby) (pq 18) ?_
 refine w_aloadN X0 hx (d55_18 hby) rfl rfl (pq 19) ?_
 refine w_iloadN X0 hx (d55_19 hby) rfl (pq 20) ?_
 obtain ⟨clu21, Aru21, qu21, Su21, Nu21, Hu21, Gu21⟩ := id V_a1
 have hinu21 := inb_of (j := (0 : Int32)) Su21 ⟨by decide, by decide⟩
 refine w_baload X0 hx hZ e0 Aru21 hinu21 (Hu21.at hinu21 rfl) (d55_20 hby) (pq 21) ?_
 refine w_icY X0 hx (d55_21 hby) (teq (rfl : jj0 = jj0)).1 (pc' := 26) (by decide) (by decide) ?_
 refine w_iinc X0 hx (d55_26 hby) (v := (1 : Int32)) rfl rfl (L' := #[.val (.ref a0), .val (.ref a1), .val (.int ((0 : Int32) + (1 : Int32)))]) rfl (pq 29) ?_
 rw [show ((0 : Int32) + (1 : Int32)) = (1 : Int32) from by decide]
 refine w_goto X0 hx (d55_29 hby) (pc' := 9) (by decide) (by decide) ?_
 refine w_iloadN X0 hx (d55_9 hby) rfl (pq 10) ?_
 refine w_aloadN X0 hx (d55_10 hby) rfl rfl (pq 11) ?_
 refine w_alen X0 hx hZ e0 V_a0 (d55_11 hby) (pq 12) ?_
 refine w_icN X0 hx (d55_12 hby) (tlt (by decide : (1 : Int32) < (2 : Int32))).2.1 (pq 15) ?_
 refine w_aloadN X0 hx (d55_15 hby) rfl rfl (pq 16) ?_
 refine w_iloadN X0 hx (d55_16 hby) rfl (pq 17) ?_
 obtain ⟨clu22, Aru22, qu22, Su22, Nu22, Hu22, Gu22⟩ := id V_a0
 have hinu22 := inb_of (j := (1 : Int32)) Su22 ⟨by decide, by decide⟩
 refine w_baload X0 hx hZ e0 Aru22 hinu22 (Hu22.at hinu22 rfl) (d55_17 hby) (pq 18) ?_
 refine w_aloadN X0 hx (d55_18 hby) rfl rfl (pq 19) ?_
 refine w_iloadN X0 hx (d55_19 hby) rfl (pq 20) ?_
 obtain ⟨clu23, Aru23, qu23, Su23, Nu23, Hu23, Gu23⟩ := id V_a1
 have hinu23 := inb_of (j := (1 : Int32)) Su23 ⟨by decide, by decide⟩
 refine w_baload X0 hx hZ e0 Aru23 hinu23 (Hu23.at hinu23 rfl) (d55_20 hby) (pq 21) ?_
 refine w_icY X0 hx (d55_21 hby) (teq (rfl : jj1 = jj1)).1 (pc' := 26) (by decide) (by decide) ?_
 refine w_iinc X0 hx (d55_26 hby) (v := (1 : Int32)) rfl rfl (L' := #[.val (.ref a0), .val (.ref a1), .val (.int ((1 : Int32) + (1 : Int32)))]) rfl (pq 29) ?_
 rw [show ((1 : Int32) + (1 : Int32)) = (2 : Int32) from by decide]
 refine w_goto X0 hx (d55_29 hby) (pc' := 9) (by decide) (by decide) ?_
 refine w_iloadN X0 hx (d55_9 hby) rfl (pq 10) ?_
 refine w_aloadN X0 hx (d55_10 hby) rfl rfl (pq 11) ?_
 refine w_alen X0 hx hZ e0 V_a0 (d55_11 hby) (pq 12) ?_
 refine w_icY X0 hx (d55_12 hby) (flt (by decide : ¬ ((2 : Int32) < (2 : Int32)))).2.1 (pc' := 32) (by decide) (by decide) ?_
 refine w_iconst X0 hx (d55_32 hby) (v := (1 : Int32)) rfl (pq 33) ?_
 exact w_done X0 hlk (v := some (.int (1 : Int32))) e0 (fun h => by rw [hret] at h; cases h) (fun fs hr => retN X0 hx (t := .boolean) hret (by simp) (d55_33 hby) hr) (by decide) (by decide) (⟨rfl, N0, rfl⟩)
theorem ef_m54_75 (m : MethodId) (a0 : Addr) (a1 : Addr)  : entryFrame m #[(.ref a0), (.ref a1)] 3 = mkF m 0 #[.val (.ref a0), .val (.ref a1), .unset] [] := by first | (simp [entryFrame, mkF, argsToLocals, Value.category]; done) | rfl
def Q_m54_75 (Z : State) (a0 : Addr) (a1 : Addr) (jj0 : Int32) (jj1 : Addr) (jj2 : Addr) (jj3 : ClassId) (jj4 : Int32) (jj5 : Int32) (jj6 : ClassId) (h0 : Heap) (n0 : Nat) (v : Option Value) (h : Heap) (L : List Loc) : Prop := v = some (.int (1 : Int32)) ∧ Fr n0 L ∧ h = h0
theorem rm_m54_75 (l : Launch) (Z : State) (aZ : Array Value) (hw : ∀ d ∈ tables_1, d.before aZ Z = true) (ws : List Jvm.Cond) (a0 : Addr) (a1 : Addr) (jj0 : Int32) (jj1 : Addr) (jj2 : Addr) (jj3 : ClassId) (jj4 : Int32) (jj5 : Int32) (jj6 : ClassId) (h0 : Heap) (n0 : Nat) (Z0 : n0 ≤ h0.size) (zz7 : a0 ≠ a1) (E_a1 : Exa Z h0 a1 kc0) (zz8 : Sta Z Z.heap kc0 "COMPACT_STRINGS" "Z" (.int jj0)) (O0 : Old Z n0 h0) (hP_4 : ¬ (jj0 = (0 : Int32))) (zz9 : Fld Z h0 a0 kc0 "coder" "B" (.int (0 : Int32))) (zz10 : Fld Z h0 a1 kc0 "coder" "B" (.int (0 : Int32))) (zz11 : Fld Z h0 a0 kc0 "value" "[B" (.ref jj1)) (zz12 : Fld Z h0 a1 kc0 "value" "[B" (.ref jj2)) (zz13 : Arv Z h0 jj1 jj3 .byte (2 : Int32) [(.int jj4), (.int jj5)] (.int (0 : Int32))) (zz14 : Arv Z h0 jj2 jj6 .byte (2 : Int32) [(.int jj4), (.int jj5)] (.int (0 : Int32))) :
    MetN l Z yn_54 jdk_42_method_66_code 3 (some .boolean) ws ({ frames := 1, cells := 0, slots := 0, locals := 14 } : Room) #[(.ref a0), (.ref a1)] h0 (Q_m54_75 Z a0 a1 jj0 jj1 jj2 jj3 jj4 jj5 jj6 h0 n0) := by
 refine MetN.of (plainFor_of_name pn_3) ?_
 intro p e s m below meth c s₁ hret hx hby hml hown hnm hlk hZ X0 e0
 have N0 := Fr.nil n0
 rw [ef_m54_75 m a0 a1]
 refine w_aloadN X0 hx (d54_0 hby) rfl rfl (pq 1) ?_
 refine w_aloadN X0 hx (d54_1 hby) rfl rfl (pq 2) ?_
 refine w_acmp X0 hx (d54_2 hby) (same := false) rfl rfl (decide_eq_false fun q => zz7 (Value.ref.inj q)) (pc' := 7) (by decide) (by decide) ?_
 refine w_aloadN X0 hx (d54_7 hby) rfl rfl (pq 8) ?_
 refine w_instY X0 hx hZ hown (wd_254 hw) e0 (Ins.self E_a1) (d54_8 hby) (pq 11) ?_
 intro T20 X20 e20
 refine w_ifN X20 hx (d54_11 hby) (feq (by decide : ¬ ((1 : Int32) = (0 : Int32)))).1 (pq 14) ?_
 refine w_aloadN X20 hx (d54_14 hby) rfl rfl (pq 15) ?_
 refine w_castY X20 hx hZ hown (wd_254 hw) e20 (Ins.self E_a1) (d54_15 hby) (pq 18) ?_
 intro T21 X21 e21
 refine w_astoreN X21 hx (d54_18 hby) rfl (L' := #[.val (.ref a0), .val (.ref a1), .val (.ref a1)]) rfl (pq 19) ?_
 refine w_getS X21 hx "" hZ hown (Or.inl (wd_34 hw)) Via.refl e21 (zz8.ext O0.2) (d54_19 hby) (pq 22) ?_
 intro T22 X22 e22
 refine w_ifN X22 hx (d54_22 hby) (feq hP_4).1 (pq 25) ?_
 refine w_aloadN X22 hx (d54_25 hby) rfl rfl (pq 26) ?_
 refine w_getF X22 hx "" hZ hown (Or.inl (wd_46 hw)) Via.refl e22 zz9 (d54_26 hby) (pq 29) ?_
 intro T23 X23 e23
 refine w_aloadN X23 hx (d54_29 hby) rfl rfl (pq 30) ?_
 refine w_getF X23 hx "" hZ hown (Or.inl (wd_46 hw)) Via.refl e23 zz10 (d54_30 hby) (pq 33) ?_
 intro T24 X24 e24
 refine w_icN X24 hx (d54_33 hby) (teq (by decide : (0 : Int32) = (0 : Int32))).2 (pq 36) ?_
 refine w_aloadN X24 hx (d54_36 hby) rfl rfl (pq 37) ?_
 refine w_getF X24 hx "" hZ hown (Or.inl (wd_48 hw)) Via.refl e24 zz11 (d54_37 hby) (pq 40) ?_
 intro T25 X25 e25
 refine w_aloadN X25 hx (d54_40 hby) rfl rfl (pq 41) ?_
 refine w_getF X25 hx "" hZ hown (Or.inl (wd_48 hw)) Via.refl e25 zz12 (d54_41 hby) (pq 44) ?_
 intro T26 X26 e26
 refine w_static X26 hx (y := yn_55) hown (mvT hZ (wd_255 hw)) (mvT hZ (wd_256 hw)) (mvT hZ (wd_87 hw)) (mvT hZ (wd_257 hw)) (by decide) (backOf (W := 0) (rm_m55_76 l Z aZ hw [] jj1 jj2 jj3 jj4 jj5 jj6 h0 n0 Z0 zz13 zz14) hZ (wd_257 hw) (wd_87 hw) (by decide) (by decide)) (by rw [hml]; rfl) [(.ref jj1), (.ref jj2)] (lenOf pd_34 rfl) rfl (Nat.le_of_eq rfl) (d54_44 hby) (fun _ _ => ⟨rfl, e26, (by decide : 0 + 0 ≤ _), (by decide : 0 + 0 ≤ _)⟩) (pq 47) ?_
 rintro _ _ ⟨T27, L27, k27, n27⟩ X27 ⟨Lc27, hQ27, l27, y27, z27⟩
 dsimp only [Pt.U, Pt.locs, Pt.cells, Pt.slots] at X27 l27 y27 z27 hQ27 ⊢
 rw [l27, y27, z27] at X27
 obtain ⟨rfl, N27q, e27⟩ := hQ27
 have N28 := Fr.app N0 N27q
 show Runs _ _ _ _ (T27.setTop (mkF m 47 _ [(.int (1 : Int32))]))
 refine w_ifN X27 hx (d54_47 hby) (feq (by decide : ¬ ((1 : Int32) = (0 : Int32)))).1 (pq 50) ?_
 refine w_iconst X27 hx (d54_50 hby) (v := (1 : Int32)) rfl (pq 51) ?_
 refine w_goto X27 hx (d54_51 hby) (pc' := 55) (by decide) (by decide) ?_
 exact w_done X27 hlk (v := some (.int (1 : Int32))) e27 (fun h => by rw [hret] at h; cases h) (fun fs hr => retN X27 hx (t := .boolean) hret (by simp) (d54_55 hby) hr) (by decide) (by decide) (⟨rfl, N28, rfl⟩)
theorem ef_m55_78 (m : MethodId) (a0 : Addr) (a1 : Addr)  : entryFrame m #[(.ref a0), (.ref a1)] 3 = mkF m 0 #[.val (.ref a0), .val (.ref a1), .unset] [] := by first | (simp [entryFrame, mkF, argsToLocals, Value.category]; done) | rfl
def Q_m55_78 (Z : State) (a0 : Addr) (a1 : Addr) (k_a0 : ClassId) (jj0 : Int32) (jj1 : Int32) (jj2 : Int32) (k_a1 : ClassId) (h0 : Heap) (n0 : Nat) (v : Option Value) (h : Heap) (L : List Loc) : Prop := v = some (.int (1 : Int32)) ∧ Fr n0 L ∧ h = h0
theorem rm_m55_78 (l : Launch) (Z : State) (aZ : Array Value) (hw : ∀ d ∈ tables_1, d.before aZ Z = true) (ws : List Jvm.Cond) (a0 : Addr) (a1 : Addr) (k_a0 : ClassId) (jj0 : Int32) (jj1 : Int32) (jj2 : Int32) (k_a1 : ClassId) (h0 : Heap) (n0 : Nat) (Z0 : n0 ≤ h0.size) (V_a0 : Arv Z h0 a0 k_a0 .byte (3 : Int32) [(.int jj0), (.int jj1), (.int jj2)] (.int (0 : Int32))) (V_a1 : Arv Z h0 a1 k_a1 .byte (3 : Int32) [(.int jj0), (.int jj1), (.int jj2)] (.int (0 : Int32))) :
    MetN l Z yn_55 jdk_43_method_13_code 3 (some .boolean) ws ({ frames := 0, cells := 0, slots := 0, locals := 0 } : Room) #[(.ref a0), (.ref a1)] h0 (Q_m55_78 Z a0 a1 k_a0 jj0 jj1 jj2 k_a1 h0 n0) := by
 refine MetN.of (plainFor_of_name pn_5) ?_
 intro p e s m below meth c s₁ hret hx hby hml hown hnm hlk hZ X0 e0
 have N0 := Fr.nil n0
 rw [ef_m55_78 m a0 a1]
 refine w_aloadN X0 hx (d55_0 hby) rfl rfl (pq 1) ?_
 refine w_alen X0 hx hZ e0 V_a0 (d55_1 hby) (pq 2) ?_
 refine w_aloadN X0 hx (d55_2 hby) rfl rfl (pq 3) ?_
 refine w_alen X0 hx hZ e0 V_a1 (d55_3 hby) (pq 4) ?_
 refine w_icN X0 hx (d55_4 hby) (teq (by decide : (3 : Int32) = (3 : Int32))).2 (pq 7) ?_
 refine w_iconst X0 hx (d55_7 hby) (v := (0 : Int32)) rfl (pq 8) ?_
 refine w_istoreN X0 hx (d55_8 hby) (L' := #[.val (.ref a0), .val (.ref a1), .val (.int (0 : Int32))]) rfl (pq 9) ?_
 refine w_iloadN X0 hx (d55_9 hby) rfl (pq 10) ?_
 refine w_aloadN X0 hx (d55_10 hby) rfl rfl (pq 11) ?_
 refine w_alen X0 hx hZ e0 V_a0 (d55_11 hby) (pq 12) ?_
 refine w_icN X0 hx (d55_12 hby) (tlt (by decide : (0 : Int32) < (3 : Int32))).2.1 (pq 15) ?_
 refine w_aloadN X0 hx (d55_15 hby) rfl rfl (pq 16) ?_
 refine w_iloadN X0 hx (d55_16 hby) rfl (pq 17) ?_
 obtain ⟨clu20, Aru20, qu20, Su20, Nu20, Hu20, Gu20⟩ := id V_a0
 have hinu20 := inb_of (j := (0 : Int32)) Su20 ⟨by decide, by decide⟩
 refine w_baload X0 hx hZ e0 Aru20 hinu20 (Hu20.at hinu20 rfl) (d55_17 hby) (pq 18) ?_
 refine w_aloadN X0 hx (d55_18 hby) rfl rfl (pq 19) ?_
 refine w_iloadN X0 hx (d55_19 hby) rfl (pq 20) ?_
 obtain ⟨clu21, Aru21, qu21, Su21, Nu21, Hu21, Gu21⟩ := id V_a1
 have hinu21 := inb_of (j := (0 : Int32)) Su21 ⟨by decide, by decide⟩
 refine w_baload X0 hx hZ e0 Aru21 hinu21 (Hu21.at hinu21 rfl) (d55_20 hby) (pq 21) ?_
 refine w_icY X0 hx (d55_21 hby) (teq (rfl : jj0 = jj0)).1 (pc' := 26) (by decide) (by decide) ?_
 refine w_iinc X0 hx (d55_26 hby) (v := (1 : Int32)) rfl rfl (L' := #[.val (.ref a0), .val (.ref a1), .val (.int ((0 : Int32) + (1 : Int32)))]) rfl (pq 29) ?_
 rw [show ((0 : Int32) + (1 : Int32)) = (1 : Int32) from by decide]
 refine w_goto X0 hx (d55_29 hby) (pc' := 9) (by decide) (by decide) ?_
 refine w_iloadN X0 hx (d55_9 hby) rfl (pq 10) ?_
 refine w_aloadN X0 hx (d55_10 hby) rfl rfl (pq 11) ?_
 refine w_alen X0 hx hZ e0 V_a0 (d55_11 hby) (pq 12) ?_
 refine w_icN X0 hx (d55_12 hby) (tlt (by decide : (1 : Int32) < (3 : Int32))).2.1 (pq 15) ?_
 refine w_aloadN X0 hx (d55_15 hby) rfl rfl (pq 16) ?_
 refine w_iloadN X0 hx (d55_16 hby) rfl (pq 17) ?_
 obtain ⟨clu22, Aru22, qu22, Su22, Nu22, Hu22, Gu22⟩ := id V_a0
 have hinu22 := inb_of (j := (1 : Int32)) Su22 ⟨by decide, by decide⟩
 refine w_baload X0 hx hZ e0 Aru22 hinu22 (Hu22.at hinu22 rfl) (d55_17 hby) (pq 18) ?_
 refine w_aloadN X0 hx (d55_18 hby) rfl rfl (pq 19) ?_
 refine w_iloadN X0 hx (d55_19 hby) rfl (pq 20) ?_
 obtain ⟨clu23, Aru23, qu23, Su23, Nu23, Hu23, Gu23⟩ := id V_a1
 have hinu23 := inb_of (j := (1 : Int32)) Su23 ⟨by decide, by decide⟩
 refine w_baload X0 hx hZ e0 Aru23 hinu23 (Hu23.at hinu23 rfl) (d55_20 hby) (pq 21) ?_
 refine w_icY X0 hx (d55_21 hby) (teq (rfl : jj1 = jj1)).1 (pc' := 26) (by decide) (by decide) ?_
 refine w_iinc X0 hx (d55_26 hby) (v := (1 : Int32)) rfl rfl (L' := #[.val (.ref a0), .val (.ref a1), .val (.int ((1 : Int32) + (1 : Int32)))]) rfl (pq 29) ?_
 rw [show ((1 : Int32) + (1 : Int32)) = (2 : Int32) from by decide]
 refine w_goto X0 hx (d55_29 hby) (pc' := 9) (by decide) (by decide) ?_
 refine w_iloadN X0 hx (d55_9 hby) rfl (pq 10) ?_
 refine w_aloadN X0 hx (d55_10 hby) rfl rfl (pq 11) ?_
 refine w_alen X0 hx hZ e0 V_a0 (d55_11 hby) (pq 12) ?_
 refine w_icN X0 hx (d55_12 hby) (tlt (by decide : (2 : Int32) < (3 : Int32))).2.1 (pq 15) ?_
 refine w_aloadN X0 hx (d55_15 hby) rfl rfl (pq 16) ?_
 refine w_iloadN X0 hx (d55_16 hby) rfl (pq 17) ?_
 obtain ⟨clu24, Aru24, qu24, Su24, Nu24, Hu24, Gu24⟩ := id V_a0
 have hinu24 := inb_of (j := (2 : Int32)) Su24 ⟨by decide, by decide⟩
 refine w_baload X0 hx hZ e0 Aru24 hinu24 (Hu24.at hinu24 rfl) (d55_17 hby) (pq 18) ?_
 refine w_aloadN X0 hx (d55_18 hby) rfl rfl (pq 19) ?_
 refine w_iloadN X0 hx (d55_19 hby) rfl (pq 20) ?_
 obtain ⟨clu25, Aru25, qu25, Su25, Nu25, Hu25, Gu25⟩ := id V_a1
 have hinu25 := inb_of (j := (2 : Int32)) Su25 ⟨by decide, by decide⟩
 refine w_baload X0 hx hZ e0 Aru25 hinu25 (Hu25.at hinu25 rfl) (d55_20 hby) (pq 21) ?_
 refine w_icY X0 hx (d55_21 hby) (teq (rfl : jj2 = jj2)).1 (pc' := 26) (by decide) (by decide) ?_
 refine w_iinc X0 hx (d55_26 hby) (v := (1 : Int32)) rfl rfl (L' := #[.val (.ref a0), .val (.ref a1), .val (.int ((2 : Int32) + (1 : Int32)))]) rfl (pq 29) ?_
 rw [show ((2 : Int32) + (1 : Int32)) = (3 : Int32) from by decide]
 refine w_goto X0 hx (d55_29 hby) (pc' := 9) (by decide) (by decide) ?_
 refine w_iloadN X0 hx (d55_9 hby) rfl (pq 10) ?_
 refine w_aloadN X0 hx (d55_10 hby) rfl rfl (pq 11) ?_
 refine w_alen X0 hx hZ e0 V_a0 (d55_11 hby) (pq 12) ?_
 refine w_icY X0 hx (d55_12 hby) (flt (by decide : ¬ ((3 : Int32) < (3 : Int32)))).2.1 (pc' := 32) (by decide) (by decide) ?_
 refine w_iconst X0 hx (d55_32 hby) (v := (1 : Int32)) rfl (pq 33) ?_
 exact w_done X0 hlk (v := some (.int (1 : Int32))) e0 (fun h => by rw [hret] at h; cases h) (fun fs hr => retN X0 hx (t := .boolean) hret (by simp) (d55_33 hby) hr) (by decide) (by decide) (⟨rfl, N0, rfl⟩)
theorem ef_m54_77 (m : MethodId) (a0 : Addr) (a1 : Addr)  : entryFrame m #[(.ref a0), (.ref a1)] 3 = mkF m 0 #[.val (.ref a0), .val (.ref a1), .unset] [] := by first | (simp [entryFrame, mkF, argsToLocals, Value.category]; done) | rfl
def Q_m54_77 (Z : State) (a0 : Addr) (a1 : Addr) (jj0 : Int32) (jj1 : Addr) (jj2 : Addr) (jj3 : ClassId) (jj4 : Int32) (jj5 : Int32) (jj6 : Int32) (jj7 : ClassId) (h0 : Heap) (n0 : Nat) (v : Option Value) (h : Heap) (L : List Loc) : Prop := v = some (.int (1 : Int32)) ∧ Fr n0 L ∧ h = h0
theorem rm_m54_77 (l : Launch) (Z : State) (aZ : Array Value) (hw : ∀ d ∈ tables_1, d.before aZ Z = true) (ws : List Jvm.Cond) (a0 : Addr) (a1 : Addr) (jj0 : Int32) (jj1 : Addr) (jj2 : Addr) (jj3 : ClassId) (jj4 : Int32) (jj5 : Int32) (jj6 : Int32) (jj7 : ClassId) (h0 : Heap) (n0 : Nat) (Z0 : n0 ≤ h0.size) (zz8 : a0 ≠ a1) (E_a1 : Exa Z h0 a1 kc0) (zz9 : Sta Z Z.heap kc0 "COMPACT_STRINGS" "Z" (.int jj0)) (O0 : Old Z n0 h0) (hP_4 : ¬ (jj0 = (0 : Int32))) (zz10 : Fld Z h0 a0 kc0 "coder" "B" (.int (0 : Int32))) (zz11 : Fld Z h0 a1 kc0 "coder" "B" (.int (0 : Int32))) (zz12 : Fld Z h0 a0 kc0 "value" "[B" (.ref jj1)) (zz13 : Fld Z h0 a1 kc0 "value" "[B" (.ref jj2)) (zz14 : Arv Z h0 jj1 jj3 .byte (3 : Int32) [(.int jj4), (.int jj5), (.int jj6)] (.int (0 : Int32))) (zz15 : Arv Z h0 jj2 jj7 .byte (3 : Int32) [(.int jj4), (.int jj5), (.int jj6)] (.int (0 : Int32))) :
    MetN l Z yn_54 jdk_42_method_66_code 3 (some .boolean) ws ({ frames := 1, cells := 0, slots := 0, locals := 14 } : Room) #[(.ref a0), (.ref a1)] h0 (Q_m54_77 Z a0 a1 jj0 jj1 jj2 jj3 jj4 jj5 jj6 jj7 h0 n0) := by
 refine MetN.of (plainFor_of_name pn_3) ?_
 intro p e s m below meth c s₁ hret hx hby hml hown hnm hlk hZ X0 e0
 have N0 := Fr.nil n0
 rw [ef_m54_77 m a0 a1]
 refine w_aloadN X0 hx (d54_0 hby) rfl rfl (pq 1) ?_
 refine w_aloadN X0 hx (d54_1 hby) rfl rfl (pq 2) ?_
 refine w_acmp X0 hx (d54_2 hby) (same := false) rfl rfl (decide_eq_false fun q => zz8 (Value.ref.inj q)) (pc' := 7) (by decide) (by decide) ?_
 refine w_aloadN X0 hx (d54_7 hby) rfl rfl (pq 8) ?_
 refine w_instY X0 hx hZ hown (wd_254 hw) e0 (Ins.self E_a1) (d54_8 hby) (pq 11) ?_
 intro T20 X20 e20
 refine w_ifN X20 hx (d54_11 hby) (feq (by decide : ¬ ((1 : Int32) = (0 : Int32)))).1 (pq 14) ?_
 refine w_aloadN X20 hx (d54_14 hby) rfl rfl (pq 15) ?_
 refine w_castY X20 hx hZ hown (wd_254 hw) e20 (Ins.self E_a1) (d54_15 hby) (pq 18) ?_
 intro T21 X21 e21
 refine w_astoreN X21 hx (d54_18 hby) rfl (L' := #[.val (.ref a0), .val (.ref a1), .val (.ref a1)]) rfl (pq 19) ?_
 refine w_getS X21 hx "" hZ hown (Or.inl (wd_34 hw)) Via.refl e21 (zz9.ext O0.2) (d54_19 hby) (pq 22) ?_
 intro T22 X22 e22
 refine w_ifN X22 hx (d54_22 hby) (feq hP_4).1 (pq 25) ?_
 refine w_aloadN X22 hx (d54_25 hby) rfl rfl (pq 26) ?_
 refine w_getF X22 hx "" hZ hown (Or.inl (wd_46 hw)) Via.refl e22 zz10 (d54_26 hby) (pq 29) ?_
 intro T23 X23 e23
 refine w_aloadN X23 hx (d54_29 hby) rfl rfl (pq 30) ?_
 refine w_getF X23 hx "" hZ hown (Or.inl (wd_46 hw)) Via.refl e23 zz11 (d54_30 hby) (pq 33) ?_
 intro T24 X24 e24
 refine w_icN X24 hx (d54_33 hby) (teq (by decide : (0 : Int32) = (0 : Int32))).2 (pq 36) ?_
 refine w_aloadN X24 hx (d54_36 hby) rfl rfl (pq 37) ?_
 refine w_getF X24 hx "" hZ hown (Or.inl (wd_48 hw)) Via.refl e24 zz12 (d54_37 hby) (pq 40) ?_
 intro T25 X25 e25
 refine w_aloadN X25 hx (d54_40 hby) rfl rfl (pq 41) ?_
 refine w_getF X25 hx "" hZ hown (Or.inl (wd_48 hw)) Via.refl e25 zz13 (d54_41 hby) (pq 44) ?_
 intro T26 X26 e26
 refine w_static X26 hx (y := yn_55) hown (mvT hZ (wd_255 hw)) (mvT hZ (wd_256 hw)) (mvT hZ (wd_87 hw)) (mvT hZ (wd_257 hw)) (by decide) (backOf (W := 0) (rm_m55_78 l Z aZ hw [] jj1 jj2 jj3 jj4 jj5 jj6 jj7 h0 n0 Z0 zz14 zz15) hZ (wd_257 hw) (wd_87 hw) (by decide) (by decide)) (by rw [hml]; rfl) [(.ref jj1), (.ref jj2)] (lenOf pd_34 rfl) rfl (Nat.le_of_eq rfl) (d54_44 hby) (fun _ _ => ⟨rfl, e26, (by decide : 0 + 0 ≤ _), (by decide : 0 + 0 ≤ _)⟩) (pq 47) ?_
 rintro _ _ ⟨T27, L27, k27, n27⟩ X27 ⟨Lc27, hQ27, l27, y27, z27⟩
 dsimp only [Pt.U, Pt.locs, Pt.cells, Pt.slots] at X27 l27 y27 z27 hQ27 ⊢
 rw [l27, y27, z27] at X27
 obtain ⟨rfl, N27q, e27⟩ := hQ27
 have N28 := Fr.app N0 N27q
 show Runs _ _ _ _ (T27.setTop (mkF m 47 _ [(.int (1 : Int32))]))
 refine w_ifN X27 hx (d54_47 hby) (feq (by decide : ¬ ((1 : Int32) = (0 : Int32)))).1 (pq 50) ?_
 refine w_iconst X27 hx (d54_50 hby) (v := (1 : Int32)) rfl (pq 51) ?_
 refine w_goto X27 hx (d54_51 hby) (pc' := 55) (by decide) (by decide) ?_
 exact w_done X27 hlk (v := some (.int (1 : Int32))) e27 (fun h => by rw [hret] at h; cases h) (fun fs hr => retN X27 hx (t := .boolean) hret (by simp) (d54_55 hby) hr) (by decide) (by decide) (⟨rfl, N28, rfl⟩)
theorem ef_m55_80 (m : MethodId) (a0 : Addr) (a1 : Addr)  : entryFrame m #[(.ref a0), (.ref a1)] 3 = mkF m 0 #[.val (.ref a0), .val (.ref a1), .unset] [] := by first | (simp [entryFrame, mkF, argsToLocals, Value.category]; done) | rfl
def Q_m55_80 (Z : State) (a0 : Addr) (a1 : Addr) (k_a0 : ClassId) (jj0 : Int32) (jj1 : Int32) (jj2 : Int32) (jj3 : Int32) (k_a1 : ClassId) (h0 : Heap) (n0 : Nat) (v : Option Value) (h : Heap) (L : List Loc) : Prop := v = some (.int (1 : Int32)) ∧ Fr n0 L ∧ h = h0
theorem rm_m55_80 (l : Launch) (Z : State) (aZ : Array Value) (hw : ∀ d ∈ tables_1, d.before aZ Z = true) (ws : List Jvm.Cond) (a0 : Addr) (a1 : Addr) (k_a0 : ClassId) (jj0 : Int32) (jj1 : Int32) (jj2 : Int32) (jj3 : Int32) (k_a1 : ClassId) (h0 : Heap) (n0 : Nat) (Z0 : n0 ≤ h0.size) (V_a0 : Arv Z h0 a0 k_a0 .byte (4 : Int32) [(.int jj0), (.int jj1), (.int jj2), (.int jj3)] (.int (0 : Int32))) (V_a1 : Arv Z h0 a1 k_a1 .byte (4 : Int32) [(.int jj0), (.int jj1), (.int jj2), (.int jj3)] (.int (0 : Int32))) :
    MetN l Z yn_55 jdk_43_method_13_code 3 (some .boolean) ws ({ frames := 0, cells := 0, slots := 0, locals := 0 } : Room) #[(.ref a0), (.ref a1)] h0 (Q_m55_80 Z a0 a1 k_a0 jj0 jj1 jj2 jj3 k_a1 h0 n0) := by
 refine MetN.of (plainFor_of_name pn_5) ?_
 intro p e s m below meth c s₁ hret hx hby hml hown hnm hlk hZ X0 e0
 have N0 := Fr.nil n0
 rw [ef_m55_80 m a0 a1]
 refine w_aloadN X0 hx (d55_0 hby) rfl rfl (pq 1) ?_
 refine w_alen X0 hx hZ e0 V_a0 (d55_1 hby) (pq 2) ?_
 refine w_aloadN X0 hx (d55_2 hby) rfl rfl (pq 3) ?_
 refine w_alen X0 hx hZ e0 V_a1 (d55_3 hby) (pq 4) ?_
 refine w_icN X0 hx (d55_4 hby) (teq (by decide : (4 : Int32) = (4 : Int32))).2 (pq 7) ?_
 refine w_iconst X0 hx (d55_7 hby) (v := (0 : Int32)) rfl (pq 8) ?_
 refine w_istoreN X0 hx (d55_8 hby) (L' := #[.val (.ref a0), .val (.ref a1), .val (.int (0 : Int32))]) rfl (pq 9) ?_
 refine w_iloadN X0 hx (d55_9 hby) rfl (pq 10) ?_
 refine w_aloadN X0 hx (d55_10 hby) rfl rfl (pq 11) ?_
 refine w_alen X0 hx hZ e0 V_a0 (d55_11 hby) (pq 12) ?_
 refine w_icN X0 hx (d55_12 hby) (tlt (by decide : (0 : Int32) < (4 : Int32))).2.1 (pq 15) ?_
 refine w_aloadN X0 hx (d55_15 hby) rfl rfl (pq 16) ?_
 refine w_iloadN X0 hx (d55_16 hby) rfl (pq 17) ?_
 obtain ⟨clu20, Aru20, qu20, Su20, Nu20, Hu20, Gu20⟩ := id V_a0
 have hinu20 := inb_of (j := (0 : Int32)) Su20 ⟨by decide, by decide⟩
 refine w_baload X0 hx hZ e0 Aru20 hinu20 (Hu20.at hinu20 rfl) (d55_17 hby) (pq 18) ?_
 refine w_aloadN X0 hx (d55_18 hby) rfl rfl (pq 19) ?_
 refine w_iloadN X0 hx (d55_19 hby) rfl (pq 20) ?_
 obtain ⟨clu21, Aru21, qu21, Su21, Nu21, Hu21, Gu21⟩ := id V_a1
 have hinu21 := inb_of (j := (0 : Int32)) Su21 ⟨by decide, by decide⟩
 refine w_baload X0 hx hZ e0 Aru21 hinu21 (Hu21.at hinu21 rfl) (d55_20 hby) (pq 21) ?_
 refine w_icY X0 hx (d55_21 hby) (teq (rfl : jj0 = jj0)).1 (pc' := 26) (by decide) (by decide) ?_
 refine w_iinc X0 hx (d55_26 hby) (v := (1 : Int32)) rfl rfl (L' := #[.val (.ref a0), .val (.ref a1), .val (.int ((0 : Int32) + (1 : Int32)))]) rfl (pq 29) ?_
 rw [show ((0 : Int32) + (1 : Int32)) = (1 : Int32) from by decide]
 refine w_goto X0 hx (d55_29 hby) (pc' := 9) (by decide) (by decide) ?_
 refine w_iloadN X0 hx (d55_9 hby) rfl (pq 10) ?_
 refine w_aloadN X0 hx (d55_10 hby) rfl rfl (pq 11) ?_
 refine w_alen X0 hx hZ e0 V_a0 (d55_11 hby) (pq 12) ?_
 refine w_icN X0 hx (d55_12 hby) (tlt (by decide : (1 : Int32) < (4 : Int32))).2.1 (pq 15) ?_
 refine w_aloadN X0 hx (d55_15 hby) rfl rfl (pq 16) ?_
 refine w_iloadN X0 hx (d55_16 hby) rfl (pq 17) ?_
 obtain ⟨clu22, Aru22, qu22, Su22, Nu22, Hu22, Gu22⟩ := id V_a0
 have hinu22 := inb_of (j := (1 : Int32)) Su22 ⟨by decide, by decide⟩
 refine w_baload X0 hx hZ e0 Aru22 hinu22 (Hu22.at hinu22 rfl) (d55_17 hby) (pq 18) ?_
 refine w_aloadN X0 hx (d55_18 hby) rfl rfl (pq 19) ?_
 refine w_iloadN X0 hx (d55_19 hby) rfl (pq 20) ?_
 obtain ⟨clu23, Aru23, qu23, Su23, Nu23, Hu23, Gu23⟩ := id V_a1
 have hinu23 := inb_of (j := (1 : Int32)) Su23 ⟨by decide, by decide⟩
 refine w_baload X0 hx hZ e0 Aru23 hinu23 (Hu23.at hinu23 rfl) (d55_20 hby) (pq 21) ?_
 refine w_icY X0 hx (d55_21 hby) (teq (rfl : jj1 = jj1)).1 (pc' := 26) (by decide) (by decide) ?_
 refine w_iinc X0 hx (d55_26 hby) (v := (1 : Int32)) rfl rfl (L' := #[.val (.ref a0), .val (.ref a1), .val (.int ((1 : Int32) + (1 : Int32)))]) rfl (pq 29) ?_
 rw [show ((1 : Int32) + (1 : Int32)) = (2 : Int32) from by decide]
 refine w_goto X0 hx (d55_29 hby) (pc' := 9) (by decide) (by decide) ?_
 refine w_iloadN X0 hx (d55_9 hby) rfl (pq 10) ?_
 refine w_aloadN X0 hx (d55_10 hby) rfl rfl (pq 11) ?_
 refine w_alen X0 hx hZ e0 V_a0 (d55_11 hby) (pq 12) ?_
 refine w_icN X0 hx (d55_12 hby) (tlt (by decide : (2 : Int32) < (4 : Int32))).2.1 (pq 15) ?_
 refine w_aloadN X0 hx (d55_15 hby) rfl rfl (pq 16) ?_
 refine w_iloadN X0 hx (d55_16 hby) rfl (pq 17) ?_
 obtain ⟨clu24, Aru24, qu24, Su24, Nu24, Hu24, Gu24⟩ := id V_a0
 have hinu24 := inb_of (j := (2 : Int32)) Su24 ⟨by decide, by decide⟩
 refine w_baload X0 hx hZ e0 Aru24 hinu24 (Hu24.at hinu24 rfl) (d55_17 hby) (pq 18) ?_
 refine w_aloadN X0 hx (d55_18 hby) rfl rfl (pq 19) ?_
 refine w_iloadN X0 hx (d55_19 hby) rfl (pq 20) ?_
 obtain ⟨clu25, Aru25, qu25, Su25, Nu25, Hu25, Gu25⟩ := id V_a1
 have hinu25 := inb_of (j := (2 : Int32)) Su25 ⟨by decide, by decide⟩
 refine w_baload X0 hx hZ e0 Aru25 hinu25 (Hu25.at hinu25 rfl) (d55_20 hby) (pq 21) ?_
 refine w_icY X0 hx (d55_21 hby) (teq (rfl : jj2 = jj2)).1 (pc' := 26) (by decide) (by decide) ?_
 refine w_iinc X0 hx (d55_26 hby) (v := (1 : Int32)) rfl rfl (L' := #[.val (.ref a0), .val (.ref a1), .val (.int ((2 : Int32) + (1 : Int32)))]) rfl (pq 29) ?_
 rw [show ((2 : Int32) + (1 : Int32)) = (3 : Int32) from by decide]
 refine w_goto X0 hx (d55_29 hby) (pc' := 9) (by decide) (by decide) ?_
 refine w_iloadN X0 hx (d55_9 hby) rfl (pq 10) ?_
 refine w_aloadN X0 hx (d55_10 hby) rfl rfl (pq 11) ?_
 refine w_alen X0 hx hZ e0 V_a0 (d55_11 hby) (pq 12) ?_
 refine w_icN X0 hx (d55_12 hby) (tlt (by decide : (3 : Int32) < (4 : Int32))).2.1 (pq 15) ?_
 refine w_aloadN X0 hx (d55_15 hby) rfl rfl (pq 16) ?_
 refine w_iloadN X0 hx (d55_16 hby) rfl (pq 17) ?_
 obtain ⟨clu26, Aru26, qu26, Su26, Nu26, Hu26, Gu26⟩ := id V_a0
 have hinu26 := inb_of (j := (3 : Int32)) Su26 ⟨by decide, by decide⟩
 refine w_baload X0 hx hZ e0 Aru26 hinu26 (Hu26.at hinu26 rfl) (d55_17 hby) (pq 18) ?_
 refine w_aloadN X0 hx (d55_18 hby) rfl rfl (pq 19) ?_
 refine w_iloadN X0 hx (d55_19 hby) rfl (pq 20) ?_
 obtain ⟨clu27, Aru27, qu27, Su27, Nu27, Hu27, Gu27⟩ := id V_a1
 have hinu27 := inb_of (j := (3 : Int32)) Su27 ⟨by decide, by decide⟩
 refine w_baload X0 hx hZ e0 Aru27 hinu27 (Hu27.at hinu27 rfl) (d55_20 hby) (pq 21) ?_
 refine w_icY X0 hx (d55_21 hby) (teq (rfl : jj3 = jj3)).1 (pc' := 26) (by decide) (by decide) ?_
 refine w_iinc X0 hx (d55_26 hby) (v := (1 : Int32)) rfl rfl (L' := #[.val (.ref a0), .val (.ref a1), .val (.int ((3 : Int32) + (1 : Int32)))]) rfl (pq 29) ?_
 rw [show ((3 : Int32) + (1 : Int32)) = (4 : Int32) from by decide]
 refine w_goto X0 hx (d55_29 hby) (pc' := 9) (by decide) (by decide) ?_
 refine w_iloadN X0 hx (d55_9 hby) rfl (pq 10) ?_
 refine w_aloadN X0 hx (d55_10 hby) rfl rfl (pq 11) ?_
 refine w_alen X0 hx hZ e0 V_a0 (d55_11 hby) (pq 12) ?_
 refine w_icY X0 hx (d55_12 hby) (flt (by decide : ¬ ((4 : Int32) < (4 : Int32)))).2.1 (pc' := 32) (by decide) (by decide) ?_
 refine w_iconst X0 hx (d55_32 hby) (v := (1 : Int32)) rfl (pq 33) ?_
 exact w_done X0 hlk (v := some (.int (1 : Int32))) e0 (fun h => by rw [hret] at h; cases h) (fun fs hr => retN X0 hx (t := .boolean) hret (by simp) (d55_33 hby) hr) (by decide) (by decide) (⟨rfl, N0, rfl⟩)
theorem ef_m54_79 (m : MethodId) (a0 : Addr) (a1 : Addr)  : entryFrame m #[(.ref a0), (.ref a1)] 3 = mkF m 0 #[.val (.ref a0), .val (.ref a1), .unset] [] := by first | (simp [entryFrame, mkF, argsToLocals, Value.category]; done) | rfl
def Q_m54_79 (Z : State) (a0 : Addr) (a1 : Addr) (jj0 : Int32) (jj1 : Addr) (jj2 : Addr) (jj3 : ClassId) (jj4 : Int32) (jj5 : Int32) (jj6 : Int32) (jj7 : Int32) (jj8 : ClassId) (h0 : Heap) (n0 : Nat) (v : Option Value) (h : Heap) (L : List Loc) : Prop := v = some (.int (1 : Int32)) ∧ Fr n0 L ∧ h = h0
theorem rm_m54_79 (l : Launch) (Z : State) (aZ : Array Value) (hw : ∀ d ∈ tables_1, d.before aZ Z = true) (ws : List Jvm.Cond) (a0 : Addr) (a1 : Addr) (jj0 : Int32) (jj1 : Addr) (jj2 : Addr) (jj3 : ClassId) (jj4 : Int32) (jj5 : Int32) (jj6 : Int32) (jj7 : Int32) (jj8 : ClassId) (h0 : Heap) (n0 : Nat) (Z0 : n0 ≤ h0.size) (zz9 : a0 ≠ a1) (E_a1 : Exa Z h0 a1 kc0) (zz10 : Sta Z Z.heap kc0 "COMPACT_STRINGS" "Z" (.int jj0)) (O0 : Old Z n0 h0) (hP_4 : ¬ (jj0 = (0 : Int32))) (zz11 : Fld Z h0 a0 kc0 "coder" "B" (.int (0 : Int32))) (zz12 : Fld Z h0 a1 kc0 "coder" "B" (.int (0 : Int32))) (zz13 : Fld Z h0 a0 kc0 "value" "[B" (.ref jj1)) (zz14 : Fld Z h0 a1 kc0 "value" "[B" (.ref jj2)) (zz15 : Arv Z h0 jj1 jj3 .byte (4 : Int32) [(.int jj4), (.int jj5), (.int jj6), (.int jj7)] (.int (0 : Int32))) (zz16 : Arv Z h0 jj2 jj8 .byte (4 : Int32) [(.int jj4), (.int jj5), (.int jj6), (.int jj7)] (.int (0 : Int32))) :
    MetN l Z yn_54 jdk_42_method_66_code 3 (some .boolean) ws ({ frames := 1, cells := 0, slots := 0, locals := 14 } : Room) #[(.ref a0), (.ref a1)] h0 (Q_m54_79 Z a0 a1 jj0 jj1 jj2 jj3 jj4 jj5 jj6 jj7 jj8 h0 n0) := by
 refine MetN.of (plainFor_of_name pn_3) ?_
 intro p e s m below meth c s₁ hret hx hby hml hown hnm hlk hZ X0 e0
 have N0 := Fr.nil n0
 rw [ef_m54_79 m a0 a1]
 refine w_aloadN X0 hx (d54_0 hby) rfl rfl (pq 1) ?_
 refine w_aloadN X0 hx (d54_1 hby) rfl rfl (pq 2) ?_
 refine w_acmp X0 hx (d54_2 hby) (same := false) rfl rfl (decide_eq_false fun q => zz9 (Value.ref.inj q)) (pc' := 7) (by decide) (by decide) ?_
 refine w_aloadN X0 hx (d54_7 hby) rfl rfl (pq 8) ?_
 refine w_instY X0 hx hZ hown (wd_254 hw) e0 (Ins.self E_a1) (d54_8 hby) (pq 11) ?_
 intro T20 X20 e20
 refine w_ifN X20 hx (d54_11 hby) (feq (by decide : ¬ ((1 : Int32) = (0 : Int32)))).1 (pq 14) ?_
 refine w_aloadN X20 hx (d54_14 hby) rfl rfl (pq 15) ?_
 refine w_castY X20 hx hZ hown (wd_254 hw) e20 (Ins.self E_a1) (d54_15 hby) (pq 18) ?_
 intro T21 X21 e21
 refine w_astoreN X21 hx (d54_18 hby) rfl (L' := #[.val (.ref a0), .val (.ref a1), .val (.ref a1)]) rfl (pq 19) ?_
 refine w_getS X21 hx "" hZ hown (Or.inl (wd_34 hw)) Via.refl e21 (zz10.ext O0.2) (d54_19 hby) (pq 22) ?_
 intro T22 X22 e22
 refine w_ifN X22 hx (d54_22 hby) (feq hP_4).1 (pq 25) ?_
 refine w_aloadN X22 hx (d54_25 hby) rfl rfl (pq 26) ?_
 refine w_getF X22 hx "" hZ hown (Or.inl (wd_46 hw)) Via.refl e22 zz11 (d54_26 hby) (pq 29) ?_
 intro T23 X23 e23
 refine w_aloadN X23 hx (d54_29 hby) rfl rfl (pq 30) ?_
 refine w_getF X23 hx "" hZ hown (Or.inl (wd_46 hw)) Via.refl e23 zz12 (d54_30 hby) (pq 33) ?_
 intro T24 X24 e24
 refine w_icN X24 hx (d54_33 hby) (teq (by decide : (0 : Int32) = (0 : Int32))).2 (pq 36) ?_
 refine w_aloadN X24 hx (d54_36 hby) rfl rfl (pq 37) ?_
 refine w_getF X24 hx "" hZ hown (Or.inl (wd_48 hw)) Via.refl e24 zz13 (d54_37 hby) (pq 40) ?_
 intro T25 X25 e25
 refine w_aloadN X25 hx (d54_40 hby) rfl rfl (pq 41) ?_
 refine w_getF X25 hx "" hZ hown (Or.inl (wd_48 hw)) Via.refl e25 zz14 (d54_41 hby) (pq 44) ?_
 intro T26 X26 e26
 refine w_static X26 hx (y := yn_55) hown (mvT hZ (wd_255 hw)) (mvT hZ (wd_256 hw)) (mvT hZ (wd_87 hw)) (mvT hZ (wd_257 hw)) (by decide) (backOf (W := 0) (rm_m55_80 l Z aZ hw [] jj1 jj2 jj3 jj4 jj5 jj6 jj7 jj8 h0 n0 Z0 zz15 zz16) hZ (wd_257 hw) (wd_87 hw) (by decide) (by decide)) (by rw [hml]; rfl) [(.ref jj1), (.ref jj2)] (lenOf pd_34 rfl) rfl (Nat.le_of_eq rfl) (d54_44 hby) (fun _ _ => ⟨rfl, e26, (by decide : 0 + 0 ≤ _), (by decide : 0 + 0 ≤ _)⟩) (pq 47) ?_
 rintro _ _ ⟨T27, L27, k27, n27⟩ X27 ⟨Lc27, hQ27, l27, y27, z27⟩
 dsimp only [Pt.U, Pt.locs, Pt.cells, Pt.slots] at X27 l27 y27 z27 hQ27 ⊢
 rw [l27, y27, z27] at X27
 obtain ⟨rfl, N27q, e27⟩ := hQ27
 have N28 := Fr.app N0 N27q
 show Runs _ _ _ _ (T27.setTop (mkF m 47 _ [(.int (1 : Int32))]))
 refine w_ifN X27 hx (d54_47 hby) (feq (by decide : ¬ ((1 : Int32) = (0 : Int32)))).1 (pq 50) ?_
 refine w_iconst X27 hx (d54_50 hby) (v := (1 : Int32)) rfl (pq 51) ?_
 refine w_goto X27 hx (d54_51 hby) (pc' := 55) (by decide) (by decide) ?_
 exact w_done X27 hlk (v := some (.int (1 : Int32))) e27 (fun h => by rw [hret] at h; cases h) (fun fs hr => retN X27 hx (t := .boolean) hret (by simp) (d54_55 hby) hr) (by decide) (by decide) (⟨rfl, N28, rfl⟩)
theorem ef_law (m : MethodId) (p0 : Int32) (p1 : Int32) (p2 : Int32) (p3 : Int32) (p4 : Int32) (p5 : Int32)  : entryFrame m #[(.int p0), (.int p1), (.int p2), (.int p3), (.int p4), (.int p5)] maxLocals = mkF m 0 #[.val (.int p0), .val (.int p1), .val (.int p2), .val (.int p3), .val (.int p4), .val (.int p5), .unset, .unset, .unset, .unset, .unset, .unset, .unset, .unset, .unset, .unset, .unset, .unset, .unset, .unset] [] := by first | (simp [entryFrame, mkF, argsToLocals, Value.category, maxLocals]; done) | rfl
def Q_law (Z : State) (p0 : Int32) (p1 : Int32) (p2 : Int32) (p3 : Int32) (p4 : Int32) (p5 : Int32) (G_COMPACT_STRINGS : Int32) (G_SIOOBE_FORMATTER : Value) (h0 : Heap) (n0 : Nat) (v : Option Value) (h : Heap) (L : List Loc) (S : Addr → Prop) : Prop := v = some (.int (1 : Int32)) ∧ Fr n0 L
theorem rm_law (l : Launch) (Z : State) (aZ : Array Value) (hw : ∀ d ∈ tables_1, d.before aZ Z = true) (ws : List Jvm.Cond) (p0 : Int32) (p1 : Int32) (p2 : Int32) (p3 : Int32) (p4 : Int32) (p5 : Int32) (G_COMPACT_STRINGS : Int32) (G_SIOOBE_FORMATTER : Value) (h0 : Heap) (n0 : Nat) (Z0 : n0 ≤ h0.size) (S_COMPACT_STRINGS : Sta Z Z.heap kc0 "COMPACT_STRINGS" "Z" (.int G_COMPACT_STRINGS)) (O0 : Old Z n0 h0) (hP_2 : ¬ (G_COMPACT_STRINGS = (0 : Int32))) (r_G_SIOOBE_FORMATTER : G_SIOOBE_FORMATTER.isRef = true) (S_SIOOBE_FORMATTER : Sta Z Z.heap kc3 "SIOOBE_FORMATTER" "Ljava/util/function/BiFunction;" G_SIOOBE_FORMATTER) :
    MetH l Z EL x code maxLocals ret ws room_1 #[(.int p0), (.int p1), (.int p2), (.int p3), (.int p4), (.int p5)] h0 (Q_law Z p0 p1 p2 p3 p4 p5 G_COMPACT_STRINGS G_SIOOBE_FORMATTER h0 n0) [] := by
 refine MetH.of (plainFor_of_name pn_0) ?_
 intro p e s m below meth c s₁ hret hx hby hml hown hnm hlk hZ X0 e0 hh hH hsf hS0 C0
 have N0 := Fr.nil n0
 rw [ef_law m p0 p1 p2 p3 p4 p5]
 refine w_iconst X0 hx (hb hby at_0) (v := (1 : Int32)) rfl (pq 1) ?_
 refine w_iload X0 hx (hb hby at_1) rfl (pq 3) ?_
 refine w_iconst X0 hx (hb hby at_3) (v := (3 : Int32)) rfl (pq 4) ?_
 refine w_iand X0 hx (hb hby at_4) (pq 5) ?_
 refine w_iadd X0 hx (hb hby at_5) (pq 6) ?_
 refine w_istore X0 hx (hb hby at_6) (L' := #[.val (.int p0), .val (.int p1), .val (.int p2), .val (.int p3), .val (.int p4), .val (.int p5), .val (.int ((1 : Int32) + (p4 &&& (3 : Int32)))), .unset, .unset, .unset, .unset, .unset, .unset, .unset, .unset, .unset, .unset, .unset, .unset, .unset]) rfl (pq 8) ?_
 have hg20 : ¬ ((1 : Int32) + (p4 &&& (3 : Int32))) < 1 := (own_n4 _).1
 have hg21 : ((1 : Int32) + (p4 &&& (3 : Int32))) < 5 := (own_n4 _).2
 generalize ((1 : Int32) + (p4 &&& (3 : Int32))) = nn at hg20 hg21 ⊢
 refine w_iloadN X0 hx (hb hby at_8) rfl (pq 9) ?_
 refine w_static X0 hx (y := yn_1) hown (mvT hZ (wd_0 hw)) (mvT hZ (wd_1 hw)) (mvT hZ (wd_2 hw)) (mvT hZ (wd_3 hw)) (by decide) (backOf (W := 0) (rm_keyChar l Z aZ hw [] p0 h0 n0 Z0 ) hZ (wd_3 hw) (wd_2 hw) (by decide) (by decide)) (by rw [hml]; rfl) [(.int p0)] (lenOf pd_1 rfl) rfl (Nat.le_of_eq rfl) (hb hby at_9) (fun _ _ => ⟨rfl, e0, (by decide : 0 + 0 ≤ _), (by decide : 0 + 0 ≤ _)⟩) (pq 12) ?_
 rintro _ _ ⟨T22, L22, k22, n22⟩ X22 ⟨Lc22, hQ22, l22, y22, z22⟩
 dsimp only [Pt.U, Pt.locs, Pt.cells, Pt.slots] at X22 l22 y22 z22 hQ22 ⊢
 rw [l22, y22, z22] at X22
 obtain ⟨c_22, rfl, N22q, e22, g22_0, g22_1⟩ := hQ22
 have N23 := Fr.app N0 N22q
 show Runs _ _ _ _ (T22.setTop (mkF m 12 _ [(.int c_22)]))
 refine w_istore X22 hx (hb hby at_12) (L' := #[.val (.int p0), .val (.int p1), .val (.int p2), .val (.int p3), .val (.int p4), .val (.int p5), .val (.int nn), .val (.int c_22), .unset, .unset, .unset, .unset, .unset, .unset, .unset, .unset, .unset, .unset, .unset, .unset]) rfl (pq 14) ?_
 refine w_iloadN X22 hx (hb hby at_14) rfl (pq 15) ?_
 refine w_static X22 hx (y := yn_1) hown (mvT hZ (wd_0 hw)) (mvT hZ (wd_1 hw)) (mvT hZ (wd_2 hw)) (mvT hZ (wd_3 hw)) (by decide) (backOf (W := 0) (rm_keyChar l Z aZ hw [] p1 h0 n0 Z0 ) hZ (wd_3 hw) (wd_2 hw) (by decide) (by decide)) (by rw [hml]; rfl) [(.int p1)] (lenOf pd_1 rfl) rfl (Nat.le_of_eq rfl) (hb hby at_15) (fun _ _ => ⟨rfl, e22, (by decide : 0 + 0 ≤ _), (by decide : 0 + 0 ≤ _)⟩) (pq 18) ?_
 rintro _ _ ⟨T24, L24, k24, n24⟩ X24 ⟨Lc24, hQ24, l24, y24, z24⟩
 dsimp only [Pt.U, Pt.locs, Pt.cells, Pt.slots] at X24 l24 y24 z24 hQ24 ⊢
 rw [l24, y24, z24] at X24
 obtain ⟨c_24, rfl, N24q, e24, g24_0, g24_1⟩ := hQ24
 have N25 := Fr.app N23 N24q
 show Runs _ _ _ _ (T24.setTop (mkF m 18 _ [(.int c_24)]))
 refine w_istore X24 hx (hb hby at_18) (L' := #[.val (.int p0), .val (.int p1), .val (.int p2), .val (.int p3), .val (.int p4), .val (.int p5), .val (.int nn), .val (.int c_22), .val (.int c_24), .unset, .unset, .unset, .unset, .unset, .unset, .unset, .unset, .unset, .unset, .unset]) rfl (pq 20) ?_
 refine w_iloadN X24 hx (hb hby at_20) rfl (pq 21) ?_
 refine w_static X24 hx (y := yn_1) hown (mvT hZ (wd_0 hw)) (mvT hZ (wd_1 hw)) (mvT hZ (wd_2 hw)) (mvT hZ (wd_3 hw)) (by decide) (backOf (W := 0) (rm_keyChar l Z aZ hw [] p2 h0 n0 Z0 ) hZ (wd_3 hw) (wd_2 hw) (by decide) (by decide)) (by rw [hml]; rfl) [(.int p2)] (lenOf pd_1 rfl) rfl (Nat.le_of_eq rfl) (hb hby at_21) (fun _ _ => ⟨rfl, e24, (by decide : 0 + 0 ≤ _), (by decide : 0 + 0 ≤ _)⟩) (pq 24) ?_
 rintro _ _ ⟨T26, L26, k26, n26⟩ X26 ⟨Lc26, hQ26, l26, y26, z26⟩
 dsimp only [Pt.U, Pt.locs, Pt.cells, Pt.slots] at X26 l26 y26 z26 hQ26 ⊢
 rw [l26, y26, z26] at X26
 obtain ⟨c_26, rfl, N26q, e26, g26_0, g26_1⟩ := hQ26
 have N27 := Fr.app N25 N26q
 show Runs _ _ _ _ (T26.setTop (mkF m 24 _ [(.int c_26)]))
 refine w_istore X26 hx (hb hby at_24) (L' := #[.val (.int p0), .val (.int p1), .val (.int p2), .val (.int p3), .val (.int p4), .val (.int p5), .val (.int nn), .val (.int c_22), .val (.int c_24), .val (.int c_26), .unset, .unset, .unset, .unset, .unset, .unset, .unset, .unset, .unset, .unset]) rfl (pq 26) ?_
 refine w_iloadN X26 hx (hb hby at_26) rfl (pq 27) ?_
 refine w_static X26 hx (y := yn_1) hown (mvT hZ (wd_0 hw)) (mvT hZ (wd_1 hw)) (mvT hZ (wd_2 hw)) (mvT hZ (wd_3 hw)) (by decide) (backOf (W := 0) (rm_keyChar l Z aZ hw [] p3 h0 n0 Z0 ) hZ (wd_3 hw) (wd_2 hw) (by decide) (by decide)) (by rw [hml]; rfl) [(.int p3)] (lenOf pd_1 rfl) rfl (Nat.le_of_eq rfl) (hb hby at_27) (fun _ _ => ⟨rfl, e26, (by decide : 0 + 0 ≤ _), (by decide : 0 + 0 ≤ _)⟩) (pq 30) ?_
 rintro _ _ ⟨T28, L28, k28, n28⟩ X28 ⟨Lc28, hQ28, l28, y28, z28⟩
 dsimp only [Pt.U, Pt.locs, Pt.cells, Pt.slots] at X28 l28 y28 z28 hQ28 ⊢
 rw [l28, y28, z28] at X28
 obtain ⟨c_28, rfl, N28q, e28, g28_0, g28_1⟩ := hQ28
 have N29 := Fr.app N27 N28q
 show Runs _ _ _ _ (T28.setTop (mkF m 30 _ [(.int c_28)]))
 refine w_istore X28 hx (hb hby at_30) (L' := #[.val (.int p0), .val (.int p1), .val (.int p2), .val (.int p3), .val (.int p4), .val (.int p5), .val (.int nn), .val (.int c_22), .val (.int c_24), .val (.int c_26), .val (.int c_28), .unset, .unset, .unset, .unset, .unset, .unset, .unset, .unset, .unset]) rfl (pq 32) ?_
 suffices key30 : ∀ (T32 : State) (L33 : List Loc) (gr31 : Int32), Stand p l e room_1 (s.setVm s.vm) m #[(.int p0), (.int p1), (.int p2), (.int p3), (.int p4), (.int p5)] below meth c T32 L33 0 0 → T32.heap = h0 → Fr n0 L33 → ((gr31 = (0 : Int32) ∨ (gr31 = (1 : Int32) ∧ PLs nn c_22 c_24 c_26 c_28))) → Runs p e below (EndH s Z EL (Q_law Z p0 p1 p2 p3 p4 p5 G_COMPACT_STRINGS G_SIOOBE_FORMATTER h0 n0) room_1.cells room_1.slots) (T32.setTop (mkF m 87 #[.val (.int p0), .val (.int p1), .val (.int p2), .val (.int p3), .val (.int p4), .val (.int p5), .val (.int nn), .val (.int c_22), .val (.int c_24), .val (.int c_26), .val (.int c_28), .unset, .unset, .unset, .unset, .unset, .unset, .unset, .unset, .unset] [(.int gr31)])) by
  refine w_iload X28 hx (hb hby at_32) rfl (pq 34) ?_
  refine w_static X28 hx (y := yn_2) hown (mvT hZ (wd_5 hw)) (mvT hZ (wd_6 hw)) (mvT hZ (wd_2 hw)) (mvT hZ (wd_7 hw)) (by decide) (backOf (W := 0) (rm_plain l Z aZ hw [] c_22 h0 n0 Z0 ) hZ (wd_7 hw) (wd_2 hw) (by decide) (by decide)) (by rw [hml]; rfl) [(.int c_22)] (lenOf pd_0 rfl) rfl (Nat.le_of_eq rfl) (hb hby at_34) (fun _ _ => ⟨rfl, e28, (by decide : 0 + 0 ≤ _), (by decide : 0 + 0 ≤ _)⟩) (pq 37) ?_
  rintro _ _ ⟨T34, L34, k34, n34⟩ X34 ⟨Lc34, hQ34, l34, y34, z34⟩
  dsimp only [Pt.U, Pt.locs, Pt.cells, Pt.slots] at X34 l34 y34 z34 hQ34 ⊢
  rw [l34, y34, z34] at X34
  obtain ⟨rfl, N34q, e34⟩ := hQ34
  have N35 := Fr.app N29 N34q
  show Runs _ _ _ _ (T34.setTop (mkF m 37 _ [(.int (plF c_22))]))
  by_cases hc36 : (plF c_22) = (0 : Int32)
  · refine w_ifY X34 hx (hb hby at_37) (teq hc36).1 (pc' := 86) (by decide) (by decide) ?_
    refine w_iconst X34 hx (hb hby at_86) (v := (0 : Int32)) rfl (pq 87) ?_
    exact key30 _ _ _ X34 e34 N35 (Or.inl rfl)
  · refine w_ifN X34 hx (hb hby at_37) (feq hc36).1 (pq 40) ?_
    refine w_iload X34 hx (hb hby at_40) rfl (pq 42) ?_
    refine w_iconst X34 hx (hb hby at_42) (v := (2 : Int32)) rfl (pq 43) ?_
    by_cases hc37 : nn < (2 : Int32)
    · refine w_icY X34 hx (hb hby at_43) (tlt hc37).1 (pc' := 54) (by decide) (by decide) ?_
      refine w_iload X34 hx (hb hby at_54) rfl (pq 56) ?_
      refine w_iconst X34 hx (hb hby at_56) (v := (3 : Int32)) rfl (pq 57) ?_
      refine w_icY X34 hx (hb hby at_57) (tlt (own_ltm hc37 (by decide : (2 : Int32) < (3 : Int32)))).1 (pc' := 68) (by decide) (by decide) ?_
      refine w_iload X34 hx (hb hby at_68) rfl (pq 70) ?_
      refine w_iconst X34 hx (hb hby at_70) (v := (4 : Int32)) rfl (pq 71) ?_
      refine w_icY X34 hx (hb hby at_71) (tlt (own_ltm hc37 (by decide : (2 : Int32) < (4 : Int32)))).1 (pc' := 82) (by decide) (by decide) ?_
      refine w_iconst X34 hx (hb hby at_82) (v := (1 : Int32)) rfl (pq 83) ?_
      refine w_goto X34 hx (hb hby at_83) (pc' := 87) (by decide) (by decide) ?_
      exact key30 _ _ _ X34 e34 N35 (Or.inr ⟨rfl, hc36, (Or.inl hc37), (Or.inl (own_ltm hc37 (by decide : (2 : Int32) < (3 : Int32)))), (Or.inl (own_ltm hc37 (by decide : (2 : Int32) < (4 : Int32))))⟩)
    · refine w_icN X34 hx (hb hby at_43) (flt hc37).1 (pq 46) ?_
      refine w_iload X34 hx (hb hby at_46) rfl (pq 48) ?_
      refine w_static X34 hx (y := yn_2) hown (mvT hZ (wd_5 hw)) (mvT hZ (wd_6 hw)) (mvT hZ (wd_2 hw)) (mvT hZ (wd_7 hw)) (by decide) (backOf (W := 0) (rm_plain l Z aZ hw [] c_24 h0 n0 Z0 ) hZ (wd_7 hw) (wd_2 hw) (by decide) (by decide)) (by rw [hml]; rfl) [(.int c_24)] (lenOf pd_0 rfl) rfl (Nat.le_of_eq rfl) (hb hby at_48) (fun _ _ => ⟨rfl, e34, (by decide : 0 + 0 ≤ _), (by decide : 0 + 0 ≤ _)⟩) (pq 51) ?_
      rintro _ _ ⟨T38, L38, k38, n38⟩ X38 ⟨Lc38, hQ38, l38, y38, z38⟩
      dsimp only [Pt.U, Pt.locs, Pt.cells, Pt.slots] at X38 l38 y38 z38 hQ38 ⊢
      rw [l38, y38, z38] at X38
      obtain ⟨rfl, N38q, e38⟩ := hQ38
      have N39 := Fr.app N35 N38q
      show Runs _ _ _ _ (T38.setTop (mkF m 51 _ [(.int (plF c_24))]))
      by_cases hc40 : (plF c_24) = (0 : Int32)
      · refine w_ifY X38 hx (hb hby at_51) (teq hc40).1 (pc' := 86) (by decide) (by decide) ?_
        refine w_iconst X38 hx (hb hby at_86) (v := (0 : Int32)) rfl (pq 87) ?_
        exact key30 _ _ _ X38 e38 N39 (Or.inl rfl)
      · refine w_ifN X38 hx (hb hby at_51) (feq hc40).1 (pq 54) ?_
        refine w_iload X38 hx (hb hby at_54) rfl (pq 56) ?_
        refine w_iconst X38 hx (hb hby at_56) (v := (3 : Int32)) rfl (pq 57) ?_
        by_cases hc41 : nn < (3 : Int32)
        · refine w_icY X38 hx (hb hby at_57) (tlt hc41).1 (pc' := 68) (by decide) (by decide) ?_
          refine w_iload X38 hx (hb hby at_68) rfl (pq 70) ?_
          refine w_iconst X38 hx (hb hby at_70) (v := (4 : Int32)) rfl (pq 71) ?_
          refine w_icY X38 hx (hb hby at_71) (tlt (own_ltm hc41 (by decide : (3 : Int32) < (4 : Int32)))).1 (pc' := 82) (by decide) (by decide) ?_
          refine w_iconst X38 hx (hb hby at_82) (v := (1 : Int32)) rfl (pq 83) ?_
          refine w_goto X38 hx (hb hby at_83) (pc' := 87) (by decide) (by decide) ?_
          exact key30 _ _ _ X38 e38 N39 (Or.inr ⟨rfl, hc36, (Or.inr hc40), (Or.inl hc41), (Or.inl (own_ltm hc41 (by decide : (3 : Int32) < (4 : Int32))))⟩)
        · refine w_icN X38 hx (hb hby at_57) (flt hc41).1 (pq 60) ?_
          refine w_iload X38 hx (hb hby at_60) rfl (pq 62) ?_
          refine w_static X38 hx (y := yn_2) hown (mvT hZ (wd_5 hw)) (mvT hZ (wd_6 hw)) (mvT hZ (wd_2 hw)) (mvT hZ (wd_7 hw)) (by decide) (backOf (W := 0) (rm_plain l Z aZ hw [] c_26 h0 n0 Z0 ) hZ (wd_7 hw) (wd_2 hw) (by decide) (by decide)) (by rw [hml]; rfl) [(.int c_26)] (lenOf pd_0 rfl) rfl (Nat.le_of_eq rfl) (hb hby at_62) (fun _ _ => ⟨rfl, e38, (by decide : 0 + 0 ≤ _), (by decide : 0 + 0 ≤ _)⟩) (pq 65) ?_
          rintro _ _ ⟨T42, L42, k42, n42⟩ X42 ⟨Lc42, hQ42, l42, y42, z42⟩
          dsimp only [Pt.U, Pt.locs, Pt.cells, Pt.slots] at X42 l42 y42 z42 hQ42 ⊢
          rw [l42, y42, z42] at X42
          obtain ⟨rfl, N42q, e42⟩ := hQ42
          have N43 := Fr.app N39 N42q
          show Runs _ _ _ _ (T42.setTop (mkF m 65 _ [(.int (plF c_26))]))
          by_cases hc44 : (plF c_26) = (0 : Int32)
          · refine w_ifY X42 hx (hb hby at_65) (teq hc44).1 (pc' := 86) (by decide) (by decide) ?_
            refine w_iconst X42 hx (hb hby at_86) (v := (0 : Int32)) rfl (pq 87) ?_
            exact key30 _ _ _ X42 e42 N43 (Or.inl rfl)
          · refine w_ifN X42 hx (hb hby at_65) (feq hc44).1 (pq 68) ?_
            refine w_iload X42 hx (hb hby at_68) rfl (pq 70) ?_
            refine w_iconst X42 hx (hb hby at_70) (v := (4 : Int32)) rfl (pq 71) ?_
            by_cases hc45 : nn < (4 : Int32)
            · refine w_icY X42 hx (hb hby at_71) (tlt hc45).1 (pc' := 82) (by decide) (by decide) ?_
              refine w_iconst X42 hx (hb hby at_82) (v := (1 : Int32)) rfl (pq 83) ?_
              refine w_goto X42 hx (hb hby at_83) (pc' := 87) (by decide) (by decide) ?_
              exact key30 _ _ _ X42 e42 N43 (Or.inr ⟨rfl, hc36, (Or.inr hc40), (Or.inr hc44), (Or.inl hc45)⟩)
            · refine w_icN X42 hx (hb hby at_71) (flt hc45).1 (pq 74) ?_
              refine w_iload X42 hx (hb hby at_74) rfl (pq 76) ?_
              refine w_static X42 hx (y := yn_2) hown (mvT hZ (wd_5 hw)) (mvT hZ (wd_6 hw)) (mvT hZ (wd_2 hw)) (mvT hZ (wd_7 hw)) (by decide) (backOf (W := 0) (rm_plain l Z aZ hw [] c_28 h0 n0 Z0 ) hZ (wd_7 hw) (wd_2 hw) (by decide) (by decide)) (by rw [hml]; rfl) [(.int c_28)] (lenOf pd_0 rfl) rfl (Nat.le_of_eq rfl) (hb hby at_76) (fun _ _ => ⟨rfl, e42, (by decide : 0 + 0 ≤ _), (by decide : 0 + 0 ≤ _)⟩) (pq 79) ?_
              rintro _ _ ⟨T46, L46, k46, n46⟩ X46 ⟨Lc46, hQ46, l46, y46, z46⟩
              dsimp only [Pt.U, Pt.locs, Pt.cells, Pt.slots] at X46 l46 y46 z46 hQ46 ⊢
              rw [l46, y46, z46] at X46
              obtain ⟨rfl, N46q, e46⟩ := hQ46
              have N47 := Fr.app N43 N46q
              show Runs _ _ _ _ (T46.setTop (mkF m 79 _ [(.int (plF c_28))]))
              suffices key49 : Runs p e below (EndH s Z EL (Q_law Z p0 p1 p2 p3 p4 p5 G_COMPACT_STRINGS G_SIOOBE_FORMATTER h0 n0) room_1.cells room_1.slots) (T46.setTop (mkF m 87 #[.val (.int p0), .val (.int p1), .val (.int p2), .val (.int p3), .val (.int p4), .val (.int p5), .val (.int nn), .val (.int c_22), .val (.int c_24), .val (.int c_26), .val (.int c_28), .unset, .unset, .unset, .unset, .unset, .unset, .unset, .unset, .unset] [(.int (if (plF c_28) = (0 : Int32) then (0 : Int32) else (1 : Int32)))])) by
               by_cases hc48 : (plF c_28) = (0 : Int32)
               · rw [if_pos hc48] at key49
                 refine w_ifY X46 hx (hb hby at_79) (teq hc48).1 (pc' := 86) (by decide) (by decide) ?_
                 refine w_iconst X46 hx (hb hby at_86) (v := (0 : Int32)) rfl (pq 87) ?_
                 exact key49
               · rw [if_neg hc48] at key49
                 refine w_ifN X46 hx (hb hby at_79) (feq hc48).1 (pq 82) ?_
                 refine w_iconst X46 hx (hb hby at_82) (v := (1 : Int32)) rfl (pq 83) ?_
                 refine w_goto X46 hx (hb hby at_83) (pc' := 87) (by decide) (by decide) ?_
                 exact key49
              exact key30 _ _ _ X46 e46 N47 (own_bkm hc36 (Or.inr hc40) (Or.inr hc44))
 intro T32 L33 gr31 X50 e51 N52 hg53
 refine w_istore X50 hx (hb hby at_87) (L' := #[.val (.int p0), .val (.int p1), .val (.int p2), .val (.int p3), .val (.int p4), .val (.int p5), .val (.int nn), .val (.int c_22), .val (.int c_24), .val (.int c_26), .val (.int c_28), .val (.int gr31), .unset, .unset, .unset, .unset, .unset, .unset, .unset, .unset]) rfl (pq 89) ?_
 suffices key54 : ∀ (T56 : State) (L57 : List Loc) (gr55 : Int32), Stand p l e room_1 (s.setVm s.vm) m #[(.int p0), (.int p1), (.int p2), (.int p3), (.int p4), (.int p5)] below meth c T56 L57 0 0 → T56.heap = h0 → Fr n0 L57 → ((gr55 = (1 : Int32) ∨ (gr55 = (0 : Int32) ∧ PLs nn c_22 c_24 c_26 c_28))) → Runs p e below (EndH s Z EL (Q_law Z p0 p1 p2 p3 p4 p5 G_COMPACT_STRINGS G_SIOOBE_FORMATTER h0 n0) room_1.cells room_1.slots) (T56.setTop (mkF m 108 #[.val (.int p0), .val (.int p1), .val (.int p2), .val (.int p3), .val (.int p4), .val (.int p5), .val (.int nn), .val (.int c_22), .val (.int c_24), .val (.int c_26), .val (.int c_28), .val (.int gr31), .unset, .unset, .unset, .unset, .unset, .unset, .unset, .unset] [(.int gr55)])) by
  refine w_iload X50 hx (hb hby at_89) rfl (pq 91) ?_
  refine w_iconst X50 hx (hb hby at_91) (v := (2 : Int32)) rfl (pq 92) ?_
  refine w_iushr X50 hx (hb hby at_92) (pq 93) ?_
  refine w_iconst X50 hx (hb hby at_93) (v := (1 : Int32)) rfl (pq 94) ?_
  refine w_iand X50 hx (hb hby at_94) (pq 95) ?_
  by_cases hc58 : (((p4.toUInt32 >>> ((2 : Int32) &&& 31).toUInt32).toInt32) &&& (1 : Int32)) = (0 : Int32)
  · refine w_ifN X50 hx (hb hby at_95) (teq hc58).2 (pq 98) ?_
    refine w_iload X50 hx (hb hby at_98) rfl (pq 100) ?_
    suffices key60 : Runs p e below (EndH s Z EL (Q_law Z p0 p1 p2 p3 p4 p5 G_COMPACT_STRINGS G_SIOOBE_FORMATTER h0 n0) room_1.cells room_1.slots) (T32.setTop (mkF m 108 #[.val (.int p0), .val (.int p1), .val (.int p2), .val (.int p3), .val (.int p4), .val (.int p5), .val (.int nn), .val (.int c_22), .val (.int c_24), .val (.int c_26), .val (.int c_28), .val (.int gr31), .unset, .unset, .unset, .unset, .unset, .unset, .unset, .unset] [(.int (if gr31 = (0 : Int32) then (1 : Int32) else (0 : Int32)))])) by
     by_cases hc59 : gr31 = (0 : Int32)
     · rw [if_pos hc59] at key60
       refine w_ifN X50 hx (hb hby at_100) (teq hc59).2 (pq 103) ?_
       refine w_iconst X50 hx (hb hby at_103) (v := (1 : Int32)) rfl (pq 104) ?_
       refine w_goto X50 hx (hb hby at_104) (pc' := 108) (by decide) (by decide) ?_
       exact key60
     · rw [if_neg hc59] at key60
       refine w_ifY X50 hx (hb hby at_100) (feq hc59).2 (pc' := 107) (by decide) (by decide) ?_
       refine w_iconst X50 hx (hb hby at_107) (v := (0 : Int32)) rfl (pq 108) ?_
       exact key60
    exact key54 _ _ _ X50 e51 N52 (own_bq hg53)
  · refine w_ifY X50 hx (hb hby at_95) (feq hc58).2 (pc' := 103) (by decide) (by decide) ?_
    refine w_iconst X50 hx (hb hby at_103) (v := (1 : Int32)) rfl (pq 104) ?_
    refine w_goto X50 hx (hb hby at_104) (pc' := 108) (by decide) (by decide) ?_
    exact key54 _ _ _ X50 e51 N52 (Or.inl rfl)
 intro T56 L57 gr55 X61 e62 N63 hg64
 refine w_istore X61 hx (hb hby at_108) (L' := #[.val (.int p0), .val (.int p1), .val (.int p2), .val (.int p3), .val (.int p4), .val (.int p5), .val (.int nn), .val (.int c_22), .val (.int c_24), .val (.int c_26), .val (.int c_28), .val (.int gr31), .val (.int gr55), .unset, .unset, .unset, .unset, .unset, .unset, .unset]) rfl (pq 110) ?_
 refine w_iload X61 hx (hb hby at_110) rfl (pq 112) ?_
 suffices key66 : Runs p e below (EndH s Z EL (Q_law Z p0 p1 p2 p3 p4 p5 G_COMPACT_STRINGS G_SIOOBE_FORMATTER h0 n0) room_1.cells room_1.slots) (T56.setTop (mkF m 120 #[.val (.int p0), .val (.int p1), .val (.int p2), .val (.int p3), .val (.int p4), .val (.int p5), .val (.int nn), .val (.int c_22), .val (.int c_24), .val (.int c_26), .val (.int c_28), .val (.int gr31), .val (.int gr55), .unset, .unset, .unset, .unset, .unset, .unset, .unset] [(.int (if gr55 = (0 : Int32) then (0 : Int32) else (2 : Int32)))])) by
  by_cases hc65 : gr55 = (0 : Int32)
  · rw [if_pos hc65] at key66
    refine w_ifY X61 hx (hb hby at_112) (teq hc65).1 (pc' := 119) (by decide) (by decide) ?_
    refine w_iconst X61 hx (hb hby at_119) (v := (0 : Int32)) rfl (pq 120) ?_
    exact key66
  · rw [if_neg hc65] at key66
    refine w_ifN X61 hx (hb hby at_112) (feq hc65).1 (pq 115) ?_
    refine w_iconst X61 hx (hb hby at_115) (v := (2 : Int32)) rfl (pq 116) ?_
    refine w_goto X61 hx (hb hby at_116) (pc' := 120) (by decide) (by decide) ?_
    exact key66
 refine w_iload X61 hx (hb hby at_120) rfl (pq 122) ?_
 refine w_iload X61 hx (hb hby at_122) rfl (pq 124) ?_
 refine w_iconst X61 hx (hb hby at_124) (v := (1 : Int32)) rfl (pq 125) ?_
 refine w_static X61 hx (y := yn_3) hown (mvT hZ (wd_8 hw)) (mvT hZ (wd_9 hw)) (mvT hZ (wd_2 hw)) (mvT hZ (wd_10 hw)) (by decide) (backOf (W := 1) (rm_width l Z aZ hw [] c_22 gr55 (1 : Int32) h0 n0 Z0 ) hZ (wd_10 hw) (wd_2 hw) (by decide) (by decide)) (by rw [hml]; rfl) [(.int c_22), (.int gr55), (.int (1 : Int32))] (lenOf pd_2 rfl) rfl (Nat.le_of_eq rfl) (hb hby at_125) (fun _ _ => ⟨rfl, e62, (by decide : 0 + 0 ≤ _), (by decide : 0 + 0 ≤ _)⟩) (pq 128) ?_
 rintro _ _ ⟨T67, L67, k67, n67⟩ X67 ⟨Lc67, hQ67, l67, y67, z67⟩
 dsimp only [Pt.U, Pt.locs, Pt.cells, Pt.slots] at X67 l67 y67 z67 hQ67 ⊢
 rw [l67, y67, z67] at X67
 obtain ⟨rfl, N67q, e67⟩ := hQ67
 have N68 := Fr.app N63 N67q
 show Runs _ _ _ _ (T67.setTop (mkF m 128 _ [(.int (wdF c_22 gr55 (1 : Int32))), (.int (if gr55 = (0 : Int32) then (0 : Int32) else (2 : Int32)))]))
 refine w_iadd X67 hx (hb hby at_128) (pq 129) ?_
 refine w_iload X67 hx (hb hby at_129) rfl (pq 131) ?_
 refine w_iload X67 hx (hb hby at_131) rfl (pq 133) ?_
 refine w_iload X67 hx (hb hby at_133) rfl (pq 135) ?_
 refine w_iconst X67 hx (hb hby at_135) (v := (2 : Int32)) rfl (pq 136) ?_
 suffices key70 : Runs p e below (EndH s Z EL (Q_law Z p0 p1 p2 p3 p4 p5 G_COMPACT_STRINGS G_SIOOBE_FORMATTER h0 n0) room_1.cells room_1.slots) (T67.setTop (mkF m 144 #[.val (.int p0), .val (.int p1), .val (.int p2), .val (.int p3), .val (.int p4), .val (.int p5), .val (.int nn), .val (.int c_22), .val (.int c_24), .val (.int c_26), .val (.int c_28), .val (.int gr31), .val (.int gr55), .unset, .unset, .unset, .unset, .unset, .unset, .unset] [(.int (if nn < (2 : Int32) then (0 : Int32) else (1 : Int32))), (.int gr55), (.int c_24), (.int ((if gr55 = (0 : Int32) then (0 : Int32) else (2 : Int32)) + (wdF c_22 gr55 (1 : Int32))))])) by
  by_cases hc69 : nn < (2 : Int32)
  · rw [if_pos hc69] at key70
    refine w_icY X67 hx (hb hby at_136) (tlt hc69).1 (pc' := 143) (by decide) (by decide) ?_
    refine w_iconst X67 hx (hb hby at_143) (v := (0 : Int32)) rfl (pq 144) ?_
    exact key70
  · rw [if_neg hc69] at key70
    refine w_icN X67 hx (hb hby at_136) (flt hc69).1 (pq 139) ?_
    refine w_iconst X67 hx (hb hby at_139) (v := (1 : Int32)) rfl (pq 140) ?_
    refine w_goto X67 hx (hb hby at_140) (pc' := 144) (by decide) (by decide) ?_
    exact key70
 refine w_static X67 hx (y := yn_3) hown (mvT hZ (wd_8 hw)) (mvT hZ (wd_9 hw)) (mvT hZ (wd_2 hw)) (mvT hZ (wd_10 hw)) (by decide) (backOf (W := 1) (rm_width l Z aZ hw [] c_24 gr55 (if nn < (2 : Int32) then (0 : Int32) else (1 : Int32)) h0 n0 Z0 ) hZ (wd_10 hw) (wd_2 hw) (by decide) (by decide)) (by rw [hml]; rfl) [(.int c_24), (.int gr55), (.int (if nn < (2 : Int32) then (0 : Int32) else (1 : Int32)))] (lenOf pd_2 rfl) rfl (Nat.le_of_eq rfl) (hb hby at_144) (fun _ _ => ⟨rfl, e67, (by decide : 0 + 0 ≤ _), (by decide : 0 + 0 ≤ _)⟩) (pq 147) ?_
 rintro _ _ ⟨T71, L71, k71, n71⟩ X71 ⟨Lc71, hQ71, l71, y71, z71⟩
 dsimp only [Pt.U, Pt.locs, Pt.cells, Pt.slots] at X71 l71 y71 z71 hQ71 ⊢
 rw [l71, y71, z71] at X71
 obtain ⟨rfl, N71q, e71⟩ := hQ71
 have N72 := Fr.app N68 N71q
 show Runs _ _ _ _ (T71.setTop (mkF m 147 _ [(.int (wdF c_24 gr55 (if nn < (2 : Int32) then (0 : Int32) else (1 : Int32)))), (.int ((if gr55 = (0 : Int32) then (0 : Int32) else (2 : Int32)) + (wdF c_22 gr55 (1 : Int32))))]))
 refine w_iadd X71 hx (hb hby at_147) (pq 148) ?_
 refine w_iload X71 hx (hb hby at_148) rfl (pq 150) ?_
 refine w_iload X71 hx (hb hby at_150) rfl (pq 152) ?_
 refine w_iload X71 hx (hb hby at_152) rfl (pq 154) ?_
 refine w_iconst X71 hx (hb hby at_154) (v := (3 : Int32)) rfl (pq 155) ?_
 suffices key74 : Runs p e below (EndH s Z EL (Q_law Z p0 p1 p2 p3 p4 p5 G_COMPACT_STRINGS G_SIOOBE_FORMATTER h0 n0) room_1.cells room_1.slots) (T71.setTop (mkF m 163 #[.val (.int p0), .val (.int p1), .val (.int p2), .val (.int p3), .val (.int p4), .val (.int p5), .val (.int nn), .val (.int c_22), .val (.int c_24), .val (.int c_26), .val (.int c_28), .val (.int gr31), .val (.int gr55), .unset, .unset, .unset, .unset, .unset, .unset, .unset] [(.int (if nn < (3 : Int32) then (0 : Int32) else (1 : Int32))), (.int gr55), (.int c_26), (.int (((if gr55 = (0 : Int32) then (0 : Int32) else (2 : Int32)) + (wdF c_22 gr55 (1 : Int32))) + (wdF c_24 gr55 (if nn < (2 : Int32) then (0 : Int32) else (1 : Int32)))))])) by
  by_cases hc73 : nn < (3 : Int32)
  · rw [if_pos hc73] at key74
    refine w_icY X71 hx (hb hby at_155) (tlt hc73).1 (pc' := 162) (by decide) (by decide) ?_
    refine w_iconst X71 hx (hb hby at_162) (v := (0 : Int32)) rfl (pq 163) ?_
    exact key74
  · rw [if_neg hc73] at key74
    refine w_icN X71 hx (hb hby at_155) (flt hc73).1 (pq 158) ?_
    refine w_iconst X71 hx (hb hby at_158) (v := (1 : Int32)) rfl (pq 159) ?_
    refine w_goto X71 hx (hb hby at_159) (pc' := 163) (by decide) (by decide) ?_
    exact key74
 refine w_static X71 hx (y := yn_3) hown (mvT hZ (wd_8 hw)) (mvT hZ (wd_9 hw)) (mvT hZ (wd_2 hw)) (mvT hZ (wd_10 hw)) (by decide) (backOf (W := 1) (rm_width l Z aZ hw [] c_26 gr55 (if nn < (3 : Int32) then (0 : Int32) else (1 : Int32)) h0 n0 Z0 ) hZ (wd_10 hw) (wd_2 hw) (by decide) (by decide)) (by rw [hml]; rfl) [(.int c_26), (.int gr55), (.int (if nn < (3 : Int32) then (0 : Int32) else (1 : Int32)))] (lenOf pd_2 rfl) rfl (Nat.le_of_eq rfl) (hb hby at_163) (fun _ _ => ⟨rfl, e71, (by decide : 0 + 0 ≤ _), (by decide : 0 + 0 ≤ _)⟩) (pq 166) ?_
 rintro _ _ ⟨T75, L75, k75, n75⟩ X75 ⟨Lc75, hQ75, l75, y75, z75⟩
 dsimp only [Pt.U, Pt.locs, Pt.cells, Pt.slots] at X75 l75 y75 z75 hQ75 ⊢
 rw [l75, y75, z75] at X75
 obtain ⟨rfl, N75q, e75⟩ := hQ75
 have N76 := Fr.app N72 N75q
 show Runs _ _ _ _ (T75.setTop (mkF m 166 _ [(.int (wdF c_26 gr55 (if nn < (3 : Int32) then (0 : Int32) else (1 : Int32)))), (.int (((if gr55 = (0 : Int32) then (0 : Int32) else (2 : Int32)) + (wdF c_22 gr55 (1 : Int32))) + (wdF c_24 gr55 (if nn < (2 : Int32) then (0 : Int32) else (1 : Int32)))))]))
 refine w_iadd X75 hx (hb hby at_166) (pq 167) ?_
 refine w_iload X75 hx (hb hby at_167) rfl (pq 169) ?_
 refine w_iload X75 hx (hb hby at_169) rfl (pq 171) ?_
 refine w_iload X75 hx (hb hby at_171) rfl (pq 173) ?_
 refine w_iconst X75 hx (hb hby at_173) (v := (4 : Int32)) rfl (pq 174) ?_
 suffices key78 : Runs p e below (EndH s Z EL (Q_law Z p0 p1 p2 p3 p4 p5 G_COMPACT_STRINGS G_SIOOBE_FORMATTER h0 n0) room_1.cells room_1.slots) (T75.setTop (mkF m 182 #[.val (.int p0), .val (.int p1), .val (.int p2), .val (.int p3), .val (.int p4), .val (.int p5), .val (.int nn), .val (.int c_22), .val (.int c_24), .val (.int c_26), .val (.int c_28), .val (.int gr31), .val (.int gr55), .unset, .unset, .unset, .unset, .unset, .unset, .unset] [(.int (if nn < (4 : Int32) then (0 : Int32) else (1 : Int32))), (.int gr55), (.int c_28), (.int ((((if gr55 = (0 : Int32) then (0 : Int32) else (2 : Int32)) + (wdF c_22 gr55 (1 : Int32))) + (wdF c_24 gr55 (if nn < (2 : Int32) then (0 : Int32) else (1 : Int32)))) + (wdF c_26 gr55 (if nn < (3 : Int32) then (0 : Int32) else (1 : Int32)))))])) by
  by_cases hc77 : nn < (4 : Int32)
  · rw [if_pos hc77] at key78
    refine w_icY X75 hx (hb hby at_174) (tlt hc77).1 (pc' := 181) (by decide) (by decide) ?_
    refine w_iconst X75 hx (hb hby at_181) (v := (0 : Int32)) rfl (pq 182) ?_
    exact key78
  · rw [if_neg hc77] at key78
    refine w_icN X75 hx (hb hby at_174) (flt hc77).1 (pq 177) ?_
    refine w_iconst X75 hx (hb hby at_177) (v := (1 : Int32)) rfl (pq 178) ?_
    refine w_goto X75 hx (hb hby at_178) (pc' := 182) (by decide) (by decide) ?_
    exact key78
 refine w_static X75 hx (y := yn_3) hown (mvT hZ (wd_8 hw)) (mvT hZ (wd_9 hw)) (mvT hZ (wd_2 hw)) (mvT hZ (wd_10 hw)) (by decide) (backOf (W := 1) (rm_width l Z aZ hw [] c_28 gr55 (if nn < (4 : Int32) then (0 : Int32) else (1 : Int32)) h0 n0 Z0 ) hZ (wd_10 hw) (wd_2 hw) (by decide) (by decide)) (by rw [hml]; rfl) [(.int c_28), (.int gr55), (.int (if nn < (4 : Int32) then (0 : Int32) else (1 : Int32)))] (lenOf pd_2 rfl) rfl (Nat.le_of_eq rfl) (hb hby at_182) (fun _ _ => ⟨rfl, e75, (by decide : 0 + 0 ≤ _), (by decide : 0 + 0 ≤ _)⟩) (pq 185) ?_
 rintro _ _ ⟨T79, L79, k79, n79⟩ X79 ⟨Lc79, hQ79, l79, y79, z79⟩
 dsimp only [Pt.U, Pt.locs, Pt.cells, Pt.slots] at X79 l79 y79 z79 hQ79 ⊢
 rw [l79, y79, z79] at X79
 obtain ⟨rfl, N79q, e79⟩ := hQ79
 have N80 := Fr.app N76 N79q
 show Runs _ _ _ _ (T79.setTop (mkF m 185 _ [(.int (wdF c_28 gr55 (if nn < (4 : Int32) then (0 : Int32) else (1 : Int32)))), (.int ((((if gr55 = (0 : Int32) then (0 : Int32) else (2 : Int32)) + (wdF c_22 gr55 (1 : Int32))) + (wdF c_24 gr55 (if nn < (2 : Int32) then (0 : Int32) else (1 : Int32)))) + (wdF c_26 gr55 (if nn < (3 : Int32) then (0 : Int32) else (1 : Int32)))))]))
 refine w_iadd X79 hx (hb hby at_185) (pq 186) ?_
 refine w_istore X79 hx (hb hby at_186) (L' := #[.val (.int p0), .val (.int p1), .val (.int p2), .val (.int p3), .val (.int p4), .val (.int p5), .val (.int nn), .val (.int c_22), .val (.int c_24), .val (.int c_26), .val (.int c_28), .val (.int gr31), .val (.int gr55), .val (.int (((((if gr55 = (0 : Int32) then (0 : Int32) else (2 : Int32)) + (wdF c_22 gr55 (1 : Int32))) + (wdF c_24 gr55 (if nn < (2 : Int32) then (0 : Int32) else (1 : Int32)))) + (wdF c_26 gr55 (if nn < (3 : Int32) then (0 : Int32) else (1 : Int32)))) + (wdF c_28 gr55 (if nn < (4 : Int32) then (0 : Int32) else (1 : Int32))))), .unset, .unset, .unset, .unset, .unset, .unset]) rfl (pq 188) ?_
 obtain ⟨us, hus⟩ : ∃ us : Int32, us = (((((if gr55 = (0 : Int32) then (0 : Int32) else (2 : Int32)) + (wdF c_22 gr55 (1 : Int32))) + (wdF c_24 gr55 (if nn < (2 : Int32) then (0 : Int32) else (1 : Int32)))) + (wdF c_26 gr55 (if nn < (3 : Int32) then (0 : Int32) else (1 : Int32)))) + (wdF c_28 gr55 (if nn < (4 : Int32) then (0 : Int32) else (1 : Int32)))) := ⟨_, rfl⟩
 rw [← hus]
 have hg81 : ¬ us < 1 := (own_us hus).1
 have hg82 : us < 11 := (own_us hus).2
 refine w_iload X79 hx (hb hby at_188) rfl (pq 190) ?_
 refine w_iconst X79 hx (hb hby at_190) (v := (3 : Int32)) rfl (pq 191) ?_
 refine w_iushr X79 hx (hb hby at_191) (pq 192) ?_
 refine w_sipush X79 hx (hb hby at_192) (v := (255 : Int32)) rfl (pq 195) ?_
 refine w_iand X79 hx (hb hby at_195) (pq 196) ?_
 refine w_bipush X79 hx (hb hby at_196) (v := (13 : Int32)) rfl (pq 198) ?_
 refine w_iload X79 hx (hb hby at_198) rfl (pq 200) ?_
 refine w_isub X79 hx (hb hby at_200) (pq 201) ?_
 refine w_irem X79 hx (hb hby at_201) (own_nz hg81 hg82) (pq 202) ?_
 refine w_istore X79 hx (hb hby at_202) (L' := #[.val (.int p0), .val (.int p1), .val (.int p2), .val (.int p3), .val (.int p4), .val (.int p5), .val (.int nn), .val (.int c_22), .val (.int c_24), .val (.int c_26), .val (.int c_28), .val (.int gr31), .val (.int gr55), .val (.int us), .val (.int ((((p4.toUInt32 >>> ((3 : Int32) &&& 31).toUInt32).toInt32) &&& (255 : Int32)) % ((13 : Int32) - us))), .unset, .unset, .unset, .unset, .unset]) rfl (pq 204) ?_
 obtain ⟨ld, hld⟩ : ∃ ld : Int32, ld = ((((p4.toUInt32 >>> ((3 : Int32) &&& 31).toUInt32).toInt32) &&& (255 : Int32)) % ((13 : Int32) - us)) := ⟨_, rfl⟩
 rw [← hld]
 have hg83 : ¬ ld < 0 := (own_ld hld hg81 hg82).1
 have hg84 : ld < ((13 : Int32) - us) := (own_ld hld hg81 hg82).2
 refine w_bipush X79 hx (hb hby at_204) (v := (12 : Int32)) rfl (pq 206) ?_
 refine w_newP X79 hx .char .char 12 rfl hZ (wd_14 hw) e79 (hb hby at_206) (by decide) (by decide) (by decide) (by decide) (by decide) (pq 208) ?_
 intro T85 h85 k85 b85 X85 e85 E85 g85 A85
 have ge86 : n0 ≤ b85 := Nat.le_trans Z0 (Nat.le_of_eq g85.symm)
 have sz87 : h0.size ≤ b85 := Nat.le_trans (Nat.le_refl _) (Nat.le_of_eq g85.symm)
 have C88 : CHr Z EL s.vm h0 s.vm h85 := C0.trans (CHr.ext E85 C0.1)
 have K89 : Keep h0 h85 [] := (Keep.refl h0 []).ext E85
 have V90 : Arv Z h85 b85 k85 .char (12 : Int32) [(.int (0 : Int32)), (.int (0 : Int32)), (.int (0 : Int32)), (.int (0 : Int32)), (.int (0 : Int32)), (.int (0 : Int32)), (.int (0 : Int32)), (.int (0 : Int32)), (.int (0 : Int32)), (.int (0 : Int32)), (.int (0 : Int32)), (.int (0 : Int32))] (.int (0 : Int32)) := (Arv.new A85 (by decide)).pad (pad_rep [] (.int (0 : Int32)) 12)
 refine w_astore X85 hx (hb hby at_208) rfl (L' := #[.val (.int p0), .val (.int p1), .val (.int p2), .val (.int p3), .val (.int p4), .val (.int p5), .val (.int nn), .val (.int c_22), .val (.int c_24), .val (.int c_26), .val (.int c_28), .val (.int gr31), .val (.int gr55), .val (.int us), .val (.int ld), .val (.ref b85), .unset, .unset, .unset, .unset]) rfl (pq 210) ?_
 refine w_aload X85 hx (hb hby at_210) rfl rfl (pq 212) ?_
 refine w_iconst X85 hx (hb hby at_212) (v := (0 : Int32)) rfl (pq 213) ?_
 refine w_iload X85 hx (hb hby at_213) rfl (pq 215) ?_
 refine w_iconst X85 hx (hb hby at_215) (v := (0 : Int32)) rfl (pq 216) ?_
 refine w_static X85 hx (y := yn_5) hown (mvT hZ (wd_15 hw)) (mvT hZ (wd_16 hw)) (mvT hZ (wd_2 hw)) (mvT hZ (wd_17 hw)) (by decide) (backOf (W := 2) (rm_wsChar l Z aZ hw [] p5 (0 : Int32) h85 n0 (Nat.le_trans Z0 E85.1) ) hZ (wd_17 hw) (wd_2 hw) (by decide) (by decide)) (by rw [hml]; rfl) [(.int p5), (.int (0 : Int32))] (lenOf pd_3 rfl) rfl (Nat.le_of_eq rfl) (hb hby at_216) (fun _ _ => ⟨rfl, e85, (by decide : 1 + 0 ≤ _), (by decide : 12 + 0 ≤ _)⟩) (pq 219) ?_
 rintro _ _ ⟨T91, L91, k91, n91⟩ X91 ⟨Lc91, hQ91, l91, y91, z91⟩
 dsimp only [Pt.U, Pt.locs, Pt.cells, Pt.slots] at X91 l91 y91 z91 hQ91 ⊢
 rw [l91, y91, z91] at X91
 obtain ⟨c_91, rfl, N91q, e91, g91_0, g91_1⟩ := hQ91
 have N92 := Fr.app N80 N91q
 show Runs _ _ _ _ (T91.setTop (mkF m 219 _ [(.int c_91), (.int (0 : Int32)), (.ref b85)]))
 obtain ⟨clu93, Aru93, qu93, Su93, Nu93, Hu93, Gu93⟩ := id V90
 have hinu93 := inb_of (j := (0 : Int32)) Su93 ⟨by decide, by decide⟩
 refine w_stC X91 hx hZ e91 Aru93 hinu93 (hb hby at_219) (pq 220) ?_
 intro T94 h94 X94 e94 W94
 have C95 : CHr Z EL s.vm h0 s.vm h94 := C88.trans (CHr.wr W94 (Safe.arv hZ.alike V90 (by decide)) C88.1)
 have V96 : Arv Z h94 b85 k85 .char (12 : Int32) [(.int (nar .char c_91)), (.int (0 : Int32)), (.int (0 : Int32)), (.int (0 : Int32)), (.int (0 : Int32)), (.int (0 : Int32)), (.int (0 : Int32)), (.int (0 : Int32)), (.int (0 : Int32)), (.int (0 : Int32)), (.int (0 : Int32)), (.int (0 : Int32))] (.int (0 : Int32)) := Arv.set Aru93 qu93 Su93 Nu93 Hu93 Gu93 (fits_nar_char _) W94 0 rfl (Nat.le_of_ble_eq_true rfl)
 have V97 : Arv Z h94 b85 k85 .char (12 : Int32) [(.int c_91), (.int (0 : Int32)), (.int (0 : Int32)), (.int (0 : Int32)), (.int (0 : Int32)), (.int (0 : Int32)), (.int (0 : Int32)), (.int (0 : Int32)), (.int (0 : Int32)), (.int (0 : Int32)), (.int (0 : Int32)), (.int (0 : Int32))] (.int (0 : Int32)) := by rw [g91_0] at V96; exact V96
 have K98 : Keep h0 h94 [] := K89.wr W94 (Or.inr sz87)
 have N99 := Fr.snoc X94 N92 ge86
 refine w_aload X94 hx (hb hby at_220) rfl rfl (pq 222) ?_
 refine w_iconst X94 hx (hb hby at_222) (v := (1 : Int32)) rfl (pq 223) ?_
 refine w_iload X94 hx (hb hby at_223) rfl (pq 225) ?_
 refine w_iconst X94 hx (hb hby at_225) (v := (1 : Int32)) rfl (pq 226) ?_
 have le100 : h0.size ≤ h94.size := (Nat.le_trans E85.1 (Keep.of_wr W94).1)
 refine w_static X94 hx (y := yn_5) hown (mvT hZ (wd_15 hw)) (mvT hZ (wd_16 hw)) (mvT hZ (wd_2 hw)) (mvT hZ (wd_17 hw)) (by decide) (backOf (W := 2) (rm_wsChar l Z aZ hw [] p5 (1 : Int32) h94 n0 (Nat.le_trans Z0 le100) ) hZ (wd_17 hw) (wd_2 hw) (by decide) (by decide)) (by rw [hml]; rfl) [(.int p5), (.int (1 : Int32))] (lenOf pd_3 rfl) rfl (Nat.le_of_eq rfl) (hb hby at_226) (fun _ _ => ⟨rfl, e94, (by decide : 1 + 0 ≤ _), (by decide : 12 + 0 ≤ _)⟩) (pq 229) ?_
 rintro _ _ ⟨T101, L101, k101, n101⟩ X101 ⟨Lc101, hQ101, l101, y101, z101⟩
 dsimp only [Pt.U, Pt.locs, Pt.cells, Pt.slots] at X101 l101 y101 z101 hQ101 ⊢
 rw [l101, y101, z101] at X101
 obtain ⟨c_101, rfl, N101q, e101, g101_0, g101_1⟩ := hQ101
 have N102 := Fr.app N99 N101q
 show Runs _ _ _ _ (T101.setTop (mkF m 229 _ [(.int c_101), (.int (1 : Int32)), (.ref b85)]))
 obtain ⟨clu103, Aru103, qu103, Su103, Nu103, Hu103, Gu103⟩ := id V97
 have hinu103 := inb_of (j := (1 : Int32)) Su103 ⟨by decide, by decide⟩
 refine w_stC X101 hx hZ e101 Aru103 hinu103 (hb hby at_229) (pq 230) ?_
 intro T104 h104 X104 e104 W104
 have C105 : CHr Z EL s.vm h0 s.vm h104 := C95.trans (CHr.wr W104 (Safe.arv hZ.alike V97 (by decide)) C95.1)
 have V106 : Arv Z h104 b85 k85 .char (12 : Int32) [(.int c_91), (.int (nar .char c_101)), (.int (0 : Int32)), (.int (0 : Int32)), (.int (0 : Int32)), (.int (0 : Int32)), (.int (0 : Int32)), (.int (0 : Int32)), (.int (0 : Int32)), (.int (0 : Int32)), (.int (0 : Int32)), (.int (0 : Int32))] (.int (0 : Int32)) := Arv.set Aru103 qu103 Su103 Nu103 Hu103 Gu103 (fits_nar_char _) W104 1 rfl (Nat.le_of_ble_eq_true rfl)
 have V107 : Arv Z h104 b85 k85 .char (12 : Int32) [(.int c_91), (.int c_101), (.int (0 : Int32)), (.int (0 : Int32)), (.int (0 : Int32)), (.int (0 : Int32)), (.int (0 : Int32)), (.int (0 : Int32)), (.int (0 : Int32)), (.int (0 : Int32)), (.int (0 : Int32)), (.int (0 : Int32))] (.int (0 : Int32)) := by rw [g101_0] at V106; exact V106
 have K108 : Keep h0 h104 [] := K98.wr W104 (Or.inr sz87)
 have N109 := Fr.snoc X104 N102 ge86
 refine w_aload X104 hx (hb hby at_230) rfl rfl (pq 232) ?_
 refine w_iconst X104 hx (hb hby at_232) (v := (2 : Int32)) rfl (pq 233) ?_
 refine w_iload X104 hx (hb hby at_233) rfl (pq 235) ?_
 refine w_iconst X104 hx (hb hby at_235) (v := (2 : Int32)) rfl (pq 236) ?_
 have le110 : h0.size ≤ h104.size := (Nat.le_trans le100 (Keep.of_wr W104).1)
 refine w_static X104 hx (y := yn_5) hown (mvT hZ (wd_15 hw)) (mvT hZ (wd_16 hw)) (mvT hZ (wd_2 hw)) (mvT hZ (wd_17 hw)) (by decide) (backOf (W := 2) (rm_wsChar l Z aZ hw [] p5 (2 : Int32) h104 n0 (Nat.le_trans Z0 le110) ) hZ (wd_17 hw) (wd_2 hw) (by decide) (by decide)) (by rw [hml]; rfl) [(.int p5), (.int (2 : Int32))] (lenOf pd_3 rfl) rfl (Nat.le_of_eq rfl) (hb hby at_236) (fun _ _ => ⟨rfl, e104, (by decide : 1 + 0 ≤ _), (by decide : 12 + 0 ≤ _)⟩) (pq 239) ?_
 rintro _ _ ⟨T111, L111, k111, n111⟩ X111 ⟨Lc111, hQ111, l111, y111, z111⟩
 dsimp only [Pt.U, Pt.locs, Pt.cells, Pt.slots] at X111 l111 y111 z111 hQ111 ⊢
 rw [l111, y111, z111] at X111
 obtain ⟨c_111, rfl, N111q, e111, g111_0, g111_1⟩ := hQ111
 have N112 := Fr.app N109 N111q
 show Runs _ _ _ _ (T111.setTop (mkF m 239 _ [(.int c_111), (.int (2 : Int32)), (.ref b85)]))
 obtain ⟨clu113, Aru113, qu113, Su113, Nu113, Hu113, Gu113⟩ := id V107
 have hinu113 := inb_of (j := (2 : Int32)) Su113 ⟨by decide, by decide⟩
 refine w_stC X111 hx hZ e111 Aru113 hinu113 (hb hby at_239) (pq 240) ?_
 intro T114 h114 X114 e114 W114
 have C115 : CHr Z EL s.vm h0 s.vm h114 := C105.trans (CHr.wr W114 (Safe.arv hZ.alike V107 (by decide)) C105.1)
 have V116 : Arv Z h114 b85 k85 .char (12 : Int32) [(.int c_91), (.int c_101), (.int (nar .char c_111)), (.int (0 : Int32)), (.int (0 : Int32)), (.int (0 : Int32)), (.int (0 : Int32)), (.int (0 : Int32)), (.int (0 : Int32)), (.int (0 : Int32)), (.int (0 : Int32)), (.int (0 : Int32))] (.int (0 : Int32)) := Arv.set Aru113 qu113 Su113 Nu113 Hu113 Gu113 (fits_nar_char _) W114 2 rfl (Nat.le_of_ble_eq_true rfl)
 have V117 : Arv Z h114 b85 k85 .char (12 : Int32) [(.int c_91), (.int c_101), (.int c_111), (.int (0 : Int32)), (.int (0 : Int32)), (.int (0 : Int32)), (.int (0 : Int32)), (.int (0 : Int32)), (.int (0 : Int32)), (.int (0 : Int32)), (.int (0 : Int32)), (.int (0 : Int32))] (.int (0 : Int32)) := by rw [g111_0] at V116; exact V116
 have K118 : Keep h0 h114 [] := K108.wr W114 (Or.inr sz87)
 have N119 := Fr.snoc X114 N112 ge86
 refine w_aload X114 hx (hb hby at_240) rfl rfl (pq 242) ?_
 refine w_iconst X114 hx (hb hby at_242) (v := (3 : Int32)) rfl (pq 243) ?_
 refine w_iload X114 hx (hb hby at_243) rfl (pq 245) ?_
 refine w_iconst X114 hx (hb hby at_245) (v := (3 : Int32)) rfl (pq 246) ?_
 have le120 : h0.size ≤ h114.size := (Nat.le_trans le110 (Keep.of_wr W114).1)
 refine w_static X114 hx (y := yn_5) hown (mvT hZ (wd_15 hw)) (mvT hZ (wd_16 hw)) (mvT hZ (wd_2 hw)) (mvT hZ (wd_17 hw)) (by decide) (backOf (W := 2) (rm_wsChar l Z aZ hw [] p5 (3 : Int32) h114 n0 (Nat.le_trans Z0 le120) ) hZ (wd_17 hw) (wd_2 hw) (by decide) (by decide)) (by rw [hml]; rfl) [(.int p5), (.int (3 : Int32))] (lenOf pd_3 rfl) rfl (Nat.le_of_eq rfl) (hb hby at_246) (fun _ _ => ⟨rfl, e114, (by decide : 1 + 0 ≤ _), (by decide : 12 + 0 ≤ _)⟩) (pq 249) ?_
 rintro _ _ ⟨T121, L121, k121, n121⟩ X121 ⟨Lc121, hQ121, l121, y121, z121⟩
 dsimp only [Pt.U, Pt.locs, Pt.cells, Pt.slots] at X121 l121 y121 z121 hQ121 ⊢
 rw [l121, y121, z121] at X121
 obtain ⟨c_121, rfl, N121q, e121, g121_0, g121_1⟩ := hQ121
 have N122 := Fr.app N119 N121q
 show Runs _ _ _ _ (T121.setTop (mkF m 249 _ [(.int c_121), (.int (3 : Int32)), (.ref b85)]))
 obtain ⟨clu123, Aru123, qu123, Su123, Nu123, Hu123, Gu123⟩ := id V117
 have hinu123 := inb_of (j := (3 : Int32)) Su123 ⟨by decide, by decide⟩
 refine w_stC X121 hx hZ e121 Aru123 hinu123 (hb hby at_249) (pq 250) ?_
 intro T124 h124 X124 e124 W124
 have C125 : CHr Z EL s.vm h0 s.vm h124 := C115.trans (CHr.wr W124 (Safe.arv hZ.alike V117 (by decide)) C115.1)
 have V126 : Arv Z h124 b85 k85 .char (12 : Int32) [(.int c_91), (.int c_101), (.int c_111), (.int (nar .char c_121)), (.int (0 : Int32)), (.int (0 : Int32)), (.int (0 : Int32)), (.int (0 : Int32)), (.int (0 : Int32)), (.int (0 : Int32)), (.int (0 : Int32)), (.int (0 : Int32))] (.int (0 : Int32)) := Arv.set Aru123 qu123 Su123 Nu123 Hu123 Gu123 (fits_nar_char _) W124 3 rfl (Nat.le_of_ble_eq_true rfl)
 have V127 : Arv Z h124 b85 k85 .char (12 : Int32) [(.int c_91), (.int c_101), (.int c_111), (.int c_121), (.int (0 : Int32)), (.int (0 : Int32)), (.int (0 : Int32)), (.int (0 : Int32)), (.int (0 : Int32)), (.int (0 : Int32)), (.int (0 : Int32)), (.int (0 : Int32))] (.int (0 : Int32)) := by rw [g121_0] at V126; exact V126
 have K128 : Keep h0 h124 [] := K118.wr W124 (Or.inr sz87)
 have N129 := Fr.snoc X124 N122 ge86
 refine w_aload X124 hx (hb hby at_250) rfl rfl (pq 252) ?_
 refine w_iconst X124 hx (hb hby at_252) (v := (4 : Int32)) rfl (pq 253) ?_
 refine w_iload X124 hx (hb hby at_253) rfl (pq 255) ?_
 refine w_iconst X124 hx (hb hby at_255) (v := (4 : Int32)) rfl (pq 256) ?_
 have le130 : h0.size ≤ h124.size := (Nat.le_trans le120 (Keep.of_wr W124).1)
 refine w_static X124 hx (y := yn_5) hown (mvT hZ (wd_15 hw)) (mvT hZ (wd_16 hw)) (mvT hZ (wd_2 hw)) (mvT hZ (wd_17 hw)) (by decide) (backOf (W := 2) (rm_wsChar l Z aZ hw [] p5 (4 : Int32) h124 n0 (Nat.le_trans Z0 le130) ) hZ (wd_17 hw) (wd_2 hw) (by decide) (by decide)) (by rw [hml]; rfl) [(.int p5), (.int (4 : Int32))] (lenOf pd_3 rfl) rfl (Nat.le_of_eq rfl) (hb hby at_256) (fun _ _ => ⟨rfl, e124, (by decide : 1 + 0 ≤ _), (by decide : 12 + 0 ≤ _)⟩) (pq 259) ?_
 rintro _ _ ⟨T131, L131, k131, n131⟩ X131 ⟨Lc131, hQ131, l131, y131, z131⟩
 dsimp only [Pt.U, Pt.locs, Pt.cells, Pt.slots] at X131 l131 y131 z131 hQ131 ⊢
 rw [l131, y131, z131] at X131
 obtain ⟨c_131, rfl, N131q, e131, g131_0, g131_1⟩ := hQ131
 have N132 := Fr.app N129 N131q
 show Runs _ _ _ _ (T131.setTop (mkF m 259 _ [(.int c_131), (.int (4 : Int32)), (.ref b85)]))
 obtain ⟨clu133, Aru133, qu133, Su133, Nu133, Hu133, Gu133⟩ := id V127
 have hinu133 := inb_of (j := (4 : Int32)) Su133 ⟨by decide, by decide⟩
 refine w_stC X131 hx hZ e131 Aru133 hinu133 (hb hby at_259) (pq 260) ?_
 intro T134 h134 X134 e134 W134
 have C135 : CHr Z EL s.vm h0 s.vm h134 := C125.trans (CHr.wr W134 (Safe.arv hZ.alike V127 (by decide)) C125.1)
 have V136 : Arv Z h134 b85 k85 .char (12 : Int32) [(.int c_91), (.int c_101), (.int c_111), (.int c_121), (.int (nar .char c_131)), (.int (0 : Int32)), (.int (0 : Int32)), (.int (0 : Int32)), (.int (0 : Int32)), (.int (0 : Int32)), (.int (0 : Int32)), (.int (0 : Int32))] (.int (0 : Int32)) := Arv.set Aru133 qu133 Su133 Nu133 Hu133 Gu133 (fits_nar_char _) W134 4 rfl (Nat.le_of_ble_eq_true rfl)
 have V137 : Arv Z h134 b85 k85 .char (12 : Int32) [(.int c_91), (.int c_101), (.int c_111), (.int c_121), (.int c_131), (.int (0 : Int32)), (.int (0 : Int32)), (.int (0 : Int32)), (.int (0 : Int32)), (.int (0 : Int32)), (.int (0 : Int32)), (.int (0 : Int32))] (.int (0 : Int32)) := by rw [g131_0] at V136; exact V136
 have K138 : Keep h0 h134 [] := K128.wr W134 (Or.inr sz87)
 have N139 := Fr.snoc X134 N132 ge86
 refine w_aload X134 hx (hb hby at_260) rfl rfl (pq 262) ?_
 refine w_iconst X134 hx (hb hby at_262) (v := (5 : Int32)) rfl (pq 263) ?_
 refine w_iload X134 hx (hb hby at_263) rfl (pq 265) ?_
 refine w_iconst X134 hx (hb hby at_265) (v := (5 : Int32)) rfl (pq 266) ?_
 have le140 : h0.size ≤ h134.size := (Nat.le_trans le130 (Keep.of_wr W134).1)
 refine w_static X134 hx (y := yn_5) hown (mvT hZ (wd_15 hw)) (mvT hZ (wd_16 hw)) (mvT hZ (wd_2 hw)) (mvT hZ (wd_17 hw)) (by decide) (backOf (W := 2) (rm_wsChar l Z aZ hw [] p5 (5 : Int32) h134 n0 (Nat.le_trans Z0 le140) ) hZ (wd_17 hw) (wd_2 hw) (by decide) (by decide)) (by rw [hml]; rfl) [(.int p5), (.int (5 : Int32))] (lenOf pd_3 rfl) rfl (Nat.le_of_eq rfl) (hb hby at_266) (fun _ _ => ⟨rfl, e134, (by decide : 1 + 0 ≤ _), (by decide : 12 + 0 ≤ _)⟩) (pq 269) ?_
 rintro _ _ ⟨T141, L141, k141, n141⟩ X141 ⟨Lc141, hQ141, l141, y141, z141⟩
 dsimp only [Pt.U, Pt.locs, Pt.cells, Pt.slots] at X141 l141 y141 z141 hQ141 ⊢
 rw [l141, y141, z141] at X141
 obtain ⟨c_141, rfl, N141q, e141, g141_0, g141_1⟩ := hQ141
 have N142 := Fr.app N139 N141q
 show Runs _ _ _ _ (T141.setTop (mkF m 269 _ [(.int c_141), (.int (5 : Int32)), (.ref b85)]))
 obtain ⟨clu143, Aru143, qu143, Su143, Nu143, Hu143, Gu143⟩ := id V137
 have hinu143 := inb_of (j := (5 : Int32)) Su143 ⟨by decide, by decide⟩
 refine w_stC X141 hx hZ e141 Aru143 hinu143 (hb hby at_269) (pq 270) ?_
 intro T144 h144 X144 e144 W144
 have C145 : CHr Z EL s.vm h0 s.vm h144 := C135.trans (CHr.wr W144 (Safe.arv hZ.alike V137 (by decide)) C135.1)
 have V146 : Arv Z h144 b85 k85 .char (12 : Int32) [(.int c_91), (.int c_101), (.int c_111), (.int c_121), (.int c_131), (.int (nar .char c_141)), (.int (0 : Int32)), (.int (0 : Int32)), (.int (0 : Int32)), (.int (0 : Int32)), (.int (0 : Int32)), (.int (0 : Int32))] (.int (0 : Int32)) := Arv.set Aru143 qu143 Su143 Nu143 Hu143 Gu143 (fits_nar_char _) W144 5 rfl (Nat.le_of_ble_eq_true rfl)
 have V147 : Arv Z h144 b85 k85 .char (12 : Int32) [(.int c_91), (.int c_101), (.int c_111), (.int c_121), (.int c_131), (.int c_141), (.int (0 : Int32)), (.int (0 : Int32)), (.int (0 : Int32)), (.int (0 : Int32)), (.int (0 : Int32)), (.int (0 : Int32))] (.int (0 : Int32)) := by rw [g141_0] at V146; exact V146
 have K148 : Keep h0 h144 [] := K138.wr W144 (Or.inr sz87)
 have N149 := Fr.snoc X144 N142 ge86
 refine w_aload X144 hx (hb hby at_270) rfl rfl (pq 272) ?_
 refine w_bipush X144 hx (hb hby at_272) (v := (6 : Int32)) rfl (pq 274) ?_
 refine w_iload X144 hx (hb hby at_274) rfl (pq 276) ?_
 refine w_bipush X144 hx (hb hby at_276) (v := (6 : Int32)) rfl (pq 278) ?_
 have le150 : h0.size ≤ h144.size := (Nat.le_trans le140 (Keep.of_wr W144).1)
 refine w_static X144 hx (y := yn_5) hown (mvT hZ (wd_15 hw)) (mvT hZ (wd_16 hw)) (mvT hZ (wd_2 hw)) (mvT hZ (wd_17 hw)) (by decide) (backOf (W := 2) (rm_wsChar l Z aZ hw [] p5 (6 : Int32) h144 n0 (Nat.le_trans Z0 le150) ) hZ (wd_17 hw) (wd_2 hw) (by decide) (by decide)) (by rw [hml]; rfl) [(.int p5), (.int (6 : Int32))] (lenOf pd_3 rfl) rfl (Nat.le_of_eq rfl) (hb hby at_278) (fun _ _ => ⟨rfl, e144, (by decide : 1 + 0 ≤ _), (by decide : 12 + 0 ≤ _)⟩) (pq 281) ?_
 rintro _ _ ⟨T151, L151, k151, n151⟩ X151 ⟨Lc151, hQ151, l151, y151, z151⟩
 dsimp only [Pt.U, Pt.locs, Pt.cells, Pt.slots] at X151 l151 y151 z151 hQ151 ⊢
 rw [l151, y151, z151] at X151
 obtain ⟨c_151, rfl, N151q, e151, g151_0, g151_1⟩ := hQ151
 have N152 := Fr.app N149 N151q
 show Runs _ _ _ _ (T151.setTop (mkF m 281 _ [(.int c_151), (.int (6 : Int32)), (.ref b85)]))
 obtain ⟨clu153, Aru153, qu153, Su153, Nu153, Hu153, Gu153⟩ := id V147
 have hinu153 := inb_of (j := (6 : Int32)) Su153 ⟨by decide, by decide⟩
 refine w_stC X151 hx hZ e151 Aru153 hinu153 (hb hby at_281) (pq 282) ?_
 intro T154 h154 X154 e154 W154
 have C155 : CHr Z EL s.vm h0 s.vm h154 := C145.trans (CHr.wr W154 (Safe.arv hZ.alike V147 (by decide)) C145.1)
 have V156 : Arv Z h154 b85 k85 .char (12 : Int32) [(.int c_91), (.int c_101), (.int c_111), (.int c_121), (.int c_131), (.int c_141), (.int (nar .char c_151)), (.int (0 : Int32)), (.int (0 : Int32)), (.int (0 : Int32)), (.int (0 : Int32)), (.int (0 : Int32))] (.int (0 : Int32)) := Arv.set Aru153 qu153 Su153 Nu153 Hu153 Gu153 (fits_nar_char _) W154 6 rfl (Nat.le_of_ble_eq_true rfl)
 have V157 : Arv Z h154 b85 k85 .char (12 : Int32) [(.int c_91), (.int c_101), (.int c_111), (.int c_121), (.int c_131), (.int c_141), (.int c_151), (.int (0 : Int32)), (.int (0 : Int32)), (.int (0 : Int32)), (.int (0 : Int32)), (.int (0 : Int32))] (.int (0 : Int32)) := by rw [g151_0] at V156; exact V156
 have K158 : Keep h0 h154 [] := K148.wr W154 (Or.inr sz87)
 have N159 := Fr.snoc X154 N152 ge86
 refine w_aload X154 hx (hb hby at_282) rfl rfl (pq 284) ?_
 refine w_bipush X154 hx (hb hby at_284) (v := (7 : Int32)) rfl (pq 286) ?_
 refine w_iload X154 hx (hb hby at_286) rfl (pq 288) ?_
 refine w_bipush X154 hx (hb hby at_288) (v := (7 : Int32)) rfl (pq 290) ?_
 have le160 : h0.size ≤ h154.size := (Nat.le_trans le150 (Keep.of_wr W154).1)
 refine w_static X154 hx (y := yn_5) hown (mvT hZ (wd_15 hw)) (mvT hZ (wd_16 hw)) (mvT hZ (wd_2 hw)) (mvT hZ (wd_17 hw)) (by decide) (backOf (W := 2) (rm_wsChar l Z aZ hw [] p5 (7 : Int32) h154 n0 (Nat.le_trans Z0 le160) ) hZ (wd_17 hw) (wd_2 hw) (by decide) (by decide)) (by rw [hml]; rfl) [(.int p5), (.int (7 : Int32))] (lenOf pd_3 rfl) rfl (Nat.le_of_eq rfl) (hb hby at_290) (fun _ _ => ⟨rfl, e154, (by decide : 1 + 0 ≤ _), (by decide : 12 + 0 ≤ _)⟩) (pq 293) ?_
 rintro _ _ ⟨T161, L161, k161, n161⟩ X161 ⟨Lc161, hQ161, l161, y161, z161⟩
 dsimp only [Pt.U, Pt.locs, Pt.cells, Pt.slots] at X161 l161 y161 z161 hQ161 ⊢
 rw [l161, y161, z161] at X161
 obtain ⟨c_161, rfl, N161q, e161, g161_0, g161_1⟩ := hQ161
 have N162 := Fr.app N159 N161q
 show Runs _ _ _ _ (T161.setTop (mkF m 293 _ [(.int c_161), (.int (7 : Int32)), (.ref b85)]))
 obtain ⟨clu163, Aru163, qu163, Su163, Nu163, Hu163, Gu163⟩ := id V157
 have hinu163 := inb_of (j := (7 : Int32)) Su163 ⟨by decide, by decide⟩
 refine w_stC X161 hx hZ e161 Aru163 hinu163 (hb hby at_293) (pq 294) ?_
 intro T164 h164 X164 e164 W164
 have C165 : CHr Z EL s.vm h0 s.vm h164 := C155.trans (CHr.wr W164 (Safe.arv hZ.alike V157 (by decide)) C155.1)
 have V166 : Arv Z h164 b85 k85 .char (12 : Int32) [(.int c_91), (.int c_101), (.int c_111), (.int c_121), (.int c_131), (.int c_141), (.int c_151), (.int (nar .char c_161)), (.int (0 : Int32)), (.int (0 : Int32)), (.int (0 : Int32)), (.int (0 : Int32))] (.int (0 : Int32)) := Arv.set Aru163 qu163 Su163 Nu163 Hu163 Gu163 (fits_nar_char _) W164 7 rfl (Nat.le_of_ble_eq_true rfl)
 have V167 : Arv Z h164 b85 k85 .char (12 : Int32) [(.int c_91), (.int c_101), (.int c_111), (.int c_121), (.int c_131), (.int c_141), (.int c_151), (.int c_161), (.int (0 : Int32)), (.int (0 : Int32)), (.int (0 : Int32)), (.int (0 : Int32))] (.int (0 : Int32)) := by rw [g161_0] at V166; exact V166
 have K168 : Keep h0 h164 [] := K158.wr W164 (Or.inr sz87)
 have N169 := Fr.snoc X164 N162 ge86
 refine w_aload X164 hx (hb hby at_294) rfl rfl (pq 296) ?_
 refine w_bipush X164 hx (hb hby at_296) (v := (8 : Int32)) rfl (pq 298) ?_
 refine w_iload X164 hx (hb hby at_298) rfl (pq 300) ?_
 refine w_bipush X164 hx (hb hby at_300) (v := (8 : Int32)) rfl (pq 302) ?_
 have le170 : h0.size ≤ h164.size := (Nat.le_trans le160 (Keep.of_wr W164).1)
 refine w_static X164 hx (y := yn_5) hown (mvT hZ (wd_15 hw)) (mvT hZ (wd_16 hw)) (mvT hZ (wd_2 hw)) (mvT hZ (wd_17 hw)) (by decide) (backOf (W := 2) (rm_wsChar l Z aZ hw [] p5 (8 : Int32) h164 n0 (Nat.le_trans Z0 le170) ) hZ (wd_17 hw) (wd_2 hw) (by decide) (by decide)) (by rw [hml]; rfl) [(.int p5), (.int (8 : Int32))] (lenOf pd_3 rfl) rfl (Nat.le_of_eq rfl) (hb hby at_302) (fun _ _ => ⟨rfl, e164, (by decide : 1 + 0 ≤ _), (by decide : 12 + 0 ≤ _)⟩) (pq 305) ?_
 rintro _ _ ⟨T171, L171, k171, n171⟩ X171 ⟨Lc171, hQ171, l171, y171, z171⟩
 dsimp only [Pt.U, Pt.locs, Pt.cells, Pt.slots] at X171 l171 y171 z171 hQ171 ⊢
 rw [l171, y171, z171] at X171
 obtain ⟨c_171, rfl, N171q, e171, g171_0, g171_1⟩ := hQ171
 have N172 := Fr.app N169 N171q
 show Runs _ _ _ _ (T171.setTop (mkF m 305 _ [(.int c_171), (.int (8 : Int32)), (.ref b85)]))
 obtain ⟨clu173, Aru173, qu173, Su173, Nu173, Hu173, Gu173⟩ := id V167
 have hinu173 := inb_of (j := (8 : Int32)) Su173 ⟨by decide, by decide⟩
 refine w_stC X171 hx hZ e171 Aru173 hinu173 (hb hby at_305) (pq 306) ?_
 intro T174 h174 X174 e174 W174
 have C175 : CHr Z EL s.vm h0 s.vm h174 := C165.trans (CHr.wr W174 (Safe.arv hZ.alike V167 (by decide)) C165.1)
 have V176 : Arv Z h174 b85 k85 .char (12 : Int32) [(.int c_91), (.int c_101), (.int c_111), (.int c_121), (.int c_131), (.int c_141), (.int c_151), (.int c_161), (.int (nar .char c_171)), (.int (0 : Int32)), (.int (0 : Int32)), (.int (0 : Int32))] (.int (0 : Int32)) := Arv.set Aru173 qu173 Su173 Nu173 Hu173 Gu173 (fits_nar_char _) W174 8 rfl (Nat.le_of_ble_eq_true rfl)
 have V177 : Arv Z h174 b85 k85 .char (12 : Int32) [(.int c_91), (.int c_101), (.int c_111), (.int c_121), (.int c_131), (.int c_141), (.int c_151), (.int c_161), (.int c_171), (.int (0 : Int32)), (.int (0 : Int32)), (.int (0 : Int32))] (.int (0 : Int32)) := by rw [g171_0] at V176; exact V176
 have K178 : Keep h0 h174 [] := K168.wr W174 (Or.inr sz87)
 have N179 := Fr.snoc X174 N172 ge86
 refine w_aload X174 hx (hb hby at_306) rfl rfl (pq 308) ?_
 refine w_bipush X174 hx (hb hby at_308) (v := (9 : Int32)) rfl (pq 310) ?_
 refine w_iload X174 hx (hb hby at_310) rfl (pq 312) ?_
 refine w_bipush X174 hx (hb hby at_312) (v := (9 : Int32)) rfl (pq 314) ?_
 have le180 : h0.size ≤ h174.size := (Nat.le_trans le170 (Keep.of_wr W174).1)
 refine w_static X174 hx (y := yn_5) hown (mvT hZ (wd_15 hw)) (mvT hZ (wd_16 hw)) (mvT hZ (wd_2 hw)) (mvT hZ (wd_17 hw)) (by decide) (backOf (W := 2) (rm_wsChar l Z aZ hw [] p5 (9 : Int32) h174 n0 (Nat.le_trans Z0 le180) ) hZ (wd_17 hw) (wd_2 hw) (by decide) (by decide)) (by rw [hml]; rfl) [(.int p5), (.int (9 : Int32))] (lenOf pd_3 rfl) rfl (Nat.le_of_eq rfl) (hb hby at_314) (fun _ _ => ⟨rfl, e174, (by decide : 1 + 0 ≤ _), (by decide : 12 + 0 ≤ _)⟩) (pq 317) ?_
 rintro _ _ ⟨T181, L181, k181, n181⟩ X181 ⟨Lc181, hQ181, l181, y181, z181⟩
 dsimp only [Pt.U, Pt.locs, Pt.cells, Pt.slots] at X181 l181 y181 z181 hQ181 ⊢
 rw [l181, y181, z181] at X181
 obtain ⟨c_181, rfl, N181q, e181, g181_0, g181_1⟩ := hQ181
 have N182 := Fr.app N179 N181q
 show Runs _ _ _ _ (T181.setTop (mkF m 317 _ [(.int c_181), (.int (9 : Int32)), (.ref b85)]))
 obtain ⟨clu183, Aru183, qu183, Su183, Nu183, Hu183, Gu183⟩ := id V177
 have hinu183 := inb_of (j := (9 : Int32)) Su183 ⟨by decide, by decide⟩
 refine w_stC X181 hx hZ e181 Aru183 hinu183 (hb hby at_317) (pq 318) ?_
 intro T184 h184 X184 e184 W184
 have C185 : CHr Z EL s.vm h0 s.vm h184 := C175.trans (CHr.wr W184 (Safe.arv hZ.alike V177 (by decide)) C175.1)
 have V186 : Arv Z h184 b85 k85 .char (12 : Int32) [(.int c_91), (.int c_101), (.int c_111), (.int c_121), (.int c_131), (.int c_141), (.int c_151), (.int c_161), (.int c_171), (.int (nar .char c_181)), (.int (0 : Int32)), (.int (0 : Int32))] (.int (0 : Int32)) := Arv.set Aru183 qu183 Su183 Nu183 Hu183 Gu183 (fits_nar_char _) W184 9 rfl (Nat.le_of_ble_eq_true rfl)
 have V187 : Arv Z h184 b85 k85 .char (12 : Int32) [(.int c_91), (.int c_101), (.int c_111), (.int c_121), (.int c_131), (.int c_141), (.int c_151), (.int c_161), (.int c_171), (.int c_181), (.int (0 : Int32)), (.int (0 : Int32))] (.int (0 : Int32)) := by rw [g181_0] at V186; exact V186
 have K188 : Keep h0 h184 [] := K178.wr W184 (Or.inr sz87)
 have N189 := Fr.snoc X184 N182 ge86
 refine w_aload X184 hx (hb hby at_318) rfl rfl (pq 320) ?_
 refine w_bipush X184 hx (hb hby at_320) (v := (10 : Int32)) rfl (pq 322) ?_
 refine w_iload X184 hx (hb hby at_322) rfl (pq 324) ?_
 refine w_bipush X184 hx (hb hby at_324) (v := (10 : Int32)) rfl (pq 326) ?_
 have le190 : h0.size ≤ h184.size := (Nat.le_trans le180 (Keep.of_wr W184).1)
 refine w_static X184 hx (y := yn_5) hown (mvT hZ (wd_15 hw)) (mvT hZ (wd_16 hw)) (mvT hZ (wd_2 hw)) (mvT hZ (wd_17 hw)) (by decide) (backOf (W := 2) (rm_wsChar l Z aZ hw [] p5 (10 : Int32) h184 n0 (Nat.le_trans Z0 le190) ) hZ (wd_17 hw) (wd_2 hw) (by decide) (by decide)) (by rw [hml]; rfl) [(.int p5), (.int (10 : Int32))] (lenOf pd_3 rfl) rfl (Nat.le_of_eq rfl) (hb hby at_326) (fun _ _ => ⟨rfl, e184, (by decide : 1 + 0 ≤ _), (by decide : 12 + 0 ≤ _)⟩) (pq 329) ?_
 rintro _ _ ⟨T191, L191, k191, n191⟩ X191 ⟨Lc191, hQ191, l191, y191, z191⟩
 dsimp only [Pt.U, Pt.locs, Pt.cells, Pt.slots] at X191 l191 y191 z191 hQ191 ⊢
 rw [l191, y191, z191] at X191
 obtain ⟨c_191, rfl, N191q, e191, g191_0, g191_1⟩ := hQ191
 have N192 := Fr.app N189 N191q
 show Runs _ _ _ _ (T191.setTop (mkF m 329 _ [(.int c_191), (.int (10 : Int32)), (.ref b85)]))
 obtain ⟨clu193, Aru193, qu193, Su193, Nu193, Hu193, Gu193⟩ := id V187
 have hinu193 := inb_of (j := (10 : Int32)) Su193 ⟨by decide, by decide⟩
 refine w_stC X191 hx hZ e191 Aru193 hinu193 (hb hby at_329) (pq 330) ?_
 intro T194 h194 X194 e194 W194
 have C195 : CHr Z EL s.vm h0 s.vm h194 := C185.trans (CHr.wr W194 (Safe.arv hZ.alike V187 (by decide)) C185.1)
 have V196 : Arv Z h194 b85 k85 .char (12 : Int32) [(.int c_91), (.int c_101), (.int c_111), (.int c_121), (.int c_131), (.int c_141), (.int c_151), (.int c_161), (.int c_171), (.int c_181), (.int (nar .char c_191)), (.int (0 : Int32))] (.int (0 : Int32)) := Arv.set Aru193 qu193 Su193 Nu193 Hu193 Gu193 (fits_nar_char _) W194 10 rfl (Nat.le_of_ble_eq_true rfl)
 have V197 : Arv Z h194 b85 k85 .char (12 : Int32) [(.int c_91), (.int c_101), (.int c_111), (.int c_121), (.int c_131), (.int c_141), (.int c_151), (.int c_161), (.int c_171), (.int c_181), (.int c_191), (.int (0 : Int32))] (.int (0 : Int32)) := by rw [g191_0] at V196; exact V196
 have K198 : Keep h0 h194 [] := K188.wr W194 (Or.inr sz87)
 have N199 := Fr.snoc X194 N192 ge86
 refine w_aload X194 hx (hb hby at_330) rfl rfl (pq 332) ?_
 refine w_bipush X194 hx (hb hby at_332) (v := (11 : Int32)) rfl (pq 334) ?_
 refine w_iload X194 hx (hb hby at_334) rfl (pq 336) ?_
 refine w_bipush X194 hx (hb hby at_336) (v := (11 : Int32)) rfl (pq 338) ?_
 have le200 : h0.size ≤ h194.size := (Nat.le_trans le190 (Keep.of_wr W194).1)
 refine w_static X194 hx (y := yn_5) hown (mvT hZ (wd_15 hw)) (mvT hZ (wd_16 hw)) (mvT hZ (wd_2 hw)) (mvT hZ (wd_17 hw)) (by decide) (backOf (W := 2) (rm_wsChar l Z aZ hw [] p5 (11 : Int32) h194 n0 (Nat.le_trans Z0 le200) ) hZ (wd_17 hw) (wd_2 hw) (by decide) (by decide)) (by rw [hml]; rfl) [(.int p5), (.int (11 : Int32))] (lenOf pd_3 rfl) rfl (Nat.le_of_eq rfl) (hb hby at_338) (fun _ _ => ⟨rfl, e194, (by decide : 1 + 0 ≤ _), (by decide : 12 + 0 ≤ _)⟩) (pq 341) ?_
 rintro _ _ ⟨T201, L201, k201, n201⟩ X201 ⟨Lc201, hQ201, l201, y201, z201⟩
 dsimp only [Pt.U, Pt.locs, Pt.cells, Pt.slots] at X201 l201 y201 z201 hQ201 ⊢
 rw [l201, y201, z201] at X201
 obtain ⟨c_201, rfl, N201q, e201, g201_0, g201_1⟩ := hQ201
 have N202 := Fr.app N199 N201q
 show Runs _ _ _ _ (T201.setTop (mkF m 341 _ [(.int c_201), (.int (11 : Int32)), (.ref b85)]))
 obtain ⟨clu203, Aru203, qu203, Su203, Nu203, Hu203, Gu203⟩ := id V197
 have hinu203 := inb_of (j := (11 : Int32)) Su203 ⟨by decide, by decide⟩
 refine w_stC X201 hx hZ e201 Aru203 hinu203 (hb hby at_341) (pq 342) ?_
 intro T204 h204 X204 e204 W204
 have C205 : CHr Z EL s.vm h0 s.vm h204 := C195.trans (CHr.wr W204 (Safe.arv hZ.alike V197 (by decide)) C195.1)
 have V206 : Arv Z h204 b85 k85 .char (12 : Int32) [(.int c_91), (.int c_101), (.int c_111), (.int c_121), (.int c_131), (.int c_141), (.int c_151), (.int c_161), (.int c_171), (.int c_181), (.int c_191), (.int (nar .char c_201))] (.int (0 : Int32)) := Arv.set Aru203 qu203 Su203 Nu203 Hu203 Gu203 (fits_nar_char _) W204 11 rfl (Nat.le_of_ble_eq_true rfl)
 have V207 : Arv Z h204 b85 k85 .char (12 : Int32) [(.int c_91), (.int c_101), (.int c_111), (.int c_121), (.int c_131), (.int c_141), (.int c_151), (.int c_161), (.int c_171), (.int c_181), (.int c_191), (.int c_201)] (.int (0 : Int32)) := by rw [g201_0] at V206; exact V206
 have K208 : Keep h0 h204 [] := K198.wr W204 (Or.inr sz87)
 have N209 := Fr.snoc X204 N202 ge86
 refine w_iload X204 hx (hb hby at_342) rfl (pq 344) ?_
 obtain ⟨wl, hwl⟩ : ∃ wl : List Int32, wl = [c_91, c_101, c_111, c_121, c_131, c_141, c_151, c_161, c_171, c_181, c_191, c_201] := ⟨_, rfl⟩
 have V210 : Arv Z h204 b85 k85 .char (12 : Int32) (mI wl) (.int (0 : Int32)) := by rw [hwl]; exact V207
 have hwn : wl.length = 12 := by rw [hwl]; rfl
 have hws : ∀ x ∈ wl, WSP x := by rw [hwl]; exact (List.forall_mem_cons.2 ⟨g91_1, (List.forall_mem_cons.2 ⟨g101_1, (List.forall_mem_cons.2 ⟨g111_1, (List.forall_mem_cons.2 ⟨g121_1, (List.forall_mem_cons.2 ⟨g131_1, (List.forall_mem_cons.2 ⟨g141_1, (List.forall_mem_cons.2 ⟨g151_1, (List.forall_mem_cons.2 ⟨g161_1, (List.forall_mem_cons.2 ⟨g171_1, (List.forall_mem_cons.2 ⟨g181_1, (List.forall_mem_cons.2 ⟨g191_1, (List.forall_mem_cons.2 ⟨g201_1, (fun _ h => nomatch h)⟩)⟩)⟩)⟩)⟩)⟩)⟩)⟩)⟩)⟩)⟩)⟩)
 have hEN : ENC gr55 nn c_22 c_24 c_26 c_28 := own_ENC hg20 hg21 g22_1 g24_1 g26_1 g28_1 hg64
 refine w_istore X204 hx (hb hby at_344) (L' := #[.val (.int p0), .val (.int p1), .val (.int p2), .val (.int p3), .val (.int p4), .val (.int p5), .val (.int nn), .val (.int c_22), .val (.int c_24), .val (.int c_26), .val (.int c_28), .val (.int gr31), .val (.int gr55), .val (.int us), .val (.int ld), .val (.ref b85), .val (.int ld), .unset, .unset, .unset]) rfl (pq 346) ?_
 suffices key211 : ∀ (T212 : State) (L213 : List Loc) (hN217 : Heap) (ps221 : Int32) (bl220 : List Int32), Stand p l e room_1 (s.setVm s.vm) m #[(.int p0), (.int p1), (.int p2), (.int p3), (.int p4), (.int p5)] below meth c T212 L213 1 12 → T212.heap = hN217 → Fr n0 L213 → Keep h204 hN217 [b85] → Arv Z hN217 b85 k85 .char (12 : Int32) (mI bl220) (.int (0 : Int32)) → bl220.length = 12 → (∀ x ∈ bl220, ¬ x < 0 ∧ ¬ (255 : Int32) < x) → TRI (lowL bl220) (encK gr55 nn c_22 c_24 c_26 c_28) → Runs p e below (EndH s Z EL (Q_law Z p0 p1 p2 p3 p4 p5 G_COMPACT_STRINGS G_SIOOBE_FORMATTER h0 n0) room_1.cells room_1.slots) (T212.setTop (mkF m 462 #[.val (.int p0), .val (.int p1), .val (.int p2), .val (.int p3), .val (.int p4), .val (.int p5), .val (.int nn), .val (.int c_22), .val (.int c_24), .val (.int c_26), .val (.int c_28), .val (.int gr31), .val (.int gr55), .val (.int us), .val (.int ld), .val (.ref b85), .val (.int ps221), .unset, .unset, .unset] [])) by
  refine w_iload X204 hx (hb hby at_346) rfl (pq 348) ?_
  by_cases hc225 : gr55 = (0 : Int32)
  · refine w_ifY X204 hx (hb hby at_348) (teq hc225).1 (pc' := 361) (by decide) (by decide) ?_
    have hRD226 := own_roadB hus hg83 hg84 hwn hws hEN hc225
    refine w_aload X204 hx (hb hby at_361) rfl rfl (pq 363) ?_
    refine w_iload X204 hx (hb hby at_363) rfl (pq 365) ?_
    refine w_iload X204 hx (hb hby at_365) rfl (pq 367) ?_
    refine w_iload X204 hx (hb hby at_367) rfl (pq 369) ?_
    refine w_iconst X204 hx (hb hby at_369) (v := (1 : Int32)) rfl (pq 370) ?_
    have le227 : h0.size ≤ h204.size := (Nat.le_trans le200 (Keep.of_wr W204).1)
    refine w_static X204 hx (y := yn_6) hown (mvT hZ (wd_18 hw)) (mvT hZ (wd_19 hw)) (mvT hZ (wd_2 hw)) (mvT hZ (wd_20 hw)) (by decide) (backOf (W := 0) (rm_put l Z aZ hw [] b85 ld c_22 gr55 (1 : Int32) k85 wl h204 n0 (Nat.le_trans Z0 le227) V210 hRD226.1 hwn g22_0 ge86) hZ (wd_20 hw) (wd_2 hw) (by decide) (by decide)) (by rw [hml]; rfl) [(.ref b85), (.int ld), (.int c_22), (.int gr55), (.int (1 : Int32))] (lenOf pd_4 rfl) rfl (Nat.le_of_eq rfl) (hb hby at_370) (fun _ _ => ⟨rfl, e204, (by decide : 1 + 0 ≤ _), (by decide : 12 + 0 ≤ _)⟩) (pq 373) ?_
    rintro _ _ ⟨T228, L228, k228, n228⟩ X228 ⟨Lc228, hQ228, l228, y228, z228⟩
    dsimp only [Pt.U, Pt.locs, Pt.cells, Pt.slots] at X228 l228 y228 z228 hQ228 ⊢
    rw [l228, y228, z228] at X228
    obtain ⟨rfl, N228q, K228, g228_0⟩ := hQ228
    have N229 := Fr.app N209 N228q
    have C230 : CHr Z EL s.vm h0 s.vm T228.heap := C205.trans (CHr.keep K228 (sfS (Safe.arv hZ.alike V210 (by decide)) sf0) C205.1)
    have K231 : Keep h0 T228.heap [] := K208.trans K228 (allS (Or.inr sz87) (all0 (P := fun x => x ∈ [] ∨ h0.size ≤ x)))
    show Runs _ _ _ _ (T228.setTop (mkF m 373 _ [(.int (ld + (wdF c_22 gr55 (1 : Int32))))]))
    refine w_istore X228 hx (hb hby at_373) (L' := #[.val (.int p0), .val (.int p1), .val (.int p2), .val (.int p3), .val (.int p4), .val (.int p5), .val (.int nn), .val (.int c_22), .val (.int c_24), .val (.int c_26), .val (.int c_28), .val (.int gr31), .val (.int gr55), .val (.int us), .val (.int ld), .val (.ref b85), .val (.int (ld + (wdF c_22 gr55 (1 : Int32)))), .unset, .unset, .unset]) rfl (pq 375) ?_
    refine w_aload X228 hx (hb hby at_375) rfl rfl (pq 377) ?_
    refine w_iload X228 hx (hb hby at_377) rfl (pq 379) ?_
    refine w_iload X228 hx (hb hby at_379) rfl (pq 381) ?_
    refine w_iload X228 hx (hb hby at_381) rfl (pq 383) ?_
    refine w_iload X228 hx (hb hby at_383) rfl (pq 385) ?_
    refine w_iconst X228 hx (hb hby at_385) (v := (2 : Int32)) rfl (pq 386) ?_
    suffices key233 : Runs p e below (EndH s Z EL (Q_law Z p0 p1 p2 p3 p4 p5 G_COMPACT_STRINGS G_SIOOBE_FORMATTER h0 n0) room_1.cells room_1.slots) (T228.setTop (mkF m 394 #[.val (.int p0), .val (.int p1), .val (.int p2), .val (.int p3), .val (.int p4), .val (.int p5), .val (.int nn), .val (.int c_22), .val (.int c_24), .val (.int c_26), .val (.int c_28), .val (.int gr31), .val (.int gr55), .val (.int us), .val (.int ld), .val (.ref b85), .val (.int (ld + (wdF c_22 gr55 (1 : Int32)))), .unset, .unset, .unset] [(.int (if nn < (2 : Int32) then (0 : Int32) else (1 : Int32))), (.int gr55), (.int c_24), (.int (ld + (wdF c_22 gr55 (1 : Int32)))), (.ref b85)])) by
     by_cases hc232 : nn < (2 : Int32)
     · rw [if_pos hc232] at key233
       refine w_icY X228 hx (hb hby at_386) (tlt hc232).1 (pc' := 393) (by decide) (by decide) ?_
       refine w_iconst X228 hx (hb hby at_393) (v := (0 : Int32)) rfl (pq 394) ?_
       exact key233
     · rw [if_neg hc232] at key233
       refine w_icN X228 hx (hb hby at_386) (flt hc232).1 (pq 389) ?_
       refine w_iconst X228 hx (hb hby at_389) (v := (1 : Int32)) rfl (pq 390) ?_
       refine w_goto X228 hx (hb hby at_390) (pc' := 394) (by decide) (by decide) ?_
       exact key233
    have le234 : h0.size ≤ T228.heap.size := (Nat.le_trans le227 K228.1)
    refine w_static X228 hx (y := yn_6) hown (mvT hZ (wd_18 hw)) (mvT hZ (wd_19 hw)) (mvT hZ (wd_2 hw)) (mvT hZ (wd_20 hw)) (by decide) (backOf (W := 0) (rm_put l Z aZ hw [] b85 (ld + (wdF c_22 gr55 (1 : Int32))) c_24 gr55 (if nn < (2 : Int32) then (0 : Int32) else (1 : Int32)) k85 (putF wl ld c_22 gr55 (1 : Int32)) T228.heap n0 (Nat.le_trans Z0 le234) g228_0 hRD226.2.1 ((own_putlen _ _ _ _ _).trans hwn) g24_0 ge86) hZ (wd_20 hw) (wd_2 hw) (by decide) (by decide)) (by rw [hml]; rfl) [(.ref b85), (.int (ld + (wdF c_22 gr55 (1 : Int32)))), (.int c_24), (.int gr55), (.int (if nn < (2 : Int32) then (0 : Int32) else (1 : Int32)))] (lenOf pd_4 rfl) rfl (Nat.le_of_eq rfl) (hb hby at_394) (fun _ _ => ⟨rfl, rfl, (by decide : 1 + 0 ≤ _), (by decide : 12 + 0 ≤ _)⟩) (pq 397) ?_
    rintro _ _ ⟨T235, L235, k235, n235⟩ X235 ⟨Lc235, hQ235, l235, y235, z235⟩
    dsimp only [Pt.U, Pt.locs, Pt.cells, Pt.slots] at X235 l235 y235 z235 hQ235 ⊢
    rw [l235, y235, z235] at X235
    obtain ⟨rfl, N235q, K235, g235_0⟩ := hQ235
    have N236 := Fr.app N229 N235q
    have C237 : CHr Z EL s.vm h0 s.vm T235.heap := C230.trans (CHr.keep K235 (sfS (Safe.arv hZ.alike g228_0 (by decide)) sf0) C230.1)
    have K238 : Keep h0 T235.heap [] := K231.trans K235 (allS (Or.inr sz87) (all0 (P := fun x => x ∈ [] ∨ h0.size ≤ x)))
    show Runs _ _ _ _ (T235.setTop (mkF m 397 _ [(.int ((ld + (wdF c_22 gr55 (1 : Int32))) + (wdF c_24 gr55 (if nn < (2 : Int32) then (0 : Int32) else (1 : Int32)))))]))
    refine w_istore X235 hx (hb hby at_397) (L' := #[.val (.int p0), .val (.int p1), .val (.int p2), .val (.int p3), .val (.int p4), .val (.int p5), .val (.int nn), .val (.int c_22), .val (.int c_24), .val (.int c_26), .val (.int c_28), .val (.int gr31), .val (.int gr55), .val (.int us), .val (.int ld), .val (.ref b85), .val (.int ((ld + (wdF c_22 gr55 (1 : Int32))) + (wdF c_24 gr55 (if nn < (2 : Int32) then (0 : Int32) else (1 : Int32))))), .unset, .unset, .unset]) rfl (pq 399) ?_
    refine w_aload X235 hx (hb hby at_399) rfl rfl (pq 401) ?_
    refine w_iload X235 hx (hb hby at_401) rfl (pq 403) ?_
    refine w_iload X235 hx (hb hby at_403) rfl (pq 405) ?_
    refine w_iload X235 hx (hb hby at_405) rfl (pq 407) ?_
    refine w_iload X235 hx (hb hby at_407) rfl (pq 409) ?_
    refine w_iconst X235 hx (hb hby at_409) (v := (3 : Int32)) rfl (pq 410) ?_
    suffices key240 : Runs p e below (EndH s Z EL (Q_law Z p0 p1 p2 p3 p4 p5 G_COMPACT_STRINGS G_SIOOBE_FORMATTER h0 n0) room_1.cells room_1.slots) (T235.setTop (mkF m 418 #[.val (.int p0), .val (.int p1), .val (.int p2), .val (.int p3), .val (.int p4), .val (.int p5), .val (.int nn), .val (.int c_22), .val (.int c_24), .val (.int c_26), .val (.int c_28), .val (.int gr31), .val (.int gr55), .val (.int us), .val (.int ld), .val (.ref b85), .val (.int ((ld + (wdF c_22 gr55 (1 : Int32))) + (wdF c_24 gr55 (if nn < (2 : Int32) then (0 : Int32) else (1 : Int32))))), .unset, .unset, .unset] [(.int (if nn < (3 : Int32) then (0 : Int32) else (1 : Int32))), (.int gr55), (.int c_26), (.int ((ld + (wdF c_22 gr55 (1 : Int32))) + (wdF c_24 gr55 (if nn < (2 : Int32) then (0 : Int32) else (1 : Int32))))), (.ref b85)])) by
     by_cases hc239 : nn < (3 : Int32)
     · rw [if_pos hc239] at key240
       refine w_icY X235 hx (hb hby at_410) (tlt hc239).1 (pc' := 417) (by decide) (by decide) ?_
       refine w_iconst X235 hx (hb hby at_417) (v := (0 : Int32)) rfl (pq 418) ?_
       exact key240
     · rw [if_neg hc239] at key240
       refine w_icN X235 hx (hb hby at_410) (flt hc239).1 (pq 413) ?_
       refine w_iconst X235 hx (hb hby at_413) (v := (1 : Int32)) rfl (pq 414) ?_
       refine w_goto X235 hx (hb hby at_414) (pc' := 418) (by decide) (by decide) ?_
       exact key240
    have le241 : h0.size ≤ T235.heap.size := (Nat.le_trans le234 K235.1)
    refine w_static X235 hx (y := yn_6) hown (mvT hZ (wd_18 hw)) (mvT hZ (wd_19 hw)) (mvT hZ (wd_2 hw)) (mvT hZ (wd_20 hw)) (by decide) (backOf (W := 0) (rm_put l Z aZ hw [] b85 ((ld + (wdF c_22 gr55 (1 : Int32))) + (wdF c_24 gr55 (if nn < (2 : Int32) then (0 : Int32) else (1 : Int32)))) c_26 gr55 (if nn < (3 : Int32) then (0 : Int32) else (1 : Int32)) k85 (putF (putF wl ld c_22 gr55 (1 : Int32)) (ld + (wdF c_22 gr55 (1 : Int32))) c_24 gr55 (if nn < (2 : Int32) then (0 : Int32) else (1 : Int32))) T235.heap n0 (Nat.le_trans Z0 le241) g235_0 hRD226.2.2.1 ((own_putlen _ _ _ _ _).trans ((own_putlen _ _ _ _ _).trans hwn)) g26_0 ge86) hZ (wd_20 hw) (wd_2 hw) (by decide) (by decide)) (by rw [hml]; rfl) [(.ref b85), (.int ((ld + (wdF c_22 gr55 (1 : Int32))) + (wdF c_24 gr55 (if nn < (2 : Int32) then (0 : Int32) else (1 : Int32))))), (.int c_26), (.int gr55), (.int (if nn < (3 : Int32) then (0 : Int32) else (1 : Int32)))] (lenOf pd_4 rfl) rfl (Nat.le_of_eq rfl) (hb hby at_418) (fun _ _ => ⟨rfl, rfl, (by decide : 1 + 0 ≤ _), (by decide : 12 + 0 ≤ _)⟩) (pq 421) ?_
    rintro _ _ ⟨T242, L242, k242, n242⟩ X242 ⟨Lc242, hQ242, l242, y242, z242⟩
    dsimp only [Pt.U, Pt.locs, Pt.cells, Pt.slots] at X242 l242 y242 z242 hQ242 ⊢
    rw [l242, y242, z242] at X242
    obtain ⟨rfl, N242q, K242, g242_0⟩ := hQ242
    have N243 := Fr.app N236 N242q
    have C244 : CHr Z EL s.vm h0 s.vm T242.heap := C237.trans (CHr.keep K242 (sfS (Safe.arv hZ.alike g235_0 (by decide)) sf0) C237.1)
    have K245 : Keep h0 T242.heap [] := K238.trans K242 (allS (Or.inr sz87) (all0 (P := fun x => x ∈ [] ∨ h0.size ≤ x)))
    show Runs _ _ _ _ (T242.setTop (mkF m 421 _ [(.int (((ld + (wdF c_22 gr55 (1 : Int32))) + (wdF c_24 gr55 (if nn < (2 : Int32) then (0 : Int32) else (1 : Int32)))) + (wdF c_26 gr55 (if nn < (3 : Int32) then (0 : Int32) else (1 : Int32)))))]))
    refine w_istore X242 hx (hb hby at_421) (L' := #[.val (.int p0), .val (.int p1), .val (.int p2), .val (.int p3), .val (.int p4), .val (.int p5), .val (.int nn), .val (.int c_22), .val (.int c_24), .val (.int c_26), .val (.int c_28), .val (.int gr31), .val (.int gr55), .val (.int us), .val (.int ld), .val (.ref b85), .val (.int (((ld + (wdF c_22 gr55 (1 : Int32))) + (wdF c_24 gr55 (if nn < (2 : Int32) then (0 : Int32) else (1 : Int32)))) + (wdF c_26 gr55 (if nn < (3 : Int32) then (0 : Int32) else (1 : Int32))))), .unset, .unset, .unset]) rfl (pq 423) ?_
    refine w_aload X242 hx (hb hby at_423) rfl rfl (pq 425) ?_
    refine w_iload X242 hx (hb hby at_425) rfl (pq 427) ?_
    refine w_iload X242 hx (hb hby at_427) rfl (pq 429) ?_
    refine w_iload X242 hx (hb hby at_429) rfl (pq 431) ?_
    refine w_iload X242 hx (hb hby at_431) rfl (pq 433) ?_
    refine w_iconst X242 hx (hb hby at_433) (v := (4 : Int32)) rfl (pq 434) ?_
    suffices key247 : Runs p e below (EndH s Z EL (Q_law Z p0 p1 p2 p3 p4 p5 G_COMPACT_STRINGS G_SIOOBE_FORMATTER h0 n0) room_1.cells room_1.slots) (T242.setTop (mkF m 442 #[.val (.int p0), .val (.int p1), .val (.int p2), .val (.int p3), .val (.int p4), .val (.int p5), .val (.int nn), .val (.int c_22), .val (.int c_24), .val (.int c_26), .val (.int c_28), .val (.int gr31), .val (.int gr55), .val (.int us), .val (.int ld), .val (.ref b85), .val (.int (((ld + (wdF c_22 gr55 (1 : Int32))) + (wdF c_24 gr55 (if nn < (2 : Int32) then (0 : Int32) else (1 : Int32)))) + (wdF c_26 gr55 (if nn < (3 : Int32) then (0 : Int32) else (1 : Int32))))), .unset, .unset, .unset] [(.int (if nn < (4 : Int32) then (0 : Int32) else (1 : Int32))), (.int gr55), (.int c_28), (.int (((ld + (wdF c_22 gr55 (1 : Int32))) + (wdF c_24 gr55 (if nn < (2 : Int32) then (0 : Int32) else (1 : Int32)))) + (wdF c_26 gr55 (if nn < (3 : Int32) then (0 : Int32) else (1 : Int32))))), (.ref b85)])) by
     by_cases hc246 : nn < (4 : Int32)
     · rw [if_pos hc246] at key247
       refine w_icY X242 hx (hb hby at_434) (tlt hc246).1 (pc' := 441) (by decide) (by decide) ?_
       refine w_iconst X242 hx (hb hby at_441) (v := (0 : Int32)) rfl (pq 442) ?_
       exact key247
     · rw [if_neg hc246] at key247
       refine w_icN X242 hx (hb hby at_434) (flt hc246).1 (pq 437) ?_
       refine w_iconst X242 hx (hb hby at_437) (v := (1 : Int32)) rfl (pq 438) ?_
       refine w_goto X242 hx (hb hby at_438) (pc' := 442) (by decide) (by decide) ?_
       exact key247
    have le248 : h0.size ≤ T242.heap.size := (Nat.le_trans le241 K242.1)
    refine w_static X242 hx (y := yn_6) hown (mvT hZ (wd_18 hw)) (mvT hZ (wd_19 hw)) (mvT hZ (wd_2 hw)) (mvT hZ (wd_20 hw)) (by decide) (backOf (W := 0) (rm_put l Z aZ hw [] b85 (((ld + (wdF c_22 gr55 (1 : Int32))) + (wdF c_24 gr55 (if nn < (2 : Int32) then (0 : Int32) else (1 : Int32)))) + (wdF c_26 gr55 (if nn < (3 : Int32) then (0 : Int32) else (1 : Int32)))) c_28 gr55 (if nn < (4 : Int32) then (0 : Int32) else (1 : Int32)) k85 (putF (putF (putF wl ld c_22 gr55 (1 : Int32)) (ld + (wdF c_22 gr55 (1 : Int32))) c_24 gr55 (if nn < (2 : Int32) then (0 : Int32) else (1 : Int32))) ((ld + (wdF c_22 gr55 (1 : Int32))) + (wdF c_24 gr55 (if nn < (2 : Int32) then (0 : Int32) else (1 : Int32)))) c_26 gr55 (if nn < (3 : Int32) then (0 : Int32) else (1 : Int32))) T242.heap n0 (Nat.le_trans Z0 le248) g242_0 hRD226.2.2.2.1 ((own_putlen _ _ _ _ _).trans ((own_putlen _ _ _ _ _).trans ((own_putlen _ _ _ _ _).trans hwn))) g28_0 ge86) hZ (wd_20 hw) (wd_2 hw) (by decide) (by decide)) (by rw [hml]; rfl) [(.ref b85), (.int (((ld + (wdF c_22 gr55 (1 : Int32))) + (wdF c_24 gr55 (if nn < (2 : Int32) then (0 : Int32) else (1 : Int32)))) + (wdF c_26 gr55 (if nn < (3 : Int32) then (0 : Int32) else (1 : Int32))))), (.int c_28), (.int gr55), (.int (if nn < (4 : Int32) then (0 : Int32) else (1 : Int32)))] (lenOf pd_4 rfl) rfl (Nat.le_of_eq rfl) (hb hby at_442) (fun _ _ => ⟨rfl, rfl, (by decide : 1 + 0 ≤ _), (by decide : 12 + 0 ≤ _)⟩) (pq 445) ?_
    rintro _ _ ⟨T249, L249, k249, n249⟩ X249 ⟨Lc249, hQ249, l249, y249, z249⟩
    dsimp only [Pt.U, Pt.locs, Pt.cells, Pt.slots] at X249 l249 y249 z249 hQ249 ⊢
    rw [l249, y249, z249] at X249
    obtain ⟨rfl, N249q, K249, g249_0⟩ := hQ249
    have N250 := Fr.app N243 N249q
    have C251 : CHr Z EL s.vm h0 s.vm T249.heap := C244.trans (CHr.keep K249 (sfS (Safe.arv hZ.alike g242_0 (by decide)) sf0) C244.1)
    have K252 : Keep h0 T249.heap [] := K245.trans K249 (allS (Or.inr sz87) (all0 (P := fun x => x ∈ [] ∨ h0.size ≤ x)))
    show Runs _ _ _ _ (T249.setTop (mkF m 445 _ [(.int ((((ld + (wdF c_22 gr55 (1 : Int32))) + (wdF c_24 gr55 (if nn < (2 : Int32) then (0 : Int32) else (1 : Int32)))) + (wdF c_26 gr55 (if nn < (3 : Int32) then (0 : Int32) else (1 : Int32)))) + (wdF c_28 gr55 (if nn < (4 : Int32) then (0 : Int32) else (1 : Int32)))))]))
    refine w_istore X249 hx (hb hby at_445) (L' := #[.val (.int p0), .val (.int p1), .val (.int p2), .val (.int p3), .val (.int p4), .val (.int p5), .val (.int nn), .val (.int c_22), .val (.int c_24), .val (.int c_26), .val (.int c_28), .val (.int gr31), .val (.int gr55), .val (.int us), .val (.int ld), .val (.ref b85), .val (.int ((((ld + (wdF c_22 gr55 (1 : Int32))) + (wdF c_24 gr55 (if nn < (2 : Int32) then (0 : Int32) else (1 : Int32)))) + (wdF c_26 gr55 (if nn < (3 : Int32) then (0 : Int32) else (1 : Int32)))) + (wdF c_28 gr55 (if nn < (4 : Int32) then (0 : Int32) else (1 : Int32))))), .unset, .unset, .unset]) rfl (pq 447) ?_
    refine w_iload X249 hx (hb hby at_447) rfl (pq 449) ?_
    refine w_ifY X249 hx (hb hby at_449) (teq hc225).1 (pc' := 462) (by decide) (by decide) ?_
    exact key211 _ _ _ _ _ X249 rfl N250 (((((Keep.refl _ _).trans K228 (fun _ q => Or.inl q)).trans K235 (fun _ q => Or.inl q)).trans K242 (fun _ q => Or.inl q)).trans K249 (fun _ q => Or.inl q)) g249_0 ((own_putlen _ _ _ _ _).trans ((own_putlen _ _ _ _ _).trans ((own_putlen _ _ _ _ _).trans ((own_putlen _ _ _ _ _).trans hwn)))) hRD226.2.2.2.2.1 hRD226.2.2.2.2.2
  · refine w_ifN X204 hx (hb hby at_348) (feq hc225).1 (pq 351) ?_
    have hRD253 := own_roadQ hus hg83 hg84 hwn hws hEN hc225
    refine w_aload X204 hx (hb hby at_351) rfl rfl (pq 353) ?_
    refine w_iload X204 hx (hb hby at_353) rfl (pq 355) ?_
    refine w_bipush X204 hx (hb hby at_355) (v := (34 : Int32)) rfl (pq 357) ?_
    obtain ⟨clu254, Aru254, qu254, Su254, Nu254, Hu254, Gu254⟩ := id V210
    have hinu254 := inb_of (j := ld) Su254 ⟨hg83, hRD253.1⟩
    refine w_stC X204 hx hZ e204 Aru254 hinu254 (hb hby at_357) (pq 358) ?_
    intro T255 h255 X255 e255 W255
    rw [show nar .char (34 : Int32) = (34 : Int32) from by decide] at W255
    have C256 : CHr Z EL s.vm h0 s.vm h255 := C205.trans (CHr.wr W255 (Safe.arv hZ.alike V210 (by decide)) C205.1)
    have V257 : Arv Z h255 b85 k85 .char (12 : Int32) (mI (setI wl ld (34 : Int32))) (.int (0 : Int32)) := own_sto Aru254 qu254 Su254 Nu254 Hu254 Gu254 (own_fitc (by decide : nar .char (34 : Int32) = (34 : Int32))) W255 hwn hinu254
    have K258 : Keep h0 h255 [] := K208.wr W255 (Or.inr sz87)
    have N259 := Fr.snoc X255 N209 ge86
    refine w_iinc X255 hx (hb hby at_358) (v := (1 : Int32)) rfl rfl (L' := #[.val (.int p0), .val (.int p1), .val (.int p2), .val (.int p3), .val (.int p4), .val (.int p5), .val (.int nn), .val (.int c_22), .val (.int c_24), .val (.int c_26), .val (.int c_28), .val (.int gr31), .val (.int gr55), .val (.int us), .val (.int ld), .val (.ref b85), .val (.int (ld + (1 : Int32))), .unset, .unset, .unset]) rfl (pq 361) ?_
    refine w_aload X255 hx (hb hby at_361) rfl rfl (pq 363) ?_
    refine w_iload X255 hx (hb hby at_363) rfl (pq 365) ?_
    refine w_iload X255 hx (hb hby at_365) rfl (pq 367) ?_
    refine w_iload X255 hx (hb hby at_367) rfl (pq 369) ?_
    refine w_iconst X255 hx (hb hby at_369) (v := (1 : Int32)) rfl (pq 370) ?_
    have le260 : h0.size ≤ h204.size := (Nat.le_trans le200 (Keep.of_wr W204).1)
    have le261 : h0.size ≤ h255.size := (Nat.le_trans le260 (Keep.of_wr W255).1)
    refine w_static X255 hx (y := yn_6) hown (mvT hZ (wd_18 hw)) (mvT hZ (wd_19 hw)) (mvT hZ (wd_2 hw)) (mvT hZ (wd_20 hw)) (by decide) (backOf (W := 0) (rm_put l Z aZ hw [] b85 (ld + (1 : Int32)) c_22 gr55 (1 : Int32) k85 (setI wl ld (34 : Int32)) h255 n0 (Nat.le_trans Z0 le261) V257 hRD253.2.1 ((own_setlen _ _ _).trans hwn) g22_0 ge86) hZ (wd_20 hw) (wd_2 hw) (by decide) (by decide)) (by rw [hml]; rfl) [(.ref b85), (.int (ld + (1 : Int32))), (.int c_22), (.int gr55), (.int (1 : Int32))] (lenOf pd_4 rfl) rfl (Nat.le_of_eq rfl) (hb hby at_370) (fun _ _ => ⟨rfl, e255, (by decide : 1 + 0 ≤ _), (by decide : 12 + 0 ≤ _)⟩) (pq 373) ?_
    rintro _ _ ⟨T262, L262, k262, n262⟩ X262 ⟨Lc262, hQ262, l262, y262, z262⟩
    dsimp only [Pt.U, Pt.locs, Pt.cells, Pt.slots] at X262 l262 y262 z262 hQ262 ⊢
    rw [l262, y262, z262] at X262
    obtain ⟨rfl, N262q, K262, g262_0⟩ := hQ262
    have N263 := Fr.app N259 N262q
    have C264 : CHr Z EL s.vm h0 s.vm T262.heap := C256.trans (CHr.keep K262 (sfS (Safe.arv hZ.alike V257 (by decide)) sf0) C256.1)
    have K265 : Keep h0 T262.heap [] := K258.trans K262 (allS (Or.inr sz87) (all0 (P := fun x => x ∈ [] ∨ h0.size ≤ x)))
    show Runs _ _ _ _ (T262.setTop (mkF m 373 _ [(.int ((ld + (1 : Int32)) + (wdF c_22 gr55 (1 : Int32))))]))
    refine w_istore X262 hx (hb hby at_373) (L' := #[.val (.int p0), .val (.int p1), .val (.int p2), .val (.int p3), .val (.int p4), .val (.int p5), .val (.int nn), .val (.int c_22), .val (.int c_24), .val (.int c_26), .val (.int c_28), .val (.int gr31), .val (.int gr55), .val (.int us), .val (.int ld), .val (.ref b85), .val (.int ((ld + (1 : Int32)) + (wdF c_22 gr55 (1 : Int32)))), .unset, .unset, .unset]) rfl (pq 375) ?_
    refine w_aload X262 hx (hb hby at_375) rfl rfl (pq 377) ?_
    refine w_iload X262 hx (hb hby at_377) rfl (pq 379) ?_
    refine w_iload X262 hx (hb hby at_379) rfl (pq 381) ?_
    refine w_iload X262 hx (hb hby at_381) rfl (pq 383) ?_
    refine w_iload X262 hx (hb hby at_383) rfl (pq 385) ?_
    refine w_iconst X262 hx (hb hby at_385) (v := (2 : Int32)) rfl (pq 386) ?_
    suffices key267 : Runs p e below (EndH s Z EL (Q_law Z p0 p1 p2 p3 p4 p5 G_COMPACT_STRINGS G_SIOOBE_FORMATTER h0 n0) room_1.cells room_1.slots) (T262.setTop (mkF m 394 #[.val (.int p0), .val (.int p1), .val (.int p2), .val (.int p3), .val (.int p4), .val (.int p5), .val (.int nn), .val (.int c_22), .val (.int c_24), .val (.int c_26), .val (.int c_28), .val (.int gr31), .val (.int gr55), .val (.int us), .val (.int ld), .val (.ref b85), .val (.int ((ld + (1 : Int32)) + (wdF c_22 gr55 (1 : Int32)))), .unset, .unset, .unset] [(.int (if nn < (2 : Int32) then (0 : Int32) else (1 : Int32))), (.int gr55), (.int c_24), (.int ((ld + (1 : Int32)) + (wdF c_22 gr55 (1 : Int32)))), (.ref b85)])) by
     by_cases hc266 : nn < (2 : Int32)
     · rw [if_pos hc266] at key267
       refine w_icY X262 hx (hb hby at_386) (tlt hc266).1 (pc' := 393) (by decide) (by decide) ?_
       refine w_iconst X262 hx (hb hby at_393) (v := (0 : Int32)) rfl (pq 394) ?_
       exact key267
     · rw [if_neg hc266] at key267
       refine w_icN X262 hx (hb hby at_386) (flt hc266).1 (pq 389) ?_
       refine w_iconst X262 hx (hb hby at_389) (v := (1 : Int32)) rfl (pq 390) ?_
       refine w_goto X262 hx (hb hby at_390) (pc' := 394) (by decide) (by decide) ?_
       exact key267
    have le268 : h0.size ≤ T262.heap.size := (Nat.le_trans le261 K262.1)
    refine w_static X262 hx (y := yn_6) hown (mvT hZ (wd_18 hw)) (mvT hZ (wd_19 hw)) (mvT hZ (wd_2 hw)) (mvT hZ (wd_20 hw)) (by decide) (backOf (W := 0) (rm_put l Z aZ hw [] b85 ((ld + (1 : Int32)) + (wdF c_22 gr55 (1 : Int32))) c_24 gr55 (if nn < (2 : Int32) then (0 : Int32) else (1 : Int32)) k85 (putF (setI wl ld (34 : Int32)) (ld + (1 : Int32)) c_22 gr55 (1 : Int32)) T262.heap n0 (Nat.le_trans Z0 le268) g262_0 hRD253.2.2.1 ((own_putlen _ _ _ _ _).trans ((own_setlen _ _ _).trans hwn)) g24_0 ge86) hZ (wd_20 hw) (wd_2 hw) (by decide) (by decide)) (by rw [hml]; rfl) [(.ref b85), (.int ((ld + (1 : Int32)) + (wdF c_22 gr55 (1 : Int32)))), (.int c_24), (.int gr55), (.int (if nn < (2 : Int32) then (0 : Int32) else (1 : Int32)))] (lenOf pd_4 rfl) rfl (Nat.le_of_eq rfl) (hb hby at_394) (fun _ _ => ⟨rfl, rfl, (by decide : 1 + 0 ≤ _), (by decide : 12 + 0 ≤ _)⟩) (pq 397) ?_
    rintro _ _ ⟨T269, L269, k269, n269⟩ X269 ⟨Lc269, hQ269, l269, y269, z269⟩
    dsimp only [Pt.U, Pt.locs, Pt.cells, Pt.slots] at X269 l269 y269 z269 hQ269 ⊢
    rw [l269, y269, z269] at X269
    obtain ⟨rfl, N269q, K269, g269_0⟩ := hQ269
    have N270 := Fr.app N263 N269q
    have C271 : CHr Z EL s.vm h0 s.vm T269.heap := C264.trans (CHr.keep K269 (sfS (Safe.arv hZ.alike g262_0 (by decide)) sf0) C264.1)
    have K272 : Keep h0 T269.heap [] := K265.trans K269 (allS (Or.inr sz87) (all0 (P := fun x => x ∈ [] ∨ h0.size ≤ x)))
    show Runs _ _ _ _ (T269.setTop (mkF m 397 _ [(.int (((ld + (1 : Int32)) + (wdF c_22 gr55 (1 : Int32))) + (wdF c_24 gr55 (if nn < (2 : Int32) then (0 : Int32) else (1 : Int32)))))]))
    refine w_istore X269 hx (hb hby at_397) (L' := #[.val (.int p0), .val (.int p1), .val (.int p2), .val (.int p3), .val (.int p4), .val (.int p5), .val (.int nn), .val (.int c_22), .val (.int c_24), .val (.int c_26), .val (.int c_28), .val (.int gr31), .val (.int gr55), .val (.int us), .val (.int ld), .val (.ref b85), .val (.int (((ld + (1 : Int32)) + (wdF c_22 gr55 (1 : Int32))) + (wdF c_24 gr55 (if nn < (2 : Int32) then (0 : Int32) else (1 : Int32))))), .unset, .unset, .unset]) rfl (pq 399) ?_
    refine w_aload X269 hx (hb hby at_399) rfl rfl (pq 401) ?_
    refine w_iload X269 hx (hb hby at_401) rfl (pq 403) ?_
    refine w_iload X269 hx (hb hby at_403) rfl (pq 405) ?_
    refine w_iload X269 hx (hb hby at_405) rfl (pq 407) ?_
    refine w_iload X269 hx (hb hby at_407) rfl (pq 409) ?_
    refine w_iconst X269 hx (hb hby at_409) (v := (3 : Int32)) rfl (pq 410) ?_
    suffices key274 : Runs p e below (EndH s Z EL (Q_law Z p0 p1 p2 p3 p4 p5 G_COMPACT_STRINGS G_SIOOBE_FORMATTER h0 n0) room_1.cells room_1.slots) (T269.setTop (mkF m 418 #[.val (.int p0), .val (.int p1), .val (.int p2), .val (.int p3), .val (.int p4), .val (.int p5), .val (.int nn), .val (.int c_22), .val (.int c_24), .val (.int c_26), .val (.int c_28), .val (.int gr31), .val (.int gr55), .val (.int us), .val (.int ld), .val (.ref b85), .val (.int (((ld + (1 : Int32)) + (wdF c_22 gr55 (1 : Int32))) + (wdF c_24 gr55 (if nn < (2 : Int32) then (0 : Int32) else (1 : Int32))))), .unset, .unset, .unset] [(.int (if nn < (3 : Int32) then (0 : Int32) else (1 : Int32))), (.int gr55), (.int c_26), (.int (((ld + (1 : Int32)) + (wdF c_22 gr55 (1 : Int32))) + (wdF c_24 gr55 (if nn < (2 : Int32) then (0 : Int32) else (1 : Int32))))), (.ref b85)])) by
     by_cases hc273 : nn < (3 : Int32)
     · rw [if_pos hc273] at key274
       refine w_icY X269 hx (hb hby at_410) (tlt hc273).1 (pc' := 417) (by decide) (by decide) ?_
       refine w_iconst X269 hx (hb hby at_417) (v := (0 : Int32)) rfl (pq 418) ?_
       exact key274
     · rw [if_neg hc273] at key274
       refine w_icN X269 hx (hb hby at_410) (flt hc273).1 (pq 413) ?_
       refine w_iconst X269 hx (hb hby at_413) (v := (1 : Int32)) rfl (pq 414) ?_
       refine w_goto X269 hx (hb hby at_414) (pc' := 418) (by decide) (by decide) ?_
       exact key274
    have le275 : h0.size ≤ T269.heap.size := (Nat.le_trans le268 K269.1)
    refine w_static X269 hx (y := yn_6) hown (mvT hZ (wd_18 hw)) (mvT hZ (wd_19 hw)) (mvT hZ (wd_2 hw)) (mvT hZ (wd_20 hw)) (by decide) (backOf (W := 0) (rm_put l Z aZ hw [] b85 (((ld + (1 : Int32)) + (wdF c_22 gr55 (1 : Int32))) + (wdF c_24 gr55 (if nn < (2 : Int32) then (0 : Int32) else (1 : Int32)))) c_26 gr55 (if nn < (3 : Int32) then (0 : Int32) else (1 : Int32)) k85 (putF (putF (setI wl ld (34 : Int32)) (ld + (1 : Int32)) c_22 gr55 (1 : Int32)) ((ld + (1 : Int32)) + (wdF c_22 gr55 (1 : Int32))) c_24 gr55 (if nn < (2 : Int32) then (0 : Int32) else (1 : Int32))) T269.heap n0 (Nat.le_trans Z0 le275) g269_0 hRD253.2.2.2.1 ((own_putlen _ _ _ _ _).trans ((own_putlen _ _ _ _ _).trans ((own_setlen _ _ _).trans hwn))) g26_0 ge86) hZ (wd_20 hw) (wd_2 hw) (by decide) (by decide)) (by rw [hml]; rfl) [(.ref b85), (.int (((ld + (1 : Int32)) + (wdF c_22 gr55 (1 : Int32))) + (wdF c_24 gr55 (if nn < (2 : Int32) then (0 : Int32) else (1 : Int32))))), (.int c_26), (.int gr55), (.int (if nn < (3 : Int32) then (0 : Int32) else (1 : Int32)))] (lenOf pd_4 rfl) rfl (Nat.le_of_eq rfl) (hb hby at_418) (fun _ _ => ⟨rfl, rfl, (by decide : 1 + 0 ≤ _), (by decide : 12 + 0 ≤ _)⟩) (pq 421) ?_
    rintro _ _ ⟨T276, L276, k276, n276⟩ X276 ⟨Lc276, hQ276, l276, y276, z276⟩
    dsimp only [Pt.U, Pt.locs, Pt.cells, Pt.slots] at X276 l276 y276 z276 hQ276 ⊢
    rw [l276, y276, z276] at X276
    obtain ⟨rfl, N276q, K276, g276_0⟩ := hQ276
    have N277 := Fr.app N270 N276q
    have C278 : CHr Z EL s.vm h0 s.vm T276.heap := C271.trans (CHr.keep K276 (sfS (Safe.arv hZ.alike g269_0 (by decide)) sf0) C271.1)
    have K279 : Keep h0 T276.heap [] := K272.trans K276 (allS (Or.inr sz87) (all0 (P := fun x => x ∈ [] ∨ h0.size ≤ x)))
    show Runs _ _ _ _ (T276.setTop (mkF m 421 _ [(.int ((((ld + (1 : Int32)) + (wdF c_22 gr55 (1 : Int32))) + (wdF c_24 gr55 (if nn < (2 : Int32) then (0 : Int32) else (1 : Int32)))) + (wdF c_26 gr55 (if nn < (3 : Int32) then (0 : Int32) else (1 : Int32)))))]))
    refine w_istore X276 hx (hb hby at_421) (L' := #[.val (.int p0), .val (.int p1), .val (.int p2), .val (.int p3), .val (.int p4), .val (.int p5), .val (.int nn), .val (.int c_22), .val (.int c_24), .val (.int c_26), .val (.int c_28), .val (.int gr31), .val (.int gr55), .val (.int us), .val (.int ld), .val (.ref b85), .val (.int ((((ld + (1 : Int32)) + (wdF c_22 gr55 (1 : Int32))) + (wdF c_24 gr55 (if nn < (2 : Int32) then (0 : Int32) else (1 : Int32)))) + (wdF c_26 gr55 (if nn < (3 : Int32) then (0 : Int32) else (1 : Int32))))), .unset, .unset, .unset]) rfl (pq 423) ?_
    refine w_aload X276 hx (hb hby at_423) rfl rfl (pq 425) ?_
    refine w_iload X276 hx (hb hby at_425) rfl (pq 427) ?_
    refine w_iload X276 hx (hb hby at_427) rfl (pq 429) ?_
    refine w_iload X276 hx (hb hby at_429) rfl (pq 431) ?_
    refine w_iload X276 hx (hb hby at_431) rfl (pq 433) ?_
    refine w_iconst X276 hx (hb hby at_433) (v := (4 : Int32)) rfl (pq 434) ?_
    suffices key281 : Runs p e below (EndH s Z EL (Q_law Z p0 p1 p2 p3 p4 p5 G_COMPACT_STRINGS G_SIOOBE_FORMATTER h0 n0) room_1.cells room_1.slots) (T276.setTop (mkF m 442 #[.val (.int p0), .val (.int p1), .val (.int p2), .val (.int p3), .val (.int p4), .val (.int p5), .val (.int nn), .val (.int c_22), .val (.int c_24), .val (.int c_26), .val (.int c_28), .val (.int gr31), .val (.int gr55), .val (.int us), .val (.int ld), .val (.ref b85), .val (.int ((((ld + (1 : Int32)) + (wdF c_22 gr55 (1 : Int32))) + (wdF c_24 gr55 (if nn < (2 : Int32) then (0 : Int32) else (1 : Int32)))) + (wdF c_26 gr55 (if nn < (3 : Int32) then (0 : Int32) else (1 : Int32))))), .unset, .unset, .unset] [(.int (if nn < (4 : Int32) then (0 : Int32) else (1 : Int32))), (.int gr55), (.int c_28), (.int ((((ld + (1 : Int32)) + (wdF c_22 gr55 (1 : Int32))) + (wdF c_24 gr55 (if nn < (2 : Int32) then (0 : Int32) else (1 : Int32)))) + (wdF c_26 gr55 (if nn < (3 : Int32) then (0 : Int32) else (1 : Int32))))), (.ref b85)])) by
     by_cases hc280 : nn < (4 : Int32)
     · rw [if_pos hc280] at key281
       refine w_icY X276 hx (hb hby at_434) (tlt hc280).1 (pc' := 441) (by decide) (by decide) ?_
       refine w_iconst X276 hx (hb hby at_441) (v := (0 : Int32)) rfl (pq 442) ?_
       exact key281
     · rw [if_neg hc280] at key281
       refine w_icN X276 hx (hb hby at_434) (flt hc280).1 (pq 437) ?_
       refine w_iconst X276 hx (hb hby at_437) (v := (1 : Int32)) rfl (pq 438) ?_
       refine w_goto X276 hx (hb hby at_438) (pc' := 442) (by decide) (by decide) ?_
       exact key281
    have le282 : h0.size ≤ T276.heap.size := (Nat.le_trans le275 K276.1)
    refine w_static X276 hx (y := yn_6) hown (mvT hZ (wd_18 hw)) (mvT hZ (wd_19 hw)) (mvT hZ (wd_2 hw)) (mvT hZ (wd_20 hw)) (by decide) (backOf (W := 0) (rm_put l Z aZ hw [] b85 ((((ld + (1 : Int32)) + (wdF c_22 gr55 (1 : Int32))) + (wdF c_24 gr55 (if nn < (2 : Int32) then (0 : Int32) else (1 : Int32)))) + (wdF c_26 gr55 (if nn < (3 : Int32) then (0 : Int32) else (1 : Int32)))) c_28 gr55 (if nn < (4 : Int32) then (0 : Int32) else (1 : Int32)) k85 (putF (putF (putF (setI wl ld (34 : Int32)) (ld + (1 : Int32)) c_22 gr55 (1 : Int32)) ((ld + (1 : Int32)) + (wdF c_22 gr55 (1 : Int32))) c_24 gr55 (if nn < (2 : Int32) then (0 : Int32) else (1 : Int32))) (((ld + (1 : Int32)) + (wdF c_22 gr55 (1 : Int32))) + (wdF c_24 gr55 (if nn < (2 : Int32) then (0 : Int32) else (1 : Int32)))) c_26 gr55 (if nn < (3 : Int32) then (0 : Int32) else (1 : Int32))) T276.heap n0 (Nat.le_trans Z0 le282) g276_0 hRD253.2.2.2.2.1 ((own_putlen _ _ _ _ _).trans ((own_putlen _ _ _ _ _).trans ((own_putlen _ _ _ _ _).trans ((own_setlen _ _ _).trans hwn)))) g28_0 ge86) hZ (wd_20 hw) (wd_2 hw) (by decide) (by decide)) (by rw [hml]; rfl) [(.ref b85), (.int ((((ld + (1 : Int32)) + (wdF c_22 gr55 (1 : Int32))) + (wdF c_24 gr55 (if nn < (2 : Int32) then (0 : Int32) else (1 : Int32)))) + (wdF c_26 gr55 (if nn < (3 : Int32) then (0 : Int32) else (1 : Int32))))), (.int c_28), (.int gr55), (.int (if nn < (4 : Int32) then (0 : Int32) else (1 : Int32)))] (lenOf pd_4 rfl) rfl (Nat.le_of_eq rfl) (hb hby at_442) (fun _ _ => ⟨rfl, rfl, (by decide : 1 + 0 ≤ _), (by decide : 12 + 0 ≤ _)⟩) (pq 445) ?_
    rintro _ _ ⟨T283, L283, k283, n283⟩ X283 ⟨Lc283, hQ283, l283, y283, z283⟩
    dsimp only [Pt.U, Pt.locs, Pt.cells, Pt.slots] at X283 l283 y283 z283 hQ283 ⊢
    rw [l283, y283, z283] at X283
    obtain ⟨rfl, N283q, K283, g283_0⟩ := hQ283
    have N284 := Fr.app N277 N283q
    have C285 : CHr Z EL s.vm h0 s.vm T283.heap := C278.trans (CHr.keep K283 (sfS (Safe.arv hZ.alike g276_0 (by decide)) sf0) C278.1)
    have K286 : Keep h0 T283.heap [] := K279.trans K283 (allS (Or.inr sz87) (all0 (P := fun x => x ∈ [] ∨ h0.size ≤ x)))
    show Runs _ _ _ _ (T283.setTop (mkF m 445 _ [(.int (((((ld + (1 : Int32)) + (wdF c_22 gr55 (1 : Int32))) + (wdF c_24 gr55 (if nn < (2 : Int32) then (0 : Int32) else (1 : Int32)))) + (wdF c_26 gr55 (if nn < (3 : Int32) then (0 : Int32) else (1 : Int32)))) + (wdF c_28 gr55 (if nn < (4 : Int32) then (0 : Int32) else (1 : Int32)))))]))
    refine w_istore X283 hx (hb hby at_445) (L' := #[.val (.int p0), .val (.int p1), .val (.int p2), .val (.int p3), .val (.int p4), .val (.int p5), .val (.int nn), .val (.int c_22), .val (.int c_24), .val (.int c_26), .val (.int c_28), .val (.int gr31), .val (.int gr55), .val (.int us), .val (.int ld), .val (.ref b85), .val (.int (((((ld + (1 : Int32)) + (wdF c_22 gr55 (1 : Int32))) + (wdF c_24 gr55 (if nn < (2 : Int32) then (0 : Int32) else (1 : Int32)))) + (wdF c_26 gr55 (if nn < (3 : Int32) then (0 : Int32) else (1 : Int32)))) + (wdF c_28 gr55 (if nn < (4 : Int32) then (0 : Int32) else (1 : Int32))))), .unset, .unset, .unset]) rfl (pq 447) ?_
    refine w_iload X283 hx (hb hby at_447) rfl (pq 449) ?_
    refine w_ifN X283 hx (hb hby at_449) (feq hc225).1 (pq 452) ?_
    refine w_aload X283 hx (hb hby at_452) rfl rfl (pq 454) ?_
    refine w_iload X283 hx (hb hby at_454) rfl (pq 456) ?_
    refine w_bipush X283 hx (hb hby at_456) (v := (34 : Int32)) rfl (pq 458) ?_
    obtain ⟨clu287, Aru287, qu287, Su287, Nu287, Hu287, Gu287⟩ := id g283_0
    have hinu287 := inb_of (j := (((((ld + (1 : Int32)) + (wdF c_22 gr55 (1 : Int32))) + (wdF c_24 gr55 (if nn < (2 : Int32) then (0 : Int32) else (1 : Int32)))) + (wdF c_26 gr55 (if nn < (3 : Int32) then (0 : Int32) else (1 : Int32)))) + (wdF c_28 gr55 (if nn < (4 : Int32) then (0 : Int32) else (1 : Int32))))) Su287 ⟨hRD253.2.2.2.2.2.1, hRD253.2.2.2.2.2.2.1⟩
    refine w_stC X283 hx hZ rfl Aru287 hinu287 (hb hby at_458) (pq 459) ?_
    intro T288 h288 X288 e288 W288
    rw [show nar .char (34 : Int32) = (34 : Int32) from by decide] at W288
    have C289 : CHr Z EL s.vm h0 s.vm h288 := C285.trans (CHr.wr W288 (Safe.arv hZ.alike g283_0 (by decide)) C285.1)
    have V290 : Arv Z h288 b85 k85 .char (12 : Int32) (mI (setI (putF (putF (putF (putF (setI wl ld (34 : Int32)) (ld + (1 : Int32)) c_22 gr55 (1 : Int32)) ((ld + (1 : Int32)) + (wdF c_22 gr55 (1 : Int32))) c_24 gr55 (if nn < (2 : Int32) then (0 : Int32) else (1 : Int32))) (((ld + (1 : Int32)) + (wdF c_22 gr55 (1 : Int32))) + (wdF c_24 gr55 (if nn < (2 : Int32) then (0 : Int32) else (1 : Int32)))) c_26 gr55 (if nn < (3 : Int32) then (0 : Int32) else (1 : Int32))) ((((ld + (1 : Int32)) + (wdF c_22 gr55 (1 : Int32))) + (wdF c_24 gr55 (if nn < (2 : Int32) then (0 : Int32) else (1 : Int32)))) + (wdF c_26 gr55 (if nn < (3 : Int32) then (0 : Int32) else (1 : Int32)))) c_28 gr55 (if nn < (4 : Int32) then (0 : Int32) else (1 : Int32))) (((((ld + (1 : Int32)) + (wdF c_22 gr55 (1 : Int32))) + (wdF c_24 gr55 (if nn < (2 : Int32) then (0 : Int32) else (1 : Int32)))) + (wdF c_26 gr55 (if nn < (3 : Int32) then (0 : Int32) else (1 : Int32)))) + (wdF c_28 gr55 (if nn < (4 : Int32) then (0 : Int32) else (1 : Int32)))) (34 : Int32))) (.int (0 : Int32)) := own_sto Aru287 qu287 Su287 Nu287 Hu287 Gu287 (own_fitc (by decide : nar .char (34 : Int32) = (34 : Int32))) W288 ((own_putlen _ _ _ _ _).trans ((own_putlen _ _ _ _ _).trans ((own_putlen _ _ _ _ _).trans ((own_putlen _ _ _ _ _).trans ((own_setlen _ _ _).trans hwn))))) hinu287
    have K291 : Keep h0 h288 [] := K286.wr W288 (Or.inr sz87)
    have N292 := Fr.snoc X288 N284 ge86
    refine w_iinc X288 hx (hb hby at_459) (v := (1 : Int32)) rfl rfl (L' := #[.val (.int p0), .val (.int p1), .val (.int p2), .val (.int p3), .val (.int p4), .val (.int p5), .val (.int nn), .val (.int c_22), .val (.int c_24), .val (.int c_26), .val (.int c_28), .val (.int gr31), .val (.int gr55), .val (.int us), .val (.int ld), .val (.ref b85), .val (.int ((((((ld + (1 : Int32)) + (wdF c_22 gr55 (1 : Int32))) + (wdF c_24 gr55 (if nn < (2 : Int32) then (0 : Int32) else (1 : Int32)))) + (wdF c_26 gr55 (if nn < (3 : Int32) then (0 : Int32) else (1 : Int32)))) + (wdF c_28 gr55 (if nn < (4 : Int32) then (0 : Int32) else (1 : Int32)))) + (1 : Int32))), .unset, .unset, .unset]) rfl (pq 462) ?_
    exact key211 _ _ _ _ _ X288 e288 N292 (((((((Keep.refl _ _).wr W255 (Or.inl (by simp))).trans K262 (fun _ q => Or.inl q)).trans K269 (fun _ q => Or.inl q)).trans K276 (fun _ q => Or.inl q)).trans K283 (fun _ q => Or.inl q)).wr W288 (Or.inl (by simp))) V290 ((own_setlen _ _ _).trans ((own_putlen _ _ _ _ _).trans ((own_putlen _ _ _ _ _).trans ((own_putlen _ _ _ _ _).trans ((own_putlen _ _ _ _ _).trans ((own_setlen _ _ _).trans hwn)))))) hRD253.2.2.2.2.2.2.2.1 hRD253.2.2.2.2.2.2.2.2
 intro T212 L213 hN217 ps221 bl220 X214 e215 N216 KN218 fV219 hl222 hch223 htr224
 have C293 : CHr Z EL s.vm h0 s.vm hN217 := C205.trans (CHr.keep KN218 (sfS (Safe.arv hZ.alike V210 (by decide)) sf0) C205.1)
 have K294 : Keep h0 hN217 [] := K208.trans KN218 (allS (Or.inr sz87) (all0 (P := fun x => x ∈ [] ∨ h0.size ≤ x)))
 refine w_new X214 hx hZ hown (wd_21 hw) (wd_22 hw) (wd_23 hw) e215 (hb hby at_462) (by decide) (by decide) (pq 465) ?_
 intro T295 h295 b295 X295 e295 E295 g295 A295 D295
 have le297 : h0.size ≤ h204.size := (Nat.le_trans le200 (Keep.of_wr W204).1)
 have le298 : h0.size ≤ hN217.size := (Nat.le_trans le297 KN218.1)
 have ge296 : n0 ≤ b295 := Nat.le_trans (Nat.le_trans Z0 le298) (Nat.le_of_eq g295.symm)
 have sz299 : h0.size ≤ b295 := Nat.le_trans le298 (Nat.le_of_eq g295.symm)
 have C300 : CHr Z EL s.vm h0 s.vm h295 := C293.trans (CHr.ext E295 C293.1)
 have K301 : Keep h0 h295 [] := K294.ext E295
 have f302 : Fld Z h295 b295 kc0 "coder" "B" (.int (0 : Int32)) := D295 (Or.inr (wd_47 hw)) (ty := .byte) (by decide)
 have f303 : Fld Z h295 b295 kc0 "value" "[B" .null := D295 (Or.inr (wd_49 hw)) (ty := (.array .byte)) (by decide)
 refine w_dup X295 hx (hb hby at_465) rfl (pq 466) ?_
 refine w_aload X295 hx (hb hby at_466) rfl rfl (pq 468) ?_
 have le304 : h0.size ≤ h295.size := (Nat.le_trans le298 E295.1)
 have f306 : Arv Z h295 b85 k85 .char (12 : Int32) (mI bl220) (.int (0 : Int32)) := (fV219.ext E295)
 have f307 : Old Z n0 h295 := (((((((((((((((O0.ext E85).wr W94 ge86).wr W104 ge86).wr W114 ge86).wr W124 ge86).wr W134 ge86).wr W144 ge86).wr W154 ge86).wr W164 ge86).wr W174 ge86).wr W184 ge86).wr W194 ge86).wr W204 ge86).keep KN218 (allS ge86 all0)).ext E295)
 refine w_special X295 hx (y := yn_7) rfl hown (mvT hZ (wd_24 hw)) (mvT hZ (wd_25 hw)) (mvT hZ (wd_26 hw)) (by decide) (StrChars.Road.backV (W := 1) hZ (own_hws hw) (kI := 4) (wd_22 hw) (cs := bl220) (bs := lowL bl220) (n := 12) ge296 (Nat.le_trans Z0 le304) A295 f303 f302 f306 (S_COMPACT_STRINGS.ext f307.2) hP_2 hl222 rfl (by decide) (by decide) hch223 rfl (by decide) (by decide)) (by rw [hml]; rfl) [(.ref b85)] (lenOf pd_5 rfl) rfl (Nat.le_of_eq rfl) (hb hby at_468) (fun _ _ => ⟨rfl, e295, (by decide : 2 + 1 ≤ _), (by decide : 16 + 12 ≤ _)⟩) (pq 471) ?_
 rintro _ _ ⟨T305, L305, k305, n305⟩ X305 ⟨Lc305, hQ305, l305, y305, z305⟩
 dsimp only [Pt.U, Pt.locs, Pt.cells, Pt.slots] at X305 l305 y305 z305 hQ305 ⊢
 rw [l305, y305, z305] at X305
 obtain ⟨rfl, N305q, K305, g305_0, g305_1, t_305, kb_305, g305_2, g305_3, g305_4, g305_5, g305_6⟩ := hQ305
 have N308 := Fr.app N216 N305q
 have y309 : Safe Z EL s.vm h295 b295 := (Safe.ext E295 C293.1 (Safe.new (Nat.le_of_eq g295.symm)))
 have C310 : CHr Z EL s.vm h0 s.vm T305.heap := C300.trans (CHr.keep K305 (sfS y309 sf0) C300.1)
 have K311 : Keep h0 T305.heap [] := K301.trans K305 (allS (Or.inr sz299) (all0 (P := fun x => x ∈ [] ∨ h0.size ≤ x)))
 have ge312 : n0 ≤ t_305 := Nat.le_trans (Nat.le_trans Z0 le304) g305_3
 have sz313 : h0.size ≤ t_305 := Nat.le_trans le304 g305_3
 show Runs _ _ _ _ (T305.setTop (mkF m 471 _ [(.ref b295)]))
 refine w_astore X305 hx (hb hby at_471) rfl (L' := #[.val (.int p0), .val (.int p1), .val (.int p2), .val (.int p3), .val (.int p4), .val (.int p5), .val (.int nn), .val (.int c_22), .val (.int c_24), .val (.int c_26), .val (.int c_28), .val (.int gr31), .val (.int gr55), .val (.int us), .val (.int ld), .val (.ref b85), .val (.int ps221), .val (.ref b295), .unset, .unset]) rfl (pq 473) ?_
 refine w_iload X305 hx (hb hby at_473) rfl (pq 475) ?_
 refine w_iconst X305 hx (hb hby at_475) (v := (1 : Int32)) rfl (pq 476) ?_
 by_cases hc314 : nn = (1 : Int32)
 · refine w_icN X305 hx (hb hby at_476) (teq hc314).2 (pq 479) ?_
   refine w_new X305 hx hZ hown (wd_21 hw) (wd_22 hw) (wd_23 hw) rfl (hb hby at_479) (by decide) (by decide) (pq 482) ?_
   intro T315 h315 b315 X315 e315 E315 g315 A315 D315
   have le317 : h0.size ≤ T305.heap.size := (Nat.le_trans le304 K305.1)
   have ge316 : n0 ≤ b315 := Nat.le_trans (Nat.le_trans Z0 le317) (Nat.le_of_eq g315.symm)
   have sz318 : h0.size ≤ b315 := Nat.le_trans le317 (Nat.le_of_eq g315.symm)
   have C319 : CHr Z EL s.vm h0 s.vm h315 := C310.trans (CHr.ext E315 C310.1)
   have K320 : Keep h0 h315 [] := K311.ext E315
   have f321 : Fld Z h315 b315 kc0 "coder" "B" (.int (0 : Int32)) := D315 (Or.inr (wd_47 hw)) (ty := .byte) (by decide)
   have f322 : Fld Z h315 b315 kc0 "value" "[B" .null := D315 (Or.inr (wd_49 hw)) (ty := (.array .byte)) (by decide)
   refine w_dup X315 hx (hb hby at_482) rfl (pq 483) ?_
   refine w_iconst X315 hx (hb hby at_483) (v := (1 : Int32)) rfl (pq 484) ?_
   refine w_newP X315 hx .char .char 1 rfl hZ (wd_14 hw) e315 (hb hby at_484) (by decide) (by decide) (by decide) (by decide) (by decide) (pq 486) ?_
   intro T323 h323 k323 b323 X323 e323 E323 g323 A323
   have le325 : h0.size ≤ h315.size := (Nat.le_trans le317 E315.1)
   have ge324 : n0 ≤ b323 := Nat.le_trans (Nat.le_trans Z0 le325) (Nat.le_of_eq g323.symm)
   have sz326 : h0.size ≤ b323 := Nat.le_trans le325 (Nat.le_of_eq g323.symm)
   have C327 : CHr Z EL s.vm h0 s.vm h323 := C319.trans (CHr.ext E323 C319.1)
   have K328 : Keep h0 h323 [] := K320.ext E323
   have V329 : Arv Z h323 b323 k323 .char (1 : Int32) [(.int (0 : Int32))] (.int (0 : Int32)) := (Arv.new A323 (by decide)).pad (pad_rep [] (.int (0 : Int32)) 1)
   refine w_dup X323 hx (hb hby at_486) rfl (pq 487) ?_
   refine w_iconst X323 hx (hb hby at_487) (v := (0 : Int32)) rfl (pq 488) ?_
   refine w_iload X323 hx (hb hby at_488) rfl (pq 490) ?_
   obtain ⟨clu330, Aru330, qu330, Su330, Nu330, Hu330, Gu330⟩ := id V329
   have hinu330 := inb_of (j := (0 : Int32)) Su330 ⟨by decide, by decide⟩
   refine w_stC X323 hx hZ e323 Aru330 hinu330 (hb hby at_490) (pq 491) ?_
   intro T331 h331 X331 e331 W331
   have C332 : CHr Z EL s.vm h0 s.vm h331 := C327.trans (CHr.wr W331 (Safe.arv hZ.alike V329 (by decide)) C327.1)
   have V333 : Arv Z h331 b323 k323 .char (1 : Int32) [(.int (nar .char c_22))] (.int (0 : Int32)) := Arv.set Aru330 qu330 Su330 Nu330 Hu330 Gu330 (fits_nar_char _) W331 0 rfl (Nat.le_of_ble_eq_true rfl)
   have V334 : Arv Z h331 b323 k323 .char (1 : Int32) [(.int c_22)] (.int (0 : Int32)) := by rw [g22_0] at V333; exact V333
   have K335 : Keep h0 h331 [] := K328.wr W331 (Or.inr sz326)
   have N336 := Fr.snoc X331 N308 ge324
   have le337 : h0.size ≤ h323.size := (Nat.le_trans le325 E323.1)
   have le338 : h0.size ≤ h331.size := (Nat.le_trans le337 (Keep.of_wr W331).1)
   have f340 : Exa Z h331 b315 kc0 := ((A315.ext E323).wr W331)
   have ne341 : b315 ≠ b323 := (Nat.ne_of_lt (Nat.lt_of_lt_of_le A315.lt (Nat.le_trans (Nat.le_refl _) (Nat.le_of_eq g323.symm))))
   have f342 : Fld Z h331 b315 kc0 "value" "[B" .null := ((f322.ext E323).other W331 (Or.inl ne341))
   have f343 : Fld Z h331 b315 kc0 "coder" "B" (.int (0 : Int32)) := ((f321.ext E323).other W331 (Or.inl ne341))
   have f344 : Old Z n0 h331 := ((((f307.keep K305 (allS ge296 all0)).ext E315).ext E323).wr W331 ge324)
   refine w_special X331 hx (y := yn_7) rfl hown (mvT hZ (wd_24 hw)) (mvT hZ (wd_25 hw)) (mvT hZ (wd_26 hw)) (by decide) (StrChars.Road.backV (W := 1) hZ (own_hws hw) (kI := 4) (wd_22 hw) (cs := ([c_22] : List Int32)) (bs := ([c_22] : List Int32).map (fun c => c.toInt8.toInt32)) (n := 1) ge316 (Nat.le_trans Z0 le338) f340 f342 f343 V334 (S_COMPACT_STRINGS.ext f344.2) hP_2 rfl rfl (by decide) (by decide) (List.forall_mem_cons.2 ⟨(own_kc255 g22_1), (fun _ h => nomatch h)⟩) rfl (by decide) (by decide)) (by rw [hml]; rfl) [(.ref b323)] (lenOf pd_5 rfl) rfl (Nat.le_of_eq rfl) (hb hby at_491) (fun _ _ => ⟨rfl, e331, (by decide : 5 + 1 ≤ _), (by decide : 33 + 1 ≤ _)⟩) (pq 494) ?_
   rintro _ _ ⟨T339, L339, k339, n339⟩ X339 ⟨Lc339, hQ339, l339, y339, z339⟩
   dsimp only [Pt.U, Pt.locs, Pt.cells, Pt.slots] at X339 l339 y339 z339 hQ339 ⊢
   rw [l339, y339, z339] at X339
   obtain ⟨rfl, N339q, K339, g339_0, g339_1, t_339, kb_339, g339_2, g339_3, g339_4, g339_5, g339_6⟩ := hQ339
   have N345 := Fr.app N336 N339q
   have y346 : Safe Z EL s.vm h331 b315 := (Safe.wr W331 (Safe.arv hZ.alike V329 (by decide)) C327.1 (Safe.ext E323 C319.1 (Safe.ext E315 C310.1 (Safe.new (Nat.le_of_eq g315.symm)))))
   have C347 : CHr Z EL s.vm h0 s.vm T339.heap := C332.trans (CHr.keep K339 (sfS y346 sf0) C332.1)
   have K348 : Keep h0 T339.heap [] := K335.trans K339 (allS (Or.inr sz318) (all0 (P := fun x => x ∈ [] ∨ h0.size ≤ x)))
   have ge349 : n0 ≤ t_339 := Nat.le_trans (Nat.le_trans Z0 le338) g339_3
   have sz350 : h0.size ≤ t_339 := Nat.le_trans le338 g339_3
   show Runs _ _ _ _ (T339.setTop (mkF m 494 _ [(.ref b315)]))
   refine w_astore X339 hx (hb hby at_494) rfl (L' := #[.val (.int p0), .val (.int p1), .val (.int p2), .val (.int p3), .val (.int p4), .val (.int p5), .val (.int nn), .val (.int c_22), .val (.int c_24), .val (.int c_26), .val (.int c_28), .val (.int gr31), .val (.int gr55), .val (.int us), .val (.int ld), .val (.ref b85), .val (.int ps221), .val (.ref b295), .val (.ref b315), .unset]) rfl (pq 496) ?_
   refine w_goto X339 hx (hb hby at_496) (pc' := 598) (by decide) (by decide) ?_
   refine w_aload X339 hx (hb hby at_598) rfl rfl (pq 600) ?_
   have f351 : Exa Z T339.heap b295 kc0 := ((((g305_0.ext E315).ext E323).wr W331).keep K339)
   have le352 : h295.size ≤ h315.size := (Nat.le_trans K305.1 E315.1)
   have ne353 : b295 ≠ b323 := (Nat.ne_of_lt (Nat.lt_of_lt_of_le A295.lt (Nat.le_trans le352 (Nat.le_of_eq g323.symm))))
   have ne354 : b295 ≠ b315 := (Nat.ne_of_lt (Nat.lt_of_lt_of_le A295.lt (Nat.le_trans K305.1 (Nat.le_of_eq g315.symm))))
   have f355 : Fld Z T339.heap b295 kc0 "value" "[B" (.ref t_305) := ((((g305_5.ext E315).ext E323).other W331 (Or.inl ne353)).keep K339 (ninS ne354 nin0))
   have ne356 : t_305 ≠ b323 := (Nat.ne_of_lt (Nat.lt_of_lt_of_le g305_6.lt (Nat.le_trans E315.1 (Nat.le_of_eq g323.symm))))
   have ne357 : t_305 ≠ b315 := (Nat.ne_of_lt (Nat.lt_of_lt_of_le g305_6.lt (Nat.le_trans (Nat.le_refl _) (Nat.le_of_eq g315.symm))))
   have f358 : Arv Z T339.heap t_305 kb_305 .byte (12 : Int32) (mI (lowL bl220)) (.int (0 : Int32)) := ((((g305_6.ext E315).ext E323).other W331 ne356).keep K339 (ninS ne357 nin0))
   have f359 : Fld Z T339.heap b295 kc0 "coder" "B" (.int (0 : Int32)) := ((((g305_1.ext E315).ext E323).other W331 (Or.inl ne353)).keep K339 (ninS ne354 nin0))
   have f360 : Old Z n0 T339.heap := (f344.keep K339 (allS ge316 all0))
   have le361 : h0.size ≤ T339.heap.size := (Nat.le_trans le338 K339.1)
   refine w_staticS X339 hx (y := yn_13) hown (mvT hZ (wd_50 hw)) (mvT hZ (wd_51 hw)) (mvT hZ (wd_52 hw)) (mvT hZ (wd_53 hw)) (by decide) (backOfY (W := 0) (rm_m13_1 l Z aZ hw [] b295 gr55 nn c_22 c_24 c_26 c_28 t_305 kb_305 (lowL bl220) G_COMPACT_STRINGS G_SIOOBE_FORMATTER T339.heap n0 (Nat.le_trans Z0 le361) f351 f355 f358 f359 S_COMPACT_STRINGS f360 r_G_SIOOBE_FORMATTER S_SIOOBE_FORMATTER htr224 hP_2 (own_lowlen hl222) hEN) hZ (wd_53 hw) (wd_52 hw) (by decide) (by decide) (own_EW hw) C347.1 sf0 all0) (by rw [hml]; rfl) [(.ref b295)] (lenOf pd_33 rfl) rfl (Nat.le_of_eq rfl) (hb hby at_600) (fun _ _ => ⟨rfl, rfl, (by decide : 6 + 13 ≤ _), (by decide : 34 + 125 ≤ _)⟩) (pq 603) ?_
   rintro _ _ ⟨T362, L362, k362, n362⟩ XX362 hSS362 hg362 ⟨Lc362, hQ362, l362, y362, z362, A362⟩
   dsimp only [Pt.U, Pt.locs, Pt.cells, Pt.slots] at XX362 l362 y362 z362 hQ362 hSS362 hg362 A362 ⊢
   rw [l362, y362, z362] at XX362
   obtain ⟨X362, hS362, hZ362, hown362⟩ := rebS hS0 (Nat.le_trans (Nat.le_refl _) le361) XX362 hSS362 hg362 hZ hown
   obtain ⟨r_362, s_362, t_362, kb_362, rfl, N362q, K362, g362_0, g362_1, g362_2, g362_3, g362_4, g362_5, g362_6, g362_7, g362_8⟩ := hQ362
   have N363 := Fr.app N345 N362q
   have C364 : CHr Z EL s.vm h0 T362.vm T362.heap := C347.trans A362
   have K365 : Keep h0 T362.heap [] := K348.trans K362 (all0 (P := fun x => x ∈ [] ∨ h0.size ≤ x))
   have ge366 : n0 ≤ r_362 := Nat.le_trans (Nat.le_trans Z0 le361) g362_0
   have sz367 : h0.size ≤ r_362 := Nat.le_trans le361 g362_0
   have ge368 : n0 ≤ s_362 := Nat.le_trans (Nat.le_trans Z0 le361) g362_3
   have sz369 : h0.size ≤ s_362 := Nat.le_trans le361 g362_3
   have ge370 : n0 ≤ t_362 := Nat.le_trans (Nat.le_trans Z0 le361) g362_7
   have sz371 : h0.size ≤ t_362 := Nat.le_trans le361 g362_7
   show Runs _ _ _ _ (T362.setTop (mkF m 603 _ [(.ref r_362)]))
   have V372 : Arv Z T362.heap t_362 kb_362 .byte (1 : Int32) [(.int (c_22.toInt8.toInt32))] (.int (0 : Int32)) := by have z := g362_8; rw [hc314] at z; exact z
   refine w_astore X362 hx (hb hby at_603) rfl (L' := #[.val (.int p0), .val (.int p1), .val (.int p2), .val (.int p3), .val (.int p4), .val (.int p5), .val (.int nn), .val (.int c_22), .val (.int c_24), .val (.int c_26), .val (.int c_28), .val (.int gr31), .val (.int gr55), .val (.int us), .val (.int ld), .val (.ref b85), .val (.int ps221), .val (.ref b295), .val (.ref b315), .val (.ref r_362)]) rfl (pq 605) ?_
   refine w_aload X362 hx (hb hby at_605) rfl rfl (pq 607) ?_
   have le373 : h0.size ≤ T362.heap.size := (Nat.le_trans le361 K362.1)
   obtain ⟨cq374, kq374, q374a, q374b, q374c⟩ := isOf hZ362 rfl g362_1
   refine w_virtual X362 hx (y := yn_53) (z := yn_53) hown362 (mvT hZ362 (wd_244 hw)) (mvT hZ362 (wd_245 hw)) (notFace_of_selects (args := #[]) (mvT hZ362 (wd_247 hw))) (mvT hZ362 (wd_247 hw)) (mvT hZ362 (wd_246 hw)) (by decide) (backOf (W := 0) (rm_m53_72 l Z aZ hw [] r_362 s_362 T362.heap n0 (Nat.le_trans Z0 le373) g362_2) hZ362 (wd_248 hw) (wd_52 hw) (by decide) (by decide)) q374a q374c (by rw [hml]; rfl) [] (lenOf pd_30 rfl) rfl (Nat.le_of_eq rfl) (hb hby at_607) (fun _ _ => ⟨rfl, rfl, (by decide : 19 + 0 ≤ _), (by decide : 159 + 0 ≤ _)⟩) (pq 610) ?_
   rintro _ _ ⟨T374, L374, k374, n374⟩ X374 ⟨Lc374, hQ374, l374, y374, z374⟩
   dsimp only [Pt.U, Pt.locs, Pt.cells, Pt.slots] at X374 l374 y374 z374 hQ374 ⊢
   rw [l374, y374, z374] at X374
   obtain ⟨rfl, N374q, e374⟩ := hQ374
   have N375 := Fr.app N363 N374q
   show Runs _ _ _ _ (T374.setTop (mkF m 610 _ [(.ref s_362)]))
   refine w_aload X374 hx (hb hby at_610) rfl rfl (pq 612) ?_
   have f376 : Exa Z T362.heap b315 kc0 := (g339_0.keep K362)
   have f377 : Old Z n0 T362.heap := (f360.keep K362 all0)
   have f378 : Fld Z T362.heap b315 kc0 "coder" "B" (.int (0 : Int32)) := (g339_1.keep K362 nin0)
   have f379 : Fld Z T362.heap b315 kc0 "value" "[B" (.ref t_339) := (g339_5.keep K362 nin0)
   have f380 : Arv Z T362.heap t_339 kb_339 .byte (1 : Int32) [(.int (c_22.toInt8.toInt32))] (.int (0 : Int32)) := (g339_6.keep K362 nin0)
   have le381 : h315.size ≤ h331.size := (Nat.le_trans E323.1 (Keep.of_wr W331).1)
   have le382 : h315.size ≤ T339.heap.size := (Nat.le_trans le381 K339.1)
   have ne383 : b315 ≠ s_362 := (Nat.ne_of_lt (Nat.lt_of_lt_of_le A315.lt (Nat.le_trans le382 g362_3)))
   obtain ⟨cq384, kq384, q384a, q384b, q384c⟩ := isOf hZ362 e374 g362_4
   refine w_virtual X374 hx (y := yn_54) (z := yn_54) hown362 (mvT hZ362 (wd_249 hw)) (mvT hZ362 (wd_250 hw)) (notFace_of_selects (args := #[]) (mvT hZ362 (wd_252 hw))) (mvT hZ362 (wd_252 hw)) (mvT hZ362 (wd_251 hw)) (by decide) (backOf (W := 0) (rm_m54_73 l Z aZ hw [] s_362 b315 G_COMPACT_STRINGS t_362 t_339 kb_362 (c_22.toInt8.toInt32) kb_339 T362.heap n0 (Nat.le_trans Z0 le373) (Ne.symm ne383) f376 S_COMPACT_STRINGS f377 hP_2 g362_5 f378 g362_6 f379 V372 f380) hZ362 (wd_253 hw) (wd_23 hw) (by decide) (by decide)) q384a q384c (by rw [hml]; rfl) [(.ref b315)] (lenOf pd_35 rfl) rfl (Nat.le_of_eq rfl) (hb hby at_612) (fun _ _ => ⟨rfl, e374, (by decide : 19 + 0 ≤ _), (by decide : 159 + 0 ≤ _)⟩) (pq 615) ?_
   rintro _ _ ⟨T384, L384, k384, n384⟩ X384 ⟨Lc384, hQ384, l384, y384, z384⟩
   dsimp only [Pt.U, Pt.locs, Pt.cells, Pt.slots] at X384 l384 y384 z384 hQ384 ⊢
   rw [l384, y384, z384] at X384
   obtain ⟨rfl, N384q, e384⟩ := hQ384
   have N385 := Fr.app N375 N384q
   show Runs _ _ _ _ (T384.setTop (mkF m 615 _ [(.int (1 : Int32))]))
   exact w_doneH X384 hlk (v := some (.int (1 : Int32))) e384 hh hZ362 (own_EW hw) hS362 (Nat.le_refl _) C364 (fun h => by rw [hret] at h; cases h) (fun fs hr => retN X384 hx (t := .boolean) hret (by simp) (hb hby at_615) hr) (by decide) (by decide) (fun hsy => ⟨rfl, N385⟩)
 · refine w_icY X305 hx (hb hby at_476) (feq hc314).2 (pc' := 499) (by decide) (by decide) ?_
   refine w_iload X305 hx (hb hby at_499) rfl (pq 501) ?_
   refine w_iconst X305 hx (hb hby at_501) (v := (2 : Int32)) rfl (pq 502) ?_
   by_cases hc386 : nn = (2 : Int32)
   · refine w_icN X305 hx (hb hby at_502) (teq hc386).2 (pq 505) ?_
     refine w_new X305 hx hZ hown (wd_21 hw) (wd_22 hw) (wd_23 hw) rfl (hb hby at_505) (by decide) (by decide) (pq 508) ?_
     intro T387 h387 b387 X387 e387 E387 g387 A387 D387
     have le389 : h0.size ≤ T305.heap.size := (Nat.le_trans le304 K305.1)
     have ge388 : n0 ≤ b387 := Nat.le_trans (Nat.le_trans Z0 le389) (Nat.le_of_eq g387.symm)
     have sz390 : h0.size ≤ b387 := Nat.le_trans le389 (Nat.le_of_eq g387.symm)
     have C391 : CHr Z EL s.vm h0 s.vm h387 := C310.trans (CHr.ext E387 C310.1)
     have K392 : Keep h0 h387 [] := K311.ext E387
     have f393 : Fld Z h387 b387 kc0 "coder" "B" (.int (0 : Int32)) := D387 (Or.inr (wd_47 hw)) (ty := .byte) (by decide)
     have f394 : Fld Z h387 b387 kc0 "value" "[B" .null := D387 (Or.inr (wd_49 hw)) (ty := (.array .byte)) (by decide)
     refine w_dup X387 hx (hb hby at_508) rfl (pq 509) ?_
     refine w_iconst X387 hx (hb hby at_509) (v := (2 : Int32)) rfl (pq 510) ?_
     refine w_newP X387 hx .char .char 2 rfl hZ (wd_14 hw) e387 (hb hby at_510) (by decide) (by decide) (by decide) (by decide) (by decide) (pq 512) ?_
     intro T395 h395 k395 b395 X395 e395 E395 g395 A395
     have le397 : h0.size ≤ h387.size := (Nat.le_trans le389 E387.1)
     have ge396 : n0 ≤ b395 := Nat.le_trans (Nat.le_trans Z0 le397) (Nat.le_of_eq g395.symm)
     have sz398 : h0.size ≤ b395 := Nat.le_trans le397 (Nat.le_of_eq g395.symm)
     have C399 : CHr Z EL s.vm h0 s.vm h395 := C391.trans (CHr.ext E395 C391.1)
     have K400 : Keep h0 h395 [] := K392.ext E395
     have V401 : Arv Z h395 b395 k395 .char (2 : Int32) [(.int (0 : Int32)), (.int (0 : Int32))] (.int (0 : Int32)) := (Arv.new A395 (by decide)).pad (pad_rep [] (.int (0 : Int32)) 2)
     refine w_dup X395 hx (hb hby at_512) rfl (pq 513) ?_
     refine w_iconst X395 hx (hb hby at_513) (v := (0 : Int32)) rfl (pq 514) ?_
     refine w_iload X395 hx (hb hby at_514) rfl (pq 516) ?_
     obtain ⟨clu402, Aru402, qu402, Su402, Nu402, Hu402, Gu402⟩ := id V401
     have hinu402 := inb_of (j := (0 : Int32)) Su402 ⟨by decide, by decide⟩
     refine w_stC X395 hx hZ e395 Aru402 hinu402 (hb hby at_516) (pq 517) ?_
     intro T403 h403 X403 e403 W403
     have C404 : CHr Z EL s.vm h0 s.vm h403 := C399.trans (CHr.wr W403 (Safe.arv hZ.alike V401 (by decide)) C399.1)
     have V405 : Arv Z h403 b395 k395 .char (2 : Int32) [(.int (nar .char c_22)), (.int (0 : Int32))] (.int (0 : Int32)) := Arv.set Aru402 qu402 Su402 Nu402 Hu402 Gu402 (fits_nar_char _) W403 0 rfl (Nat.le_of_ble_eq_true rfl)
     have V406 : Arv Z h403 b395 k395 .char (2 : Int32) [(.int c_22), (.int (0 : Int32))] (.int (0 : Int32)) := by rw [g22_0] at V405; exact V405
     have K407 : Keep h0 h403 [] := K400.wr W403 (Or.inr sz398)
     have N408 := Fr.snoc X403 N308 ge396
     refine w_dup X403 hx (hb hby at_517) rfl (pq 518) ?_
     refine w_iconst X403 hx (hb hby at_518) (v := (1 : Int32)) rfl (pq 519) ?_
     refine w_iload X403 hx (hb hby at_519) rfl (pq 521) ?_
     obtain ⟨clu409, Aru409, qu409, Su409, Nu409, Hu409, Gu409⟩ := id V406
     have hinu409 := inb_of (j := (1 : Int32)) Su409 ⟨by decide, by decide⟩
     refine w_stC X403 hx hZ e403 Aru409 hinu409 (hb hby at_521) (pq 522) ?_
     intro T410 h410 X410 e410 W410
     have C411 : CHr Z EL s.vm h0 s.vm h410 := C404.trans (CHr.wr W410 (Safe.arv hZ.alike V406 (by decide)) C404.1)
     have V412 : Arv Z h410 b395 k395 .char (2 : Int32) [(.int c_22), (.int (nar .char c_24))] (.int (0 : Int32)) := Arv.set Aru409 qu409 Su409 Nu409 Hu409 Gu409 (fits_nar_char _) W410 1 rfl (Nat.le_of_ble_eq_true rfl)
     have V413 : Arv Z h410 b395 k395 .char (2 : Int32) [(.int c_22), (.int c_24)] (.int (0 : Int32)) := by rw [g24_0] at V412; exact V412
     have K414 : Keep h0 h410 [] := K407.wr W410 (Or.inr sz398)
     have N415 := Fr.snoc X410 N408 ge396
     have le416 : h0.size ≤ h395.size := (Nat.le_trans le397 E395.1)
     have le417 : h0.size ≤ h403.size := (Nat.le_trans le416 (Keep.of_wr W403).1)
     have le418 : h0.size ≤ h410.size := (Nat.le_trans le417 (Keep.of_wr W410).1)
     have f420 : Exa Z h410 b387 kc0 := (((A387.ext E395).wr W403).wr W410)
     have ne421 : b387 ≠ b395 := (Nat.ne_of_lt (Nat.lt_of_lt_of_le A387.lt (Nat.le_trans (Nat.le_refl _) (Nat.le_of_eq g395.symm))))
     have f422 : Fld Z h410 b387 kc0 "value" "[B" .null := (((f394.ext E395).other W403 (Or.inl ne421)).other W410 (Or.inl ne421))
     have f423 : Fld Z h410 b387 kc0 "coder" "B" (.int (0 : Int32)) := (((f393.ext E395).other W403 (Or.inl ne421)).other W410 (Or.inl ne421))
     have f424 : Old Z n0 h410 := (((((f307.keep K305 (allS ge296 all0)).ext E387).ext E395).wr W403 ge396).wr W410 ge396)
     refine w_special X410 hx (y := yn_7) rfl hown (mvT hZ (wd_24 hw)) (mvT hZ (wd_25 hw)) (mvT hZ (wd_26 hw)) (by decide) (StrChars.Road.backV (W := 1) hZ (own_hws hw) (kI := 4) (wd_22 hw) (cs := ([c_22, c_24] : List Int32)) (bs := ([c_22, c_24] : List Int32).map (fun c => c.toInt8.toInt32)) (n := 2) ge388 (Nat.le_trans Z0 le418) f420 f422 f423 V413 (S_COMPACT_STRINGS.ext f424.2) hP_2 rfl rfl (by decide) (by decide) (List.forall_mem_cons.2 ⟨(own_kc255 g22_1), (List.forall_mem_cons.2 ⟨(own_kc255 g24_1), (fun _ h => nomatch h)⟩)⟩) rfl (by decide) (by decide)) (by rw [hml]; rfl) [(.ref b395)] (lenOf pd_5 rfl) rfl (Nat.le_of_eq rfl) (hb hby at_522) (fun _ _ => ⟨rfl, e410, (by decide : 5 + 1 ≤ _), (by decide : 34 + 2 ≤ _)⟩) (pq 525) ?_
     rintro _ _ ⟨T419, L419, k419, n419⟩ X419 ⟨Lc419, hQ419, l419, y419, z419⟩
     dsimp only [Pt.U, Pt.locs, Pt.cells, Pt.slots] at X419 l419 y419 z419 hQ419 ⊢
     rw [l419, y419, z419] at X419
     obtain ⟨rfl, N419q, K419, g419_0, g419_1, t_419, kb_419, g419_2, g419_3, g419_4, g419_5, g419_6⟩ := hQ419
     have N425 := Fr.app N415 N419q
     have y426 : Safe Z EL s.vm h410 b387 := (Safe.wr W410 (Safe.arv hZ.alike V406 (by decide)) C404.1 (Safe.wr W403 (Safe.arv hZ.alike V401 (by decide)) C399.1 (Safe.ext E395 C391.1 (Safe.ext E387 C310.1 (Safe.new (Nat.le_of_eq g387.symm))))))
     have C427 : CHr Z EL s.vm h0 s.vm T419.heap := C411.trans (CHr.keep K419 (sfS y426 sf0) C411.1)
     have K428 : Keep h0 T419.heap [] := K414.trans K419 (allS (Or.inr sz390) (all0 (P := fun x => x ∈ [] ∨ h0.size ≤ x)))
     have ge429 : n0 ≤ t_419 := Nat.le_trans (Nat.le_trans Z0 le418) g419_3
     have sz430 : h0.size ≤ t_419 := Nat.le_trans le418 g419_3
     show Runs _ _ _ _ (T419.setTop (mkF m 525 _ [(.ref b387)]))
     refine w_astore X419 hx (hb hby at_525) rfl (L' := #[.val (.int p0), .val (.int p1), .val (.int p2), .val (.int p3), .val (.int p4), .val (.int p5), .val (.int nn), .val (.int c_22), .val (.int c_24), .val (.int c_26), .val (.int c_28), .val (.int gr31), .val (.int gr55), .val (.int us), .val (.int ld), .val (.ref b85), .val (.int ps221), .val (.ref b295), .val (.ref b387), .unset]) rfl (pq 527) ?_
     refine w_goto X419 hx (hb hby at_527) (pc' := 598) (by decide) (by decide) ?_
     refine w_aload X419 hx (hb hby at_598) rfl rfl (pq 600) ?_
     have f431 : Exa Z T419.heap b295 kc0 := (((((g305_0.ext E387).ext E395).wr W403).wr W410).keep K419)
     have le432 : h295.size ≤ h387.size := (Nat.le_trans K305.1 E387.1)
     have ne433 : b295 ≠ b395 := (Nat.ne_of_lt (Nat.lt_of_lt_of_le A295.lt (Nat.le_trans le432 (Nat.le_of_eq g395.symm))))
     have ne434 : b295 ≠ b387 := (Nat.ne_of_lt (Nat.lt_of_lt_of_le A295.lt (Nat.le_trans K305.1 (Nat.le_of_eq g387.symm))))
     have f435 : Fld Z T419.heap b295 kc0 "value" "[B" (.ref t_305) := (((((g305_5.ext E387).ext E395).other W403 (Or.inl ne433)).other W410 (Or.inl ne433)).keep K419 (ninS ne434 nin0))
     have ne436 : t_305 ≠ b395 := (Nat.ne_of_lt (Nat.lt_of_lt_of_le g305_6.lt (Nat.le_trans E387.1 (Nat.le_of_eq g395.symm))))
     have ne437 : t_305 ≠ b387 := (Nat.ne_of_lt (Nat.lt_of_lt_of_le g305_6.lt (Nat.le_trans (Nat.le_refl _) (Nat.le_of_eq g387.symm))))
     have f438 : Arv Z T419.heap t_305 kb_305 .byte (12 : Int32) (mI (lowL bl220)) (.int (0 : Int32)) := (((((g305_6.ext E387).ext E395).other W403 ne436).other W410 ne436).keep K419 (ninS ne437 nin0))
     have f439 : Fld Z T419.heap b295 kc0 "coder" "B" (.int (0 : Int32)) := (((((g305_1.ext E387).ext E395).other W403 (Or.inl ne433)).other W410 (Or.inl ne433)).keep K419 (ninS ne434 nin0))
     have f440 : Old Z n0 T419.heap := (f424.keep K419 (allS ge388 all0))
     have le441 : h0.size ≤ T419.heap.size := (Nat.le_trans le418 K419.1)
     refine w_staticS X419 hx (y := yn_13) hown (mvT hZ (wd_50 hw)) (mvT hZ (wd_51 hw)) (mvT hZ (wd_52 hw)) (mvT hZ (wd_53 hw)) (by decide) (backOfY (W := 0) (rm_m13_1 l Z aZ hw [] b295 gr55 nn c_22 c_24 c_26 c_28 t_305 kb_305 (lowL bl220) G_COMPACT_STRINGS G_SIOOBE_FORMATTER T419.heap n0 (Nat.le_trans Z0 le441) f431 f435 f438 f439 S_COMPACT_STRINGS f440 r_G_SIOOBE_FORMATTER S_SIOOBE_FORMATTER htr224 hP_2 (own_lowlen hl222) hEN) hZ (wd_53 hw) (wd_52 hw) (by decide) (by decide) (own_EW hw) C427.1 sf0 all0) (by rw [hml]; rfl) [(.ref b295)] (lenOf pd_33 rfl) rfl (Nat.le_of_eq rfl) (hb hby at_600) (fun _ _ => ⟨rfl, rfl, (by decide : 6 + 13 ≤ _), (by decide : 36 + 125 ≤ _)⟩) (pq 603) ?_
     rintro _ _ ⟨T442, L442, k442, n442⟩ XX442 hSS442 hg442 ⟨Lc442, hQ442, l442, y442, z442, A442⟩
     dsimp only [Pt.U, Pt.locs, Pt.cells, Pt.slots] at XX442 l442 y442 z442 hQ442 hSS442 hg442 A442 ⊢
     rw [l442, y442, z442] at XX442
     obtain ⟨X442, hS442, hZ442, hown442⟩ := rebS hS0 (Nat.le_trans (Nat.le_refl _) le441) XX442 hSS442 hg442 hZ hown
     obtain ⟨r_442, s_442, t_442, kb_442, rfl, N442q, K442, g442_0, g442_1, g442_2, g442_3, g442_4, g442_5, g442_6, g442_7, g442_8⟩ := hQ442
     have N443 := Fr.app N425 N442q
     have C444 : CHr Z EL s.vm h0 T442.vm T442.heap := C427.trans A442
     have K445 : Keep h0 T442.heap [] := K428.trans K442 (all0 (P := fun x => x ∈ [] ∨ h0.size ≤ x))
     have ge446 : n0 ≤ r_442 := Nat.le_trans (Nat.le_trans Z0 le441) g442_0
     have sz447 : h0.size ≤ r_442 := Nat.le_trans le441 g442_0
     have ge448 : n0 ≤ s_442 := Nat.le_trans (Nat.le_trans Z0 le441) g442_3
     have sz449 : h0.size ≤ s_442 := Nat.le_trans le441 g442_3
     have ge450 : n0 ≤ t_442 := Nat.le_trans (Nat.le_trans Z0 le441) g442_7
     have sz451 : h0.size ≤ t_442 := Nat.le_trans le441 g442_7
     show Runs _ _ _ _ (T442.setTop (mkF m 603 _ [(.ref r_442)]))
     have V452 : Arv Z T442.heap t_442 kb_442 .byte (2 : Int32) [(.int (c_22.toInt8.toInt32)), (.int (c_24.toInt8.toInt32))] (.int (0 : Int32)) := by have z := g442_8; rw [hc386] at z; exact z
     refine w_astore X442 hx (hb hby at_603) rfl (L' := #[.val (.int p0), .val (.int p1), .val (.int p2), .val (.int p3), .val (.int p4), .val (.int p5), .val (.int nn), .val (.int c_22), .val (.int c_24), .val (.int c_26), .val (.int c_28), .val (.int gr31), .val (.int gr55), .val (.int us), .val (.int ld), .val (.ref b85), .val (.int ps221), .val (.ref b295), .val (.ref b387), .val (.ref r_442)]) rfl (pq 605) ?_
     refine w_aload X442 hx (hb hby at_605) rfl rfl (pq 607) ?_
     have le453 : h0.size ≤ T442.heap.size := (Nat.le_trans le441 K442.1)
     obtain ⟨cq454, kq454, q454a, q454b, q454c⟩ := isOf hZ442 rfl g442_1
     refine w_virtual X442 hx (y := yn_53) (z := yn_53) hown442 (mvT hZ442 (wd_244 hw)) (mvT hZ442 (wd_245 hw)) (notFace_of_selects (args := #[]) (mvT hZ442 (wd_247 hw))) (mvT hZ442 (wd_247 hw)) (mvT hZ442 (wd_246 hw)) (by decide) (backOf (W := 0) (rm_m53_72 l Z aZ hw [] r_442 s_442 T442.heap n0 (Nat.le_trans Z0 le453) g442_2) hZ442 (wd_248 hw) (wd_52 hw) (by decide) (by decide)) q454a q454c (by rw [hml]; rfl) [] (lenOf pd_30 rfl) rfl (Nat.le_of_eq rfl) (hb hby at_607) (fun _ _ => ⟨rfl, rfl, (by decide : 19 + 0 ≤ _), (by decide : 161 + 0 ≤ _)⟩) (pq 610) ?_
     rintro _ _ ⟨T454, L454, k454, n454⟩ X454 ⟨Lc454, hQ454, l454, y454, z454⟩
     dsimp only [Pt.U, Pt.locs, Pt.cells, Pt.slots] at X454 l454 y454 z454 hQ454 ⊢
     rw [l454, y454, z454] at X454
     obtain ⟨rfl, N454q, e454⟩ := hQ454
     have N455 := Fr.app N443 N454q
     show Runs _ _ _ _ (T454.setTop (mkF m 610 _ [(.ref s_442)]))
     refine w_aload X454 hx (hb hby at_610) rfl rfl (pq 612) ?_
     have f460 : Exa Z T442.heap b387 kc0 := (g419_0.keep K442)
     have f461 : Old Z n0 T442.heap := (f440.keep K442 all0)
     have f462 : Fld Z T442.heap b387 kc0 "coder" "B" (.int (0 : Int32)) := (g419_1.keep K442 nin0)
     have f463 : Fld Z T442.heap b387 kc0 "value" "[B" (.ref t_419) := (g419_5.keep K442 nin0)
     have f464 : Arv Z T442.heap t_419 kb_419 .byte (2 : Int32) [(.int (c_22.toInt8.toInt32)), (.int (c_24.toInt8.toInt32))] (.int (0 : Int32)) := (g419_6.keep K442 nin0)
     have le465 : h387.size ≤ h403.size := (Nat.le_trans E395.1 (Keep.of_wr W403).1)
     have le466 : h387.size ≤ h410.size := (Nat.le_trans le465 (Keep.of_wr W410).1)
     have le467 : h387.size ≤ T419.heap.size := (Nat.le_trans le466 K419.1)
     have ne468 : b387 ≠ s_442 := (Nat.ne_of_lt (Nat.lt_of_lt_of_le A387.lt (Nat.le_trans le467 g442_3)))
     obtain ⟨cq469, kq469, q469a, q469b, q469c⟩ := isOf hZ442 e454 g442_4
     refine w_virtual X454 hx (y := yn_54) (z := yn_54) hown442 (mvT hZ442 (wd_249 hw)) (mvT hZ442 (wd_250 hw)) (notFace_of_selects (args := #[]) (mvT hZ442 (wd_252 hw))) (mvT hZ442 (wd_252 hw)) (mvT hZ442 (wd_251 hw)) (by decide) (backOf (W := 0) (rm_m54_75 l Z aZ hw [] s_442 b387 G_COMPACT_STRINGS t_442 t_419 kb_442 (c_22.toInt8.toInt32) (c_24.toInt8.toInt32) kb_419 T442.heap n0 (Nat.le_trans Z0 le453) (Ne.symm ne468) f460 S_COMPACT_STRINGS f461 hP_2 g442_5 f462 g442_6 f463 V452 f464) hZ442 (wd_253 hw) (wd_23 hw) (by decide) (by decide)) q469a q469c (by rw [hml]; rfl) [(.ref b387)] (lenOf pd_35 rfl) rfl (Nat.le_of_eq rfl) (hb hby at_612) (fun _ _ => ⟨rfl, e454, (by decide : 19 + 0 ≤ _), (by decide : 161 + 0 ≤ _)⟩) (pq 615) ?_
     rintro _ _ ⟨T469, L469, k469, n469⟩ X469 ⟨Lc469, hQ469, l469, y469, z469⟩
     dsimp only [Pt.U, Pt.locs, Pt.cells, Pt.slots] at X469 l469 y469 z469 hQ469 ⊢
     rw [l469, y469, z469] at X469
     obtain ⟨rfl, N469q, e469⟩ := hQ469
     have N470 := Fr.app N455 N469q
     show Runs _ _ _ _ (T469.setTop (mkF m 615 _ [(.int (1 : Int32))]))
     exact w_doneH X469 hlk (v := some (.int (1 : Int32))) e469 hh hZ442 (own_EW hw) hS442 (Nat.le_refl _) C444 (fun h => by rw [hret] at h; cases h) (fun fs hr => retN X469 hx (t := .boolean) hret (by simp) (hb hby at_615) hr) (by decide) (by decide) (fun hsy => ⟨rfl, N470⟩)
   · refine w_icY X305 hx (hb hby at_502) (feq hc386).2 (pc' := 530) (by decide) (by decide) ?_
     refine w_iload X305 hx (hb hby at_530) rfl (pq 532) ?_
     refine w_iconst X305 hx (hb hby at_532) (v := (3 : Int32)) rfl (pq 533) ?_
     by_cases hc471 : nn = (3 : Int32)
     · refine w_icN X305 hx (hb hby at_533) (teq hc471).2 (pq 536) ?_
       refine w_new X305 hx hZ hown (wd_21 hw) (wd_22 hw) (wd_23 hw) rfl (hb hby at_536) (by decide) (by decide) (pq 539) ?_
       intro T472 h472 b472 X472 e472 E472 g472 A472 D472
       have le474 : h0.size ≤ T305.heap.size := (Nat.le_trans le304 K305.1)
       have ge473 : n0 ≤ b472 := Nat.le_trans (Nat.le_trans Z0 le474) (Nat.le_of_eq g472.symm)
       have sz475 : h0.size ≤ b472 := Nat.le_trans le474 (Nat.le_of_eq g472.symm)
       have C476 : CHr Z EL s.vm h0 s.vm h472 := C310.trans (CHr.ext E472 C310.1)
       have K477 : Keep h0 h472 [] := K311.ext E472
       have f478 : Fld Z h472 b472 kc0 "coder" "B" (.int (0 : Int32)) := D472 (Or.inr (wd_47 hw)) (ty := .byte) (by decide)
       have f479 : Fld Z h472 b472 kc0 "value" "[B" .null := D472 (Or.inr (wd_49 hw)) (ty := (.array .byte)) (by decide)
       refine w_dup X472 hx (hb hby at_539) rfl (pq 540) ?_
       refine w_iconst X472 hx (hb hby at_540) (v := (3 : Int32)) rfl (pq 541) ?_
       refine w_newP X472 hx .char .char 3 rfl hZ (wd_14 hw) e472 (hb hby at_541) (by decide) (by decide) (by decide) (by decide) (by decide) (pq 543) ?_
       intro T480 h480 k480 b480 X480 e480 E480 g480 A480
       have le482 : h0.size ≤ h472.size := (Nat.le_trans le474 E472.1)
       have ge481 : n0 ≤ b480 := Nat.le_trans (Nat.le_trans Z0 le482) (Nat.le_of_eq g480.symm)
       have sz483 : h0.size ≤ b480 := Nat.le_trans le482 (Nat.le_of_eq g480.symm)
       have C484 : CHr Z EL s.vm h0 s.vm h480 := C476.trans (CHr.ext E480 C476.1)
       have K485 : Keep h0 h480 [] := K477.ext E480
       have V486 : Arv Z h480 b480 k480 .char (3 : Int32) [(.int (0 : Int32)), (.int (0 : Int32)), (.int (0 : Int32))] (.int (0 : Int32)) := (Arv.new A480 (by decide)).pad (pad_rep [] (.int (0 : Int32)) 3)
       refine w_dup X480 hx (hb hby at_543) rfl (pq 544) ?_
       refine w_iconst X480 hx (hb hby at_544) (v := (0 : Int32)) rfl (pq 545) ?_
       refine w_iload X480 hx (hb hby at_545) rfl (pq 547) ?_
       obtain ⟨clu487, Aru487, qu487, Su487, Nu487, Hu487, Gu487⟩ := id V486
       have hinu487 := inb_of (j := (0 : Int32)) Su487 ⟨by decide, by decide⟩
       refine w_stC X480 hx hZ e480 Aru487 hinu487 (hb hby at_547) (pq 548) ?_
       intro T488 h488 X488 e488 W488
       have C489 : CHr Z EL s.vm h0 s.vm h488 := C484.trans (CHr.wr W488 (Safe.arv hZ.alike V486 (by decide)) C484.1)
       have V490 : Arv Z h488 b480 k480 .char (3 : Int32) [(.int (nar .char c_22)), (.int (0 : Int32)), (.int (0 : Int32))] (.int (0 : Int32)) := Arv.set Aru487 qu487 Su487 Nu487 Hu487 Gu487 (fits_nar_char _) W488 0 rfl (Nat.le_of_ble_eq_true rfl)
       have V491 : Arv Z h488 b480 k480 .char (3 : Int32) [(.int c_22), (.int (0 : Int32)), (.int (0 : Int32))] (.int (0 : Int32)) := by rw [g22_0] at V490; exact V490
       have K492 : Keep h0 h488 [] := K485.wr W488 (Or.inr sz483)
       have N493 := Fr.snoc X488 N308 ge481
       refine w_dup X488 hx (hb hby at_548) rfl (pq 549) ?_
       refine w_iconst X488 hx (hb hby at_549) (v := (1 : Int32)) rfl (pq 550) ?_
       refine w_iload X488 hx (hb hby at_550) rfl (pq 552) ?_
       obtain ⟨clu494, Aru494, qu494, Su494, Nu494, Hu494, Gu494⟩ := id V491
       have hinu494 := inb_of (j := (1 : Int32)) Su494 ⟨by decide, by decide⟩
       refine w_stC X488 hx hZ e488 Aru494 hinu494 (hb hby at_552) (pq 553) ?_
       intro T495 h495 X495 e495 W495
       have C496 : CHr Z EL s.vm h0 s.vm h495 := C489.trans (CHr.wr W495 (Safe.arv hZ.alike V491 (by decide)) C489.1)
       have V497 : Arv Z h495 b480 k480 .char (3 : Int32) [(.int c_22), (.int (nar .char c_24)), (.int (0 : Int32))] (.int (0 : Int32)) := Arv.set Aru494 qu494 Su494 Nu494 Hu494 Gu494 (fits_nar_char _) W495 1 rfl (Nat.le_of_ble_eq_true rfl)
       have V498 : Arv Z h495 b480 k480 .char (3 : Int32) [(.int c_22), (.int c_24), (.int (0 : Int32))] (.int (0 : Int32)) := by rw [g24_0] at V497; exact V497
       have K499 : Keep h0 h495 [] := K492.wr W495 (Or.inr sz483)
       have N500 := Fr.snoc X495 N493 ge481
       refine w_dup X495 hx (hb hby at_553) rfl (pq 554) ?_
       refine w_iconst X495 hx (hb hby at_554) (v := (2 : Int32)) rfl (pq 555) ?_
       refine w_iload X495 hx (hb hby at_555) rfl (pq 557) ?_
       obtain ⟨clu501, Aru501, qu501, Su501, Nu501, Hu501, Gu501⟩ := id V498
       have hinu501 := inb_of (j := (2 : Int32)) Su501 ⟨by decide, by decide⟩
       refine w_stC X495 hx hZ e495 Aru501 hinu501 (hb hby at_557) (pq 558) ?_
       intro T502 h502 X502 e502 W502
       have C503 : CHr Z EL s.vm h0 s.vm h502 := C496.trans (CHr.wr W502 (Safe.arv hZ.alike V498 (by decide)) C496.1)
       have V504 : Arv Z h502 b480 k480 .char (3 : Int32) [(.int c_22), (.int c_24), (.int (nar .char c_26))] (.int (0 : Int32)) := Arv.set Aru501 qu501 Su501 Nu501 Hu501 Gu501 (fits_nar_char _) W502 2 rfl (Nat.le_of_ble_eq_true rfl)
       have V505 : Arv Z h502 b480 k480 .char (3 : Int32) [(.int c_22), (.int c_24), (.int c_26)] (.int (0 : Int32)) := by rw [g26_0] at V504; exact V504
       have K506 : Keep h0 h502 [] := K499.wr W502 (Or.inr sz483)
       have N507 := Fr.snoc X502 N500 ge481
       have le508 : h0.size ≤ h480.size := (Nat.le_trans le482 E480.1)
       have le509 : h0.size ≤ h488.size := (Nat.le_trans le508 (Keep.of_wr W488).1)
       have le510 : h0.size ≤ h495.size := (Nat.le_trans le509 (Keep.of_wr W495).1)
       have le511 : h0.size ≤ h502.size := (Nat.le_trans le510 (Keep.of_wr W502).1)
       have f513 : Exa Z h502 b472 kc0 := ((((A472.ext E480).wr W488).wr W495).wr W502)
       have ne514 : b472 ≠ b480 := (Nat.ne_of_lt (Nat.lt_of_lt_of_le A472.lt (Nat.le_trans (Nat.le_refl _) (Nat.le_of_eq g480.symm))))
       have f515 : Fld Z h502 b472 kc0 "value" "[B" .null := ((((f479.ext E480).other W488 (Or.inl ne514)).other W495 (Or.inl ne514)).other W502 (Or.inl ne514))
       have f516 : Fld Z h502 b472 kc0 "coder" "B" (.int (0 : Int32)) := ((((f478.ext E480).other W488 (Or.inl ne514)).other W495 (Or.inl ne514)).other W502 (Or.inl ne514))
       have f517 : Old Z n0 h502 := ((((((f307.keep K305 (allS ge296 all0)).ext E472).ext E480).wr W488 ge481).wr W495 ge481).wr W502 ge481)
       refine w_special X502 hx (y := yn_7) rfl hown (mvT hZ (wd_24 hw)) (mvT hZ (wd_25 hw)) (mvT hZ (wd_26 hw)) (by decide) (StrChars.Road.backV (W := 1) hZ (own_hws hw) (kI := 4) (wd_22 hw) (cs := ([c_22, c_24, c_26] : List Int32)) (bs := ([c_22, c_24, c_26] : List Int32).map (fun c => c.toInt8.toInt32)) (n := 3) ge473 (Nat.le_trans Z0 le511) f513 f515 f516 V505 (S_COMPACT_STRINGS.ext f517.2) hP_2 rfl rfl (by decide) (by decide) (List.forall_mem_cons.2 ⟨(own_kc255 g22_1), (List.forall_mem_cons.2 ⟨(own_kc255 g24_1), (List.forall_mem_cons.2 ⟨(own_kc255 g26_1), (fun _ h => nomatch h)⟩)⟩)⟩) rfl (by decide) (by decide)) (by rw [hml]; rfl) [(.ref b480)] (lenOf pd_5 rfl) rfl (Nat.le_of_eq rfl) (hb hby at_558) (fun _ _ => ⟨rfl, e502, (by decide : 5 + 1 ≤ _), (by decide : 35 + 3 ≤ _)⟩) (pq 561) ?_
       rintro _ _ ⟨T512, L512, k512, n512⟩ X512 ⟨Lc512, hQ512, l512, y512, z512⟩
       dsimp only [Pt.U, Pt.locs, Pt.cells, Pt.slots] at X512 l512 y512 z512 hQ512 ⊢
       rw [l512, y512, z512] at X512
       obtain ⟨rfl, N512q, K512, g512_0, g512_1, t_512, kb_512, g512_2, g512_3, g512_4, g512_5, g512_6⟩ := hQ512
       have N518 := Fr.app N507 N512q
       have y519 : Safe Z EL s.vm h502 b472 := (Safe.wr W502 (Safe.arv hZ.alike V498 (by decide)) C496.1 (Safe.wr W495 (Safe.arv hZ.alike V491 (by decide)) C489.1 (Safe.wr W488 (Safe.arv hZ.alike V486 (by decide)) C484.1 (Safe.ext E480 C476.1 (Safe.ext E472 C310.1 (Safe.new (Nat.le_of_eq g472.symm)))))))
       have C520 : CHr Z EL s.vm h0 s.vm T512.heap := C503.trans (CHr.keep K512 (sfS y519 sf0) C503.1)
       have K521 : Keep h0 T512.heap [] := K506.trans K512 (allS (Or.inr sz475) (all0 (P := fun x => x ∈ [] ∨ h0.size ≤ x)))
       have ge522 : n0 ≤ t_512 := Nat.le_trans (Nat.le_trans Z0 le511) g512_3
       have sz523 : h0.size ≤ t_512 := Nat.le_trans le511 g512_3
       show Runs _ _ _ _ (T512.setTop (mkF m 561 _ [(.ref b472)]))
       refine w_astore X512 hx (hb hby at_561) rfl (L' := #[.val (.int p0), .val (.int p1), .val (.int p2), .val (.int p3), .val (.int p4), .val (.int p5), .val (.int nn), .val (.int c_22), .val (.int c_24), .val (.int c_26), .val (.int c_28), .val (.int gr31), .val (.int gr55), .val (.int us), .val (.int ld), .val (.ref b85), .val (.int ps221), .val (.ref b295), .val (.ref b472), .unset]) rfl (pq 563) ?_
       refine w_goto X512 hx (hb hby at_563) (pc' := 598) (by decide) (by decide) ?_
       refine w_aload X512 hx (hb hby at_598) rfl rfl (pq 600) ?_
       have f524 : Exa Z T512.heap b295 kc0 := ((((((g305_0.ext E472).ext E480).wr W488).wr W495).wr W502).keep K512)
       have le525 : h295.size ≤ h472.size := (Nat.le_trans K305.1 E472.1)
       have ne526 : b295 ≠ b480 := (Nat.ne_of_lt (Nat.lt_of_lt_of_le A295.lt (Nat.le_trans le525 (Nat.le_of_eq g480.symm))))
       have ne527 : b295 ≠ b472 := (Nat.ne_of_lt (Nat.lt_of_lt_of_le A295.lt (Nat.le_trans K305.1 (Nat.le_of_eq g472.symm))))
       have f528 : Fld Z T512.heap b295 kc0 "value" "[B" (.ref t_305) := ((((((g305_5.ext E472).ext E480).other W488 (Or.inl ne526)).other W495 (Or.inl ne526)).other W502 (Or.inl ne526)).keep K512 (ninS ne527 nin0))
       have ne529 : t_305 ≠ b480 := (Nat.ne_of_lt (Nat.lt_of_lt_of_le g305_6.lt (Nat.le_trans E472.1 (Nat.le_of_eq g480.symm))))
       have ne530 : t_305 ≠ b472 := (Nat.ne_of_lt (Nat.lt_of_lt_of_le g305_6.lt (Nat.le_trans (Nat.le_refl _) (Nat.le_of_eq g472.symm))))
       have f531 : Arv Z T512.heap t_305 kb_305 .byte (12 : Int32) (mI (lowL bl220)) (.int (0 : Int32)) := ((((((g305_6.ext E472).ext E480).other W488 ne529).other W495 ne529).other W502 ne529).keep K512 (ninS ne530 nin0))
       have f532 : Fld Z T512.heap b295 kc0 "coder" "B" (.int (0 : Int32)) := ((((((g305_1.ext E472).ext E480).other W488 (Or.inl ne526)).other W495 (Or.inl ne526)).other W502 (Or.inl ne526)).keep K512 (ninS ne527 nin0))
       have f533 : Old Z n0 T512.heap := (f517.keep K512 (allS ge473 all0))
       have le534 : h0.size ≤ T512.heap.size := (Nat.le_trans le511 K512.1)
       refine w_staticS X512 hx (y := yn_13) hown (mvT hZ (wd_50 hw)) (mvT hZ (wd_51 hw)) (mvT hZ (wd_52 hw)) (mvT hZ (wd_53 hw)) (by decide) (backOfY (W := 0) (rm_m13_1 l Z aZ hw [] b295 gr55 nn c_22 c_24 c_26 c_28 t_305 kb_305 (lowL bl220) G_COMPACT_STRINGS G_SIOOBE_FORMATTER T512.heap n0 (Nat.le_trans Z0 le534) f524 f528 f531 f532 S_COMPACT_STRINGS f533 r_G_SIOOBE_FORMATTER S_SIOOBE_FORMATTER htr224 hP_2 (own_lowlen hl222) hEN) hZ (wd_53 hw) (wd_52 hw) (by decide) (by decide) (own_EW hw) C520.1 sf0 all0) (by rw [hml]; rfl) [(.ref b295)] (lenOf pd_33 rfl) rfl (Nat.le_of_eq rfl) (hb hby at_600) (fun _ _ => ⟨rfl, rfl, (by decide : 6 + 13 ≤ _), (by decide : 38 + 125 ≤ _)⟩) (pq 603) ?_
       rintro _ _ ⟨T535, L535, k535, n535⟩ XX535 hSS535 hg535 ⟨Lc535, hQ535, l535, y535, z535, A535⟩
       dsimp only [Pt.U, Pt.locs, Pt.cells, Pt.slots] at XX535 l535 y535 z535 hQ535 hSS535 hg535 A535 ⊢
       rw [l535, y535, z535] at XX535
       obtain ⟨X535, hS535, hZ535, hown535⟩ := rebS hS0 (Nat.le_trans (Nat.le_refl _) le534) XX535 hSS535 hg535 hZ hown
       obtain ⟨r_535, s_535, t_535, kb_535, rfl, N535q, K535, g535_0, g535_1, g535_2, g535_3, g535_4, g535_5, g535_6, g535_7, g535_8⟩ := hQ535
       have N536 := Fr.app N518 N535q
       have C537 : CHr Z EL s.vm h0 T535.vm T535.heap := C520.trans A535
       have K538 : Keep h0 T535.heap [] := K521.trans K535 (all0 (P := fun x => x ∈ [] ∨ h0.size ≤ x))
       have ge539 : n0 ≤ r_535 := Nat.le_trans (Nat.le_trans Z0 le534) g535_0
       have sz540 : h0.size ≤ r_535 := Nat.le_trans le534 g535_0
       have ge541 : n0 ≤ s_535 := Nat.le_trans (Nat.le_trans Z0 le534) g535_3
       have sz542 : h0.size ≤ s_535 := Nat.le_trans le534 g535_3
       have ge543 : n0 ≤ t_535 := Nat.le_trans (Nat.le_trans Z0 le534) g535_7
       have sz544 : h0.size ≤ t_535 := Nat.le_trans le534 g535_7
       show Runs _ _ _ _ (T535.setTop (mkF m 603 _ [(.ref r_535)]))
       have V545 : Arv Z T535.heap t_535 kb_535 .byte (3 : Int32) [(.int (c_22.toInt8.toInt32)), (.int (c_24.toInt8.toInt32)), (.int (c_26.toInt8.toInt32))] (.int (0 : Int32)) := by have z := g535_8; rw [hc471] at z; exact z
       refine w_astore X535 hx (hb hby at_603) rfl (L' := #[.val (.int p0), .val (.int p1), .val (.int p2), .val (.int p3), .val (.int p4), .val (.int p5), .val (.int nn), .val (.int c_22), .val (.int c_24), .val (.int c_26), .val (.int c_28), .val (.int gr31), .val (.int gr55), .val (.int us), .val (.int ld), .val (.ref b85), .val (.int ps221), .val (.ref b295), .val (.ref b472), .val (.ref r_535)]) rfl (pq 605) ?_
       refine w_aload X535 hx (hb hby at_605) rfl rfl (pq 607) ?_
       have le546 : h0.size ≤ T535.heap.size := (Nat.le_trans le534 K535.1)
       obtain ⟨cq547, kq547, q547a, q547b, q547c⟩ := isOf hZ535 rfl g535_1
       refine w_virtual X535 hx (y := yn_53) (z := yn_53) hown535 (mvT hZ535 (wd_244 hw)) (mvT hZ535 (wd_245 hw)) (notFace_of_selects (args := #[]) (mvT hZ535 (wd_247 hw))) (mvT hZ535 (wd_247 hw)) (mvT hZ535 (wd_246 hw)) (by decide) (backOf (W := 0) (rm_m53_72 l Z aZ hw [] r_535 s_535 T535.heap n0 (Nat.le_trans Z0 le546) g535_2) hZ535 (wd_248 hw) (wd_52 hw) (by decide) (by decide)) q547a q547c (by rw [hml]; rfl) [] (lenOf pd_30 rfl) rfl (Nat.le_of_eq rfl) (hb hby at_607) (fun _ _ => ⟨rfl, rfl, (by decide : 19 + 0 ≤ _), (by decide : 163 + 0 ≤ _)⟩) (pq 610) ?_
       rintro _ _ ⟨T547, L547, k547, n547⟩ X547 ⟨Lc547, hQ547, l547, y547, z547⟩
       dsimp only [Pt.U, Pt.locs, Pt.cells, Pt.slots] at X547 l547 y547 z547 hQ547 ⊢
       rw [l547, y547, z547] at X547
       obtain ⟨rfl, N547q, e547⟩ := hQ547
       have N548 := Fr.app N536 N547q
       show Runs _ _ _ _ (T547.setTop (mkF m 610 _ [(.ref s_535)]))
       refine w_aload X547 hx (hb hby at_610) rfl rfl (pq 612) ?_
       have f557 : Exa Z T535.heap b472 kc0 := (g512_0.keep K535)
       have f558 : Old Z n0 T535.heap := (f533.keep K535 all0)
       have f559 : Fld Z T535.heap b472 kc0 "coder" "B" (.int (0 : Int32)) := (g512_1.keep K535 nin0)
       have f560 : Fld Z T535.heap b472 kc0 "value" "[B" (.ref t_512) := (g512_5.keep K535 nin0)
       have f561 : Arv Z T535.heap t_512 kb_512 .byte (3 : Int32) [(.int (c_22.toInt8.toInt32)), (.int (c_24.toInt8.toInt32)), (.int (c_26.toInt8.toInt32))] (.int (0 : Int32)) := (g512_6.keep K535 nin0)
       have le562 : h472.size ≤ h488.size := (Nat.le_trans E480.1 (Keep.of_wr W488).1)
       have le563 : h472.size ≤ h495.size := (Nat.le_trans le562 (Keep.of_wr W495).1)
       have le564 : h472.size ≤ h502.size := (Nat.le_trans le563 (Keep.of_wr W502).1)
       have le565 : h472.size ≤ T512.heap.size := (Nat.le_trans le564 K512.1)
       have ne566 : b472 ≠ s_535 := (Nat.ne_of_lt (Nat.lt_of_lt_of_le A472.lt (Nat.le_trans le565 g535_3)))
       obtain ⟨cq567, kq567, q567a, q567b, q567c⟩ := isOf hZ535 e547 g535_4
       refine w_virtual X547 hx (y := yn_54) (z := yn_54) hown535 (mvT hZ535 (wd_249 hw)) (mvT hZ535 (wd_250 hw)) (notFace_of_selects (args := #[]) (mvT hZ535 (wd_252 hw))) (mvT hZ535 (wd_252 hw)) (mvT hZ535 (wd_251 hw)) (by decide) (backOf (W := 0) (rm_m54_77 l Z aZ hw [] s_535 b472 G_COMPACT_STRINGS t_535 t_512 kb_535 (c_22.toInt8.toInt32) (c_24.toInt8.toInt32) (c_26.toInt8.toInt32) kb_512 T535.heap n0 (Nat.le_trans Z0 le546) (Ne.symm ne566) f557 S_COMPACT_STRINGS f558 hP_2 g535_5 f559 g535_6 f560 V545 f561) hZ535 (wd_253 hw) (wd_23 hw) (by decide) (by decide)) q567a q567c (by rw [hml]; rfl) [(.ref b472)] (lenOf pd_35 rfl) rfl (Nat.le_of_eq rfl) (hb hby at_612) (fun _ _ => ⟨rfl, e547, (by decide : 19 + 0 ≤ _), (by decide : 163 + 0 ≤ _)⟩) (pq 615) ?_
       rintro _ _ ⟨T567, L567, k567, n567⟩ X567 ⟨Lc567, hQ567, l567, y567, z567⟩
       dsimp only [Pt.U, Pt.locs, Pt.cells, Pt.slots] at X567 l567 y567 z567 hQ567 ⊢
       rw [l567, y567, z567] at X567
       obtain ⟨rfl, N567q, e567⟩ := hQ567
       have N568 := Fr.app N548 N567q
       show Runs _ _ _ _ (T567.setTop (mkF m 615 _ [(.int (1 : Int32))]))
       exact w_doneH X567 hlk (v := some (.int (1 : Int32))) e567 hh hZ535 (own_EW hw) hS535 (Nat.le_refl _) C537 (fun h => by rw [hret] at h; cases h) (fun fs hr => retN X567 hx (t := .boolean) hret (by simp) (hb hby at_615) hr) (by decide) (by decide) (fun hsy => ⟨rfl, N568⟩)
     · refine w_icY X305 hx (hb hby at_533) (feq hc471).2 (pc' := 566) (by decide) (by decide) ?_
       refine w_new X305 hx hZ hown (wd_21 hw) (wd_22 hw) (wd_23 hw) rfl (hb hby at_566) (by decide) (by decide) (pq 569) ?_
       intro T569 h569 b569 X569 e569 E569 g569 A569 D569
       have le571 : h0.size ≤ T305.heap.size := (Nat.le_trans le304 K305.1)
       have ge570 : n0 ≤ b569 := Nat.le_trans (Nat.le_trans Z0 le571) (Nat.le_of_eq g569.symm)
       have sz572 : h0.size ≤ b569 := Nat.le_trans le571 (Nat.le_of_eq g569.symm)
       have C573 : CHr Z EL s.vm h0 s.vm h569 := C310.trans (CHr.ext E569 C310.1)
       have K574 : Keep h0 h569 [] := K311.ext E569
       have f575 : Fld Z h569 b569 kc0 "coder" "B" (.int (0 : Int32)) := D569 (Or.inr (wd_47 hw)) (ty := .byte) (by decide)
       have f576 : Fld Z h569 b569 kc0 "value" "[B" .null := D569 (Or.inr (wd_49 hw)) (ty := (.array .byte)) (by decide)
       refine w_dup X569 hx (hb hby at_569) rfl (pq 570) ?_
       refine w_iconst X569 hx (hb hby at_570) (v := (4 : Int32)) rfl (pq 571) ?_
       refine w_newP X569 hx .char .char 4 rfl hZ (wd_14 hw) e569 (hb hby at_571) (by decide) (by decide) (by decide) (by decide) (by decide) (pq 573) ?_
       intro T577 h577 k577 b577 X577 e577 E577 g577 A577
       have le579 : h0.size ≤ h569.size := (Nat.le_trans le571 E569.1)
       have ge578 : n0 ≤ b577 := Nat.le_trans (Nat.le_trans Z0 le579) (Nat.le_of_eq g577.symm)
       have sz580 : h0.size ≤ b577 := Nat.le_trans le579 (Nat.le_of_eq g577.symm)
       have C581 : CHr Z EL s.vm h0 s.vm h577 := C573.trans (CHr.ext E577 C573.1)
       have K582 : Keep h0 h577 [] := K574.ext E577
       have V583 : Arv Z h577 b577 k577 .char (4 : Int32) [(.int (0 : Int32)), (.int (0 : Int32)), (.int (0 : Int32)), (.int (0 : Int32))] (.int (0 : Int32)) := (Arv.new A577 (by decide)).pad (pad_rep [] (.int (0 : Int32)) 4)
       refine w_dup X577 hx (hb hby at_573) rfl (pq 574) ?_
       refine w_iconst X577 hx (hb hby at_574) (v := (0 : Int32)) rfl (pq 575) ?_
       refine w_iload X577 hx (hb hby at_575) rfl (pq 577) ?_
       obtain ⟨clu584, Aru584, qu584, Su584, Nu584, Hu584, Gu584⟩ := id V583
       have hinu584 := inb_of (j := (0 : Int32)) Su584 ⟨by decide, by decide⟩
       refine w_stC X577 hx hZ e577 Aru584 hinu584 (hb hby at_577) (pq 578) ?_
       intro T585 h585 X585 e585 W585
       have C586 : CHr Z EL s.vm h0 s.vm h585 := C581.trans (CHr.wr W585 (Safe.arv hZ.alike V583 (by decide)) C581.1)
       have V587 : Arv Z h585 b577 k577 .char (4 : Int32) [(.int (nar .char c_22)), (.int (0 : Int32)), (.int (0 : Int32)), (.int (0 : Int32))] (.int (0 : Int32)) := Arv.set Aru584 qu584 Su584 Nu584 Hu584 Gu584 (fits_nar_char _) W585 0 rfl (Nat.le_of_ble_eq_true rfl)
       have V588 : Arv Z h585 b577 k577 .char (4 : Int32) [(.int c_22), (.int (0 : Int32)), (.int (0 : Int32)), (.int (0 : Int32))] (.int (0 : Int32)) := by rw [g22_0] at V587; exact V587
       have K589 : Keep h0 h585 [] := K582.wr W585 (Or.inr sz580)
       have N590 := Fr.snoc X585 N308 ge578
       refine w_dup X585 hx (hb hby at_578) rfl (pq 579) ?_
       refine w_iconst X585 hx (hb hby at_579) (v := (1 : Int32)) rfl (pq 580) ?_
       refine w_iload X585 hx (hb hby at_580) rfl (pq 582) ?_
       obtain ⟨clu591, Aru591, qu591, Su591, Nu591, Hu591, Gu591⟩ := id V588
       have hinu591 := inb_of (j := (1 : Int32)) Su591 ⟨by decide, by decide⟩
       refine w_stC X585 hx hZ e585 Aru591 hinu591 (hb hby at_582) (pq 583) ?_
       intro T592 h592 X592 e592 W592
       have C593 : CHr Z EL s.vm h0 s.vm h592 := C586.trans (CHr.wr W592 (Safe.arv hZ.alike V588 (by decide)) C586.1)
       have V594 : Arv Z h592 b577 k577 .char (4 : Int32) [(.int c_22), (.int (nar .char c_24)), (.int (0 : Int32)), (.int (0 : Int32))] (.int (0 : Int32)) := Arv.set Aru591 qu591 Su591 Nu591 Hu591 Gu591 (fits_nar_char _) W592 1 rfl (Nat.le_of_ble_eq_true rfl)
       have V595 : Arv Z h592 b577 k577 .char (4 : Int32) [(.int c_22), (.int c_24), (.int (0 : Int32)), (.int (0 : Int32))] (.int (0 : Int32)) := by rw [g24_0] at V594; exact V594
       have K596 : Keep h0 h592 [] := K589.wr W592 (Or.inr sz580)
       have N597 := Fr.snoc X592 N590 ge578
       refine w_dup X592 hx (hb hby at_583) rfl (pq 584) ?_
       refine w_iconst X592 hx (hb hby at_584) (v := (2 : Int32)) rfl (pq 585) ?_
       refine w_iload X592 hx (hb hby at_585) rfl (pq 587) ?_
       obtain ⟨clu598, Aru598, qu598, Su598, Nu598, Hu598, Gu598⟩ := id V595
       have hinu598 := inb_of (j := (2 : Int32)) Su598 ⟨by decide, by decide⟩
       refine w_stC X592 hx hZ e592 Aru598 hinu598 (hb hby at_587) (pq 588) ?_
       intro T599 h599 X599 e599 W599
       have C600 : CHr Z EL s.vm h0 s.vm h599 := C593.trans (CHr.wr W599 (Safe.arv hZ.alike V595 (by decide)) C593.1)
       have V601 : Arv Z h599 b577 k577 .char (4 : Int32) [(.int c_22), (.int c_24), (.int (nar .char c_26)), (.int (0 : Int32))] (.int (0 : Int32)) := Arv.set Aru598 qu598 Su598 Nu598 Hu598 Gu598 (fits_nar_char _) W599 2 rfl (Nat.le_of_ble_eq_true rfl)
       have V602 : Arv Z h599 b577 k577 .char (4 : Int32) [(.int c_22), (.int c_24), (.int c_26), (.int (0 : Int32))] (.int (0 : Int32)) := by rw [g26_0] at V601; exact V601
       have K603 : Keep h0 h599 [] := K596.wr W599 (Or.inr sz580)
       have N604 := Fr.snoc X599 N597 ge578
       refine w_dup X599 hx (hb hby at_588) rfl (pq 589) ?_
       refine w_iconst X599 hx (hb hby at_589) (v := (3 : Int32)) rfl (pq 590) ?_
       refine w_iload X599 hx (hb hby at_590) rfl (pq 592) ?_
       obtain ⟨clu605, Aru605, qu605, Su605, Nu605, Hu605, Gu605⟩ := id V602
       have hinu605 := inb_of (j := (3 : Int32)) Su605 ⟨by decide, by decide⟩
       refine w_stC X599 hx hZ e599 Aru605 hinu605 (hb hby at_592) (pq 593) ?_
       intro T606 h606 X606 e606 W606
       have C607 : CHr Z EL s.vm h0 s.vm h606 := C600.trans (CHr.wr W606 (Safe.arv hZ.alike V602 (by decide)) C600.1)
       have V608 : Arv Z h606 b577 k577 .char (4 : Int32) [(.int c_22), (.int c_24), (.int c_26), (.int (nar .char c_28))] (.int (0 : Int32)) := Arv.set Aru605 qu605 Su605 Nu605 Hu605 Gu605 (fits_nar_char _) W606 3 rfl (Nat.le_of_ble_eq_true rfl)
       have V609 : Arv Z h606 b577 k577 .char (4 : Int32) [(.int c_22), (.int c_24), (.int c_26), (.int c_28)] (.int (0 : Int32)) := by rw [g28_0] at V608; exact V608
       have K610 : Keep h0 h606 [] := K603.wr W606 (Or.inr sz580)
       have N611 := Fr.snoc X606 N604 ge578
       have le612 : h0.size ≤ h577.size := (Nat.le_trans le579 E577.1)
       have le613 : h0.size ≤ h585.size := (Nat.le_trans le612 (Keep.of_wr W585).1)
       have le614 : h0.size ≤ h592.size := (Nat.le_trans le613 (Keep.of_wr W592).1)
       have le615 : h0.size ≤ h599.size := (Nat.le_trans le614 (Keep.of_wr W599).1)
       have le616 : h0.size ≤ h606.size := (Nat.le_trans le615 (Keep.of_wr W606).1)
       have f618 : Exa Z h606 b569 kc0 := (((((A569.ext E577).wr W585).wr W592).wr W599).wr W606)
       have ne619 : b569 ≠ b577 := (Nat.ne_of_lt (Nat.lt_of_lt_of_le A569.lt (Nat.le_trans (Nat.le_refl _) (Nat.le_of_eq g577.symm))))
       have f620 : Fld Z h606 b569 kc0 "value" "[B" .null := (((((f576.ext E577).other W585 (Or.inl ne619)).other W592 (Or.inl ne619)).other W599 (Or.inl ne619)).other W606 (Or.inl ne619))
       have f621 : Fld Z h606 b569 kc0 "coder" "B" (.int (0 : Int32)) := (((((f575.ext E577).other W585 (Or.inl ne619)).other W592 (Or.inl ne619)).other W599 (Or.inl ne619)).other W606 (Or.inl ne619))
       have f622 : Old Z n0 h606 := (((((((f307.keep K305 (allS ge296 all0)).ext E569).ext E577).wr W585 ge578).wr W592 ge578).wr W599 ge578).wr W606 ge578)
       refine w_special X606 hx (y := yn_7) rfl hown (mvT hZ (wd_24 hw)) (mvT hZ (wd_25 hw)) (mvT hZ (wd_26 hw)) (by decide) (StrChars.Road.backV (W := 1) hZ (own_hws hw) (kI := 4) (wd_22 hw) (cs := ([c_22, c_24, c_26, c_28] : List Int32)) (bs := ([c_22, c_24, c_26, c_28] : List Int32).map (fun c => c.toInt8.toInt32)) (n := 4) ge570 (Nat.le_trans Z0 le616) f618 f620 f621 V609 (S_COMPACT_STRINGS.ext f622.2) hP_2 rfl rfl (by decide) (by decide) (List.forall_mem_cons.2 ⟨(own_kc255 g22_1), (List.forall_mem_cons.2 ⟨(own_kc255 g24_1), (List.forall_mem_cons.2 ⟨(own_kc255 g26_1), (List.forall_mem_cons.2 ⟨(own_kc255 g28_1), (fun _ h => nomatch h)⟩)⟩)⟩)⟩) rfl (by decide) (by decide)) (by rw [hml]; rfl) [(.ref b577)] (lenOf pd_5 rfl) rfl (Nat.le_of_eq rfl) (hb hby at_593) (fun _ _ => ⟨rfl, e606, (by decide : 5 + 1 ≤ _), (by decide : 36 + 4 ≤ _)⟩) (pq 596) ?_
       rintro _ _ ⟨T617, L617, k617, n617⟩ X617 ⟨Lc617, hQ617, l617, y617, z617⟩
       dsimp only [Pt.U, Pt.locs, Pt.cells, Pt.slots] at X617 l617 y617 z617 hQ617 ⊢
       rw [l617, y617, z617] at X617
       obtain ⟨rfl, N617q, K617, g617_0, g617_1, t_617, kb_617, g617_2, g617_3, g617_4, g617_5, g617_6⟩ := hQ617
       have N623 := Fr.app N611 N617q
       have y624 : Safe Z EL s.vm h606 b569 := (Safe.wr W606 (Safe.arv hZ.alike V602 (by decide)) C600.1 (Safe.wr W599 (Safe.arv hZ.alike V595 (by decide)) C593.1 (Safe.wr W592 (Safe.arv hZ.alike V588 (by decide)) C586.1 (Safe.wr W585 (Safe.arv hZ.alike V583 (by decide)) C581.1 (Safe.ext E577 C573.1 (Safe.ext E569 C310.1 (Safe.new (Nat.le_of_eq g569.symm))))))))
       have C625 : CHr Z EL s.vm h0 s.vm T617.heap := C607.trans (CHr.keep K617 (sfS y624 sf0) C607.1)
       have K626 : Keep h0 T617.heap [] := K610.trans K617 (allS (Or.inr sz572) (all0 (P := fun x => x ∈ [] ∨ h0.size ≤ x)))
       have ge627 : n0 ≤ t_617 := Nat.le_trans (Nat.le_trans Z0 le616) g617_3
       have sz628 : h0.size ≤ t_617 := Nat.le_trans le616 g617_3
       show Runs _ _ _ _ (T617.setTop (mkF m 596 _ [(.ref b569)]))
       refine w_astore X617 hx (hb hby at_596) rfl (L' := #[.val (.int p0), .val (.int p1), .val (.int p2), .val (.int p3), .val (.int p4), .val (.int p5), .val (.int nn), .val (.int c_22), .val (.int c_24), .val (.int c_26), .val (.int c_28), .val (.int gr31), .val (.int gr55), .val (.int us), .val (.int ld), .val (.ref b85), .val (.int ps221), .val (.ref b295), .val (.ref b569), .unset]) rfl (pq 598) ?_
       refine w_aload X617 hx (hb hby at_598) rfl rfl (pq 600) ?_
       have f629 : Exa Z T617.heap b295 kc0 := (((((((g305_0.ext E569).ext E577).wr W585).wr W592).wr W599).wr W606).keep K617)
       have le630 : h295.size ≤ h569.size := (Nat.le_trans K305.1 E569.1)
       have ne631 : b295 ≠ b577 := (Nat.ne_of_lt (Nat.lt_of_lt_of_le A295.lt (Nat.le_trans le630 (Nat.le_of_eq g577.symm))))
       have ne632 : b295 ≠ b569 := (Nat.ne_of_lt (Nat.lt_of_lt_of_le A295.lt (Nat.le_trans K305.1 (Nat.le_of_eq g569.symm))))
       have f633 : Fld Z T617.heap b295 kc0 "value" "[B" (.ref t_305) := (((((((g305_5.ext E569).ext E577).other W585 (Or.inl ne631)).other W592 (Or.inl ne631)).other W599 (Or.inl ne631)).other W606 (Or.inl ne631)).keep K617 (ninS ne632 nin0))
       have ne634 : t_305 ≠ b577 := (Nat.ne_of_lt (Nat.lt_of_lt_of_le g305_6.lt (Nat.le_trans E569.1 (Nat.le_of_eq g577.symm))))
       have ne635 : t_305 ≠ b569 := (Nat.ne_of_lt (Nat.lt_of_lt_of_le g305_6.lt (Nat.le_trans (Nat.le_refl _) (Nat.le_of_eq g569.symm))))
       have f636 : Arv Z T617.heap t_305 kb_305 .byte (12 : Int32) (mI (lowL bl220)) (.int (0 : Int32)) := (((((((g305_6.ext E569).ext E577).other W585 ne634).other W592 ne634).other W599 ne634).other W606 ne634).keep K617 (ninS ne635 nin0))
       have f637 : Fld Z T617.heap b295 kc0 "coder" "B" (.int (0 : Int32)) := (((((((g305_1.ext E569).ext E577).other W585 (Or.inl ne631)).other W592 (Or.inl ne631)).other W599 (Or.inl ne631)).other W606 (Or.inl ne631)).keep K617 (ninS ne632 nin0))
       have f638 : Old Z n0 T617.heap := (f622.keep K617 (allS ge570 all0))
       have le639 : h0.size ≤ T617.heap.size := (Nat.le_trans le616 K617.1)
       refine w_staticS X617 hx (y := yn_13) hown (mvT hZ (wd_50 hw)) (mvT hZ (wd_51 hw)) (mvT hZ (wd_52 hw)) (mvT hZ (wd_53 hw)) (by decide) (backOfY (W := 0) (rm_m13_1 l Z aZ hw [] b295 gr55 nn c_22 c_24 c_26 c_28 t_305 kb_305 (lowL bl220) G_COMPACT_STRINGS G_SIOOBE_FORMATTER T617.heap n0 (Nat.le_trans Z0 le639) f629 f633 f636 f637 S_COMPACT_STRINGS f638 r_G_SIOOBE_FORMATTER S_SIOOBE_FORMATTER htr224 hP_2 (own_lowlen hl222) hEN) hZ (wd_53 hw) (wd_52 hw) (by decide) (by decide) (own_EW hw) C625.1 sf0 all0) (by rw [hml]; rfl) [(.ref b295)] (lenOf pd_33 rfl) rfl (Nat.le_of_eq rfl) (hb hby at_600) (fun _ _ => ⟨rfl, rfl, (by decide : 6 + 13 ≤ _), (by decide : 40 + 125 ≤ _)⟩) (pq 603) ?_
       rintro _ _ ⟨T640, L640, k640, n640⟩ XX640 hSS640 hg640 ⟨Lc640, hQ640, l640, y640, z640, A640⟩
       dsimp only [Pt.U, Pt.locs, Pt.cells, Pt.slots] at XX640 l640 y640 z640 hQ640 hSS640 hg640 A640 ⊢
       rw [l640, y640, z640] at XX640
       obtain ⟨X640, hS640, hZ640, hown640⟩ := rebS hS0 (Nat.le_trans (Nat.le_refl _) le639) XX640 hSS640 hg640 hZ hown
       obtain ⟨r_640, s_640, t_640, kb_640, rfl, N640q, K640, g640_0, g640_1, g640_2, g640_3, g640_4, g640_5, g640_6, g640_7, g640_8⟩ := hQ640
       have N641 := Fr.app N623 N640q
       have C642 : CHr Z EL s.vm h0 T640.vm T640.heap := C625.trans A640
       have K643 : Keep h0 T640.heap [] := K626.trans K640 (all0 (P := fun x => x ∈ [] ∨ h0.size ≤ x))
       have ge644 : n0 ≤ r_640 := Nat.le_trans (Nat.le_trans Z0 le639) g640_0
       have sz645 : h0.size ≤ r_640 := Nat.le_trans le639 g640_0
       have ge646 : n0 ≤ s_640 := Nat.le_trans (Nat.le_trans Z0 le639) g640_3
       have sz647 : h0.size ≤ s_640 := Nat.le_trans le639 g640_3
       have ge648 : n0 ≤ t_640 := Nat.le_trans (Nat.le_trans Z0 le639) g640_7
       have sz649 : h0.size ≤ t_640 := Nat.le_trans le639 g640_7
       show Runs _ _ _ _ (T640.setTop (mkF m 603 _ [(.ref r_640)]))
       have V650 : Arv Z T640.heap t_640 kb_640 .byte (4 : Int32) [(.int (c_22.toInt8.toInt32)), (.int (c_24.toInt8.toInt32)), (.int (c_26.toInt8.toInt32)), (.int (c_28.toInt8.toInt32))] (.int (0 : Int32)) := by have z := g640_8; rw [(own_n4d hg21 hg20 hc314 hc386 hc471)] at z; exact z
       refine w_astore X640 hx (hb hby at_603) rfl (L' := #[.val (.int p0), .val (.int p1), .val (.int p2), .val (.int p3), .val (.int p4), .val (.int p5), .val (.int nn), .val (.int c_22), .val (.int c_24), .val (.int c_26), .val (.int c_28), .val (.int gr31), .val (.int gr55), .val (.int us), .val (.int ld), .val (.ref b85), .val (.int ps221), .val (.ref b295), .val (.ref b569), .val (.ref r_640)]) rfl (pq 605) ?_
       refine w_aload X640 hx (hb hby at_605) rfl rfl (pq 607) ?_
       have le651 : h0.size ≤ T640.heap.size := (Nat.le_trans le639 K640.1)
       obtain ⟨cq652, kq652, q652a, q652b, q652c⟩ := isOf hZ640 rfl g640_1
       refine w_virtual X640 hx (y := yn_53) (z := yn_53) hown640 (mvT hZ640 (wd_244 hw)) (mvT hZ640 (wd_245 hw)) (notFace_of_selects (args := #[]) (mvT hZ640 (wd_247 hw))) (mvT hZ640 (wd_247 hw)) (mvT hZ640 (wd_246 hw)) (by decide) (backOf (W := 0) (rm_m53_72 l Z aZ hw [] r_640 s_640 T640.heap n0 (Nat.le_trans Z0 le651) g640_2) hZ640 (wd_248 hw) (wd_52 hw) (by decide) (by decide)) q652a q652c (by rw [hml]; rfl) [] (lenOf pd_30 rfl) rfl (Nat.le_of_eq rfl) (hb hby at_607) (fun _ _ => ⟨rfl, rfl, (by decide : 19 + 0 ≤ _), (by decide : 165 + 0 ≤ _)⟩) (pq 610) ?_
       rintro _ _ ⟨T652, L652, k652, n652⟩ X652 ⟨Lc652, hQ652, l652, y652, z652⟩
       dsimp only [Pt.U, Pt.locs, Pt.cells, Pt.slots] at X652 l652 y652 z652 hQ652 ⊢
       rw [l652, y652, z652] at X652
       obtain ⟨rfl, N652q, e652⟩ := hQ652
       have N653 := Fr.app N641 N652q
       show Runs _ _ _ _ (T652.setTop (mkF m 610 _ [(.ref s_640)]))
       refine w_aload X652 hx (hb hby at_610) rfl rfl (pq 612) ?_
       have f666 : Exa Z T640.heap b569 kc0 := (g617_0.keep K640)
       have f667 : Old Z n0 T640.heap := (f638.keep K640 all0)
       have f668 : Fld Z T640.heap b569 kc0 "coder" "B" (.int (0 : Int32)) := (g617_1.keep K640 nin0)
       have f669 : Fld Z T640.heap b569 kc0 "value" "[B" (.ref t_617) := (g617_5.keep K640 nin0)
       have f670 : Arv Z T640.heap t_617 kb_617 .byte (4 : Int32) [(.int (c_22.toInt8.toInt32)), (.int (c_24.toInt8.toInt32)), (.int (c_26.toInt8.toInt32)), (.int (c_28.toInt8.toInt32))] (.int (0 : Int32)) := (g617_6.keep K640 nin0)
       have le671 : h569.size ≤ h585.size := (Nat.le_trans E577.1 (Keep.of_wr W585).1)
       have le672 : h569.size ≤ h592.size := (Nat.le_trans le671 (Keep.of_wr W592).1)
       have le673 : h569.size ≤ h599.size := (Nat.le_trans le672 (Keep.of_wr W599).1)
       have le674 : h569.size ≤ h606.size := (Nat.le_trans le673 (Keep.of_wr W606).1)
       have le675 : h569.size ≤ T617.heap.size := (Nat.le_trans le674 K617.1)
       have ne676 : b569 ≠ s_640 := (Nat.ne_of_lt (Nat.lt_of_lt_of_le A569.lt (Nat.le_trans le675 g640_3)))
       obtain ⟨cq677, kq677, q677a, q677b, q677c⟩ := isOf hZ640 e652 g640_4
       refine w_virtual X652 hx (y := yn_54) (z := yn_54) hown640 (mvT hZ640 (wd_249 hw)) (mvT hZ640 (wd_250 hw)) (notFace_of_selects (args := #[]) (mvT hZ640 (wd_252 hw))) (mvT hZ640 (wd_252 hw)) (mvT hZ640 (wd_251 hw)) (by decide) (backOf (W := 0) (rm_m54_79 l Z aZ hw [] s_640 b569 G_COMPACT_STRINGS t_640 t_617 kb_640 (c_22.toInt8.toInt32) (c_24.toInt8.toInt32) (c_26.toInt8.toInt32) (c_28.toInt8.toInt32) kb_617 T640.heap n0 (Nat.le_trans Z0 le651) (Ne.symm ne676) f666 S_COMPACT_STRINGS f667 hP_2 g640_5 f668 g640_6 f669 V650 f670) hZ640 (wd_253 hw) (wd_23 hw) (by decide) (by decide)) q677a q677c (by rw [hml]; rfl) [(.ref b569)] (lenOf pd_35 rfl) rfl (Nat.le_of_eq rfl) (hb hby at_612) (fun _ _ => ⟨rfl, e652, (by decide : 19 + 0 ≤ _), (by decide : 165 + 0 ≤ _)⟩) (pq 615) ?_
       rintro _ _ ⟨T677, L677, k677, n677⟩ X677 ⟨Lc677, hQ677, l677, y677, z677⟩
       dsimp only [Pt.U, Pt.locs, Pt.cells, Pt.slots] at X677 l677 y677 z677 hQ677 ⊢
       rw [l677, y677, z677] at X677
       obtain ⟨rfl, N677q, e677⟩ := hQ677
       have N678 := Fr.app N653 N677q
       show Runs _ _ _ _ (T677.setTop (mkF m 615 _ [(.int (1 : Int32))]))
       exact w_doneH X677 hlk (v := some (.int (1 : Int32))) e677 hh hZ640 (own_EW hw) hS640 (Nat.le_refl _) C642 (fun h => by rw [hret] at h; cases h) (fun fs hr => retN X677 hx (t := .boolean) hret (by simp) (hb hby at_615) hr) (by decide) (by decide) (fun hsy => ⟨rfl, N678⟩)
set_option maxRecDepth 65536 in
set_option maxHeartbeats 40000000 in
theorem comes_1 {Post : Tables → Env → Array Value → State → Outcome → State → Prop} (hpost : ∀ tb e args s v u, (limb_1_1.after args s (.returned v) u = true ∧ limb_1_2.after args s (.returned v) u = true ∧ True) → ReturnedEndW s (.returned v) u (Jvm.fieldLocs frame_1_writes args s ++ Jvm.arrayLocs frame_1_arrays args s ++ Jvm.staticLocs frame_1_statics s) 40 3328 → Post tb e args s (.returned v) u) :
    ArmFor flags0 classFile x code maxLocals ret World_1 tables_1 room_1 Calls_1 rest_1 Pre_1 Post := by
  intro l hfl _ _ p e ha hc hk s m args below hf hA hF happ hP
  obtain ⟨hcalls, hrest, hpre⟩ := hP
  obtain ⟨-, -, -, hnamed, -, -, -, hat⟩ := (Spec.applies_iff hf).mp happ
  obtain ⟨hg, hn⟩ := and_e (Cond.before_iff.mp (show (Jvm.Cond.and given_1 narrow_1).before args s = true from hpre))
  obtain ⟨gv1, gv2⟩ := and_e hg
  obtain ⟨gv3, gv4⟩ := and_e gv2
  obtain ⟨gv5, gv6⟩ := and_e gv4
  obtain ⟨gv7, gv8⟩ := and_e gv6
  obtain ⟨gv9, gv10⟩ := and_e gv8
  obtain ⟨gv11, gv12⟩ := and_e gv10
  obtain ⟨w0, w1, w2, w3, w4, w5, rfl⟩ : ∃ w0 w1 w2 w3 w4 w5 : Value, args = #[w0, w1, w2, w3, w4, w5] := by
    have hs : args.size = 6 := by simpa [Cond.value, given_1] using gv1
    obtain ⟨L⟩ := args
    match L, hs with
    | [w0, w1, w2, w3, w4, w5], _ => exact ⟨w0, w1, w2, w3, w4, w5, rfl⟩
  have hw := fun d (hd : d ∈ tables_1) => atoms_spec (ws := Jvm.Cond.code x code maxLocals ret :: tables_1) hat d (List.mem_cons_of_mem _ hd)
  have hfit : Fit s := fun {y c} hc i hi => by
    obtain ⟨ha, rfl⟩ := Array.getElem?_eq_some_iff.mp hc
    have q := List.all_eq_true.mp ((Array.all_eq_true_iff_forall_mem.mp hF) _ (Array.getElem_mem ha)) i (List.mem_range.mpr hi)
    simpa [Array.getElem?_eq_getElem hi] using q
  obtain ⟨hsets, hown0⟩ := atoms_of _ (rest_1_c_eq ▸ (show rest_1_c.before _ s = true from hrest))
  have hr0 := Cond.before_iff.mp hown0
  obtain ⟨i0, ei0⟩ := is_v gv3
  obtain rfl : w0 = (.int i0) := Option.some.inj ei0
  obtain ⟨i1, ei1⟩ := is_v gv5
  obtain rfl : w1 = (.int i1) := Option.some.inj ei1
  obtain ⟨i2, ei2⟩ := is_v gv7
  obtain rfl : w2 = (.int i2) := Option.some.inj ei2
  obtain ⟨i3, ei3⟩ := is_v gv9
  obtain rfl : w3 = (.int i3) := Option.some.inj ei3
  obtain ⟨i4, ei4⟩ := is_v gv11
  obtain rfl : w4 = (.int i4) := Option.some.inj ei4
  obtain ⟨i5, ei5⟩ := is_v gv12
  obtain rfl : w5 = (.int i5) := Option.some.inj ei5
  obtain ⟨G_COMPACT_STRINGS, ev_G_COMPACT_STRINGS⟩ := is_v (Cond.before_iff.mp (hsets _ (List.mem_of_getElem? (i := 1) rfl)))
  have S_COMPACT_STRINGS := Sta.start ev_G_COMPACT_STRINGS (Or.inl (hsets _ (List.mem_of_getElem? (i := 0) rfl)))
  obtain ⟨G_SIOOBE_FORMATTER, ev_G_SIOOBE_FORMATTER, r_G_SIOOBE_FORMATTER⟩ := isR_v (Cond.before_iff.mp (hsets _ (List.mem_of_getElem? (i := 8) rfl)))
  have S_SIOOBE_FORMATTER := Sta.start ev_G_SIOOBE_FORMATTER (Or.inl (hsets _ (List.mem_of_getElem? (i := 7) rfl)))
  have hP_2 : ¬ (G_COMPACT_STRINGS = (0 : Int32)) := fun q => by
    have h9 := not_v (Cond.before_iff.mp (hsets _ (List.mem_of_getElem? (i := 2) rfl)))
    rw [eq_i ev_G_COMPACT_STRINGS (Term.int_eval 0) (by rw [q])] at h9
    cases h9
  have hCH : CHv s EL s.vm s.heap := CHv.start (own_EW hw) (fun p hp => hcalls.1 p hp) (hsets _ (List.mem_of_getElem? (i := 2) rfl)) (wd_39 hw) (wd_22 hw)
  obtain ⟨n, o, h1, h2, h3, _, L, rfl, ⟨rfl, N⟩, -, hq⟩ := rm_law l s _ hw tables_1 i0 i1 i2 i3 i4 i5 G_COMPACT_STRINGS G_SIOOBE_FORMATTER s.heap s.heap.size (Nat.le_refl _) S_COMPACT_STRINGS (Old.start s) hP_2 r_G_SIOOBE_FORMATTER S_SIOOBE_FORMATTER p e ha hc hk s m _ below hf ((Spec.applies_iff_loose hf).mp happ).1 ⟨rfl, State.Warmed39.refl s, rfl, hCH, fun x hx => nomatch hx⟩ trivial
  refine ⟨n, _, h1, h2, h3, hpost _ _ _ _ _ _ ⟨Cond.after_iff.mpr rfl, Cond.after_iff.mpr (eq_i res_at (Term.int_eval (1)) rfl), trivial⟩ ⟨hq.1, hq.2.1, hq.2.2.1, (hq.2.2.2.sift fun y hy => Or.inr (N y hy)).mono (by decide) (by decide)⟩⟩
theorem main_1_1 : Claimed_1_1 := comes_1 fun _ _ _ _ _ _ h hF => ⟨h.1, hF⟩
theorem main_1_2 : Claimed_1_2 := comes_1 fun _ _ _ _ _ _ h hF => ⟨h.2.1, hF⟩
end Jvm.Pilot.@@N@@
namespace Jvm.Pilot.@@N@@
open Jvm Jvm.ClassFile Sem Op Lib Jvm.Free Jvm.Stand Jvm.Pilot.@@N@@.Jvm.D
namespace start1
open Jvm.ClassFile
def u (s : String) : CpInfo := .utf8 (stringToUtf16 s)
def gap : Nat → List CpInfo → List CpInfo
  | 0, r => r
  | n + 1, r => .unusable :: gap n r
def poolList (es : List (Nat × CpInfo)) (last : Nat) : List CpInfo := es.foldr (fun e r => gap e.1 (e.2 :: r)) (gap last [])
def pool (es : List (Nat × CpInfo)) (last : Nat) : Array CpInfo := ⟨poolList es last⟩
def fileOf (pool : Array CpInfo) (this : Nat) (attrs : Array Attribute := #[]) (ms : Array MethodInfo := #[]) (fl : Nat := 33) (sup : Nat := 0) (ifs : Array Nat := #[]) (fds : Array FieldInfo := #[]) : ClassFile where
  minorVersion := 0
  majorVersion := 65
  constantPool := pool
  accessFlags := fl
  thisClass := this
  superClass := sup
  interfaces := ifs
  fields := fds
  methods := ms
  attributes := attrs
def plain (name : String) (sup : Option ClassId) : Class where
  name := name
  kind := .ordinary
  loader := none
  accessFlags := 33
  super := sup
  interfaces := #[]
  cf := none
  fields := #[]
  methods := #[]
  instanceTypes := #[]
  staticTypes := #[]
  resolved := #[]
  callSites := []
  init := .initialized
  statics := none
  mirror := none

def pool0 : Array CpInfo := pool [(5, u "<init>"), (0, u "()V"), (1, .class_ 10), (1, u "java/lang/Object")] 113

def k0c0 : Code := ⟨0, 1, object_method_1_code, #[], #[]⟩
def k0m0 : Method := ⟨"<init>", "()V", ⟨[], none⟩, 1, some k0c0⟩
def k0 : Class := { plain "java/lang/Object" none with
  accessFlags := 33
  interfaces := #[]
  cf := some (fileOf pool0 8 #[] #[⟨1, 5, 6, #[]⟩] 33 0 #[] #[])
  fields := #[]
  methods := #[k0m0]
  instanceTypes := #[]
  staticTypes := #[]
  resolved := Array.replicate 124 none
  statics := none }

def pool1 : Array CpInfo := pool [(2, .class_ 4), (1, u "java/lang/Object"), (0, u "<init>"), (0, u "()V"), (0, .methodref 8 9), (0, .class_ 10), (0, .nameAndType 11 12), (0, u "com/example/seshat/seshat/IdempotencyKeyParsePinLaw"), (0, u "keyChar"), (0, u "(I)C"), (0, .methodref 8 14), (0, .nameAndType 15 16), (0, u "plain"), (0, u "(C)Z"), (0, .methodref 8 18), (0, .nameAndType 19 20), (0, u "width"), (0, u "(CZZ)I"), (0, .methodref 8 22), (0, .nameAndType 23 24), (0, u "wsChar"), (0, u "(II)C"), (0, .methodref 8 26), (0, .nameAndType 27 28), (0, u "put"), (0, u "([CICZZ)I"), (0, .class_ 30), (0, u "java/lang/String"), (0, .methodref 29 32), (0, .nameAndType 5 33), (0, u "([C)V"), (0, .methodref 35 36), (0, .class_ 37), (0, .nameAndType 38 39), (0, u "com/example/seshat/seshat/IdempotencyKey"), (0, u "parse"), (0, u "(Ljava/lang/String;)Lcom/example/seshat/seshat/IdempotencyKey;"), (0, .methodref 35 41), (0, .nameAndType 42 43), (0, u "value"), (0, u "()Ljava/lang/String;"), (0, .methodref 29 45), (0, .nameAndType 46 47), (0, u "equals"), (0, u "(Ljava/lang/Object;)Z"), (0, .integer 2147483647), (0, .methodref 8 50), (0, .nameAndType 51 16), (0, u "escaped"), (2, u "law"), (0, u "(IIIIII)Z")] 5

def k1m0 : Method := ⟨"<init>", "()V", ⟨[], none⟩, 1, none⟩
def k1c1 : Code := ⟨6, 20, code, #[], #[]⟩
def k1m1 : Method := ⟨"law", "(IIIIII)Z", ⟨[.int, .int, .int, .int, .int, .int], some .boolean⟩, 9, some k1c1⟩
def k1c2 : Code := ⟨3, 1, method_3_code, #[], #[]⟩
def k1m2 : Method := ⟨"keyChar", "(I)C", ⟨[.int], some .char⟩, 10, some k1c2⟩
def k1c3 : Code := ⟨2, 1, method_4_code, #[], #[]⟩
def k1m3 : Method := ⟨"plain", "(C)Z", ⟨[.char], some .boolean⟩, 10, some k1c3⟩
def k1c4 : Code := ⟨2, 1, method_5_code, #[], #[]⟩
def k1m4 : Method := ⟨"escaped", "(C)Z", ⟨[.char], some .boolean⟩, 10, some k1c4⟩
def k1c5 : Code := ⟨1, 3, method_6_code, #[], #[]⟩
def k1m5 : Method := ⟨"width", "(CZZ)I", ⟨[.char, .boolean, .boolean], some .int⟩, 10, some k1c5⟩
def k1c6 : Code := ⟨3, 5, method_7_code, #[], #[]⟩
def k1m6 : Method := ⟨"put", "([CICZZ)I", ⟨[(.array .char), .int, .char, .boolean, .boolean], some .int⟩, 10, some k1c6⟩
def k1c7 : Code := ⟨2, 2, method_8_code, #[], #[]⟩
def k1m7 : Method := ⟨"wsChar", "(II)C", ⟨[.int, .int], some .char⟩, 10, some k1c7⟩
def k1 : Class := { plain "com/example/seshat/seshat/IdempotencyKeyParsePinLaw" (some 0) with
  accessFlags := 49
  interfaces := #[]
  cf := some (fileOf pool1 8 #[] #[⟨1, 5, 6, #[]⟩, ⟨9, 54, 55, #[]⟩, ⟨10, 11, 12, #[]⟩, ⟨10, 15, 16, #[]⟩, ⟨10, 51, 16, #[]⟩, ⟨10, 19, 20, #[]⟩, ⟨10, 27, 28, #[]⟩, ⟨10, 23, 24, #[]⟩] 49 2 #[] #[])
  fields := #[]
  methods := #[k1m0, k1m1, k1m2, k1m3, k1m4, k1m5, k1m6, k1m7]
  instanceTypes := #[]
  staticTypes := #[]
  resolved := Array.replicate 61 none
  statics := none }

def pool2 : Array CpInfo := pool [(1, .class_ 2), (0, u "java/io/Serializable"), (0, .class_ 4), (0, u "java/lang/Object")] 2

def k2 : Class := { plain "java/io/Serializable" (some 0) with
  accessFlags := 1537
  interfaces := #[]
  cf := some (fileOf pool2 1 #[] #[] 1537 3 #[] #[])
  fields := #[]
  methods := #[]
  instanceTypes := #[]
  staticTypes := #[]
  resolved := Array.replicate 7 none
  statics := none }

def pool3 : Array CpInfo := pool [(1, .class_ 2), (0, u "java/lang/Comparable"), (0, .class_ 4), (0, u "java/lang/Object")] 7

def k3 : Class := { plain "java/lang/Comparable" (some 0) with
  accessFlags := 1537
  interfaces := #[]
  cf := some (fileOf pool3 1 #[] #[] 1537 3 #[] #[])
  fields := #[]
  methods := #[]
  instanceTypes := #[]
  staticTypes := #[]
  resolved := Array.replicate 12 none
  statics := none }

def pool4 : Array CpInfo := pool [(2, .class_ 4), (1, u "java/lang/CharSequence"), (42, .class_ 48), (0, u "java/lang/CharSequence$1CodePointIterator"), (10, .class_ 60), (0, u "java/lang/CharSequence$1CharIterator"), (5, .class_ 67), (0, u "java/lang/Object")] 63

def k4 : Class := { plain "java/lang/CharSequence" (some 0) with
  accessFlags := 1537
  interfaces := #[]
  cf := some (fileOf pool4 2 #[.nestMembers #[47, 59]] #[] 1537 66 #[] #[])
  fields := #[]
  methods := #[]
  instanceTypes := #[]
  staticTypes := #[]
  resolved := Array.replicate 131 none
  statics := none }

def pool5 : Array CpInfo := pool [(1, .class_ 2), (0, u "java/lang/constant/Constable"), (0, .class_ 4), (0, u "java/lang/Object")] 6

def k5 : Class := { plain "java/lang/constant/Constable" (some 0) with
  accessFlags := 1537
  interfaces := #[]
  cf := some (fileOf pool5 1 #[] #[] 1537 3 #[] #[])
  fields := #[]
  methods := #[]
  instanceTypes := #[]
  staticTypes := #[]
  resolved := Array.replicate 11 none
  statics := none }

def pool6 : Array CpInfo := pool [(1, .class_ 2), (0, u "java/lang/constant/ConstantDesc"), (0, .class_ 4), (0, u "java/lang/Object")] 32

def k6 : Class := { plain "java/lang/constant/ConstantDesc" (some 0) with
  accessFlags := 1537
  interfaces := #[]
  cf := some (fileOf pool6 1 #[] #[] 1537 3 #[] #[])
  fields := #[]
  methods := #[]
  instanceTypes := #[]
  staticTypes := #[]
  resolved := Array.replicate 37 none
  statics := none }

def pool7 : Array CpInfo := pool [(1, .methodref 2 3), (0, .class_ 4), (0, .nameAndType 5 6), (0, u "java/lang/Object"), (0, u "<init>"), (0, u "()V"), (2, .fieldref 10 11), (0, .class_ 12), (0, .nameAndType 13 14), (0, u "java/lang/String"), (0, u "value"), (0, u "[B"), (0, .fieldref 10 16), (0, .nameAndType 17 18), (0, u "coder"), (0, u "B"), (2, u "hash"), (0, u "I"), (2, u "hashIsZero"), (0, u "Z"), (0, .methodref 10 28), (0, .nameAndType 5 29), (0, u "([CIILjava/lang/Void;)V"), (8, .fieldref 10 39), (0, .nameAndType 40 26), (0, u "COMPACT_STRINGS"), (1, .class_ 44), (1, u "java/lang/StringUTF16"), (0, u "compress"), (1, .methodref 42 48), (0, .nameAndType 49 50), (0, u "coderFromArrayLen"), (0, u "([BI)B"), (3, .methodref 55 56), (0, .class_ 57), (0, .nameAndType 58 59), (0, u "java/util/Arrays"), (0, u "copyOfRange"), (0, u "([BII)[B"), (47, .class_ 109), (1, u "java/lang/StringLatin1"), (32, u "()Z"), (34, .methodref 42 178), (0, .nameAndType 45 179), (0, u "([CII)[B"), (31, u "([BB)V"), (122, u "()I"), (0, .methodref 10 336), (0, .nameAndType 17 337), (0, u "()B"), (2, u "()[B"), (22, u "([BI)C"), (12, u "([BI[BII)I"), (14, u "(II)V"), (35, u "(I)C"), (61, .methodref 10 490), (0, .nameAndType 5 491), (0, u "(Ljava/lang/AbstractStringBuilder;Ljava/lang/Void;)V"), (0, .methodref 10 493), (0, .nameAndType 494 142), (0, u "isLatin1"), (0, .methodref 107 496), (0, .nameAndType 497 363), (0, u "charAt"), (3, u "checkIndex"), (3, .methodref 10 506), (0, .nameAndType 507 334), (0, u "length"), (5, u "checkFromToIndex"), (7, .methodref 10 522), (0, .nameAndType 523 524), (0, u "checkBoundsBeginEnd"), (0, u "(III)V"), (16, .methodref 107 542), (0, .nameAndType 543 544), (0, u "equals"), (0, u "([B[B)Z"), (4, .methodref 550 506), (0, .class_ 551), (0, u "java/lang/AbstractStringBuilder"), (0, .methodref 550 553), (0, .nameAndType 554 340), (0, u "getValue"), (4, .class_ 561), (1, u "jdk/internal/util/ArraysSupport"), (0, u "mismatch"), (10, u "(Ljava/lang/Object;)Z"), (1, .class_ 576), (0, u "java/lang/CharSequence"), (22, u "CASE_INSENSITIVE_ORDER"), (0, u "Ljava/util/Comparator;"), (6, .methodref 559 608), (0, .nameAndType 562 376), (15, .methodref 10 625), (0, .nameAndType 626 627), (0, u "startsWith"), (0, u "(Ljava/lang/String;I)Z"), (55, u "substring"), (0, u "(II)Ljava/lang/String;"), (0, .methodref 107 686), (0, .nameAndType 687 688), (0, u "newString"), (0, u "([BII)Ljava/lang/String;"), (3, u "isEmpty"), (317, u "([C)V"), (36, .methodref 550 493), (5, .fieldref 1054 1055), (0, .class_ 1056), (0, .nameAndType 1057 1058), (0, u "jdk/internal/util/Preconditions"), (0, u "SIOOBE_FORMATTER"), (0, u "Ljava/util/function/BiFunction;"), (0, .methodref 1054 1060), (0, .nameAndType 501 1061), (0, u "(IILjava/util/function/BiFunction;)I"), (0, .methodref 1054 1063), (0, .nameAndType 513 1064), (0, u "(IIILjava/util/function/BiFunction;)I"), (36, u "serialPersistentFields"), (0, u "[Ljava/io/ObjectStreamField;"), (0, .class_ 1104), (0, u "java/lang/String$CaseInsensitiveComparator"), (1, .class_ 1107), (0, u "java/io/Serializable"), (0, .class_ 1109), (0, u "java/lang/Comparable"), (0, .class_ 1111), (0, u "java/lang/constant/Constable"), (0, .class_ 1113), (0, u "java/lang/constant/ConstantDesc"), (2, u "serialVersionUID"), (0, u "J"), (3, u "REPL"), (0, u "C"), (2, u "LATIN1"), (1, u "UTF16"), (105, u "(Ljava/lang/StringBuilder;)V"), (23, u "(Ljava/lang/String;)Z")] 193

def k7m0 : Method := ⟨"<init>", "()V", ⟨[], none⟩, 1, none⟩
def k7c1 : Code := ⟨5, 2, jdk_42_method_3_code, #[], #[]⟩
def k7m1 : Method := ⟨"<init>", "([C)V", ⟨[(.array .char)], none⟩, 1, some k7c1⟩
def k7c2 : Code := ⟨3, 2, jdk_42_method_53_code, #[], #[]⟩
def k7m2 : Method := ⟨"<init>", "(Ljava/lang/StringBuilder;)V", ⟨[(.object "java/lang/StringBuilder")], none⟩, 1, some k7c2⟩
def k7c3 : Code := ⟨2, 1, jdk_42_method_54_code, #[], #[]⟩
def k7m3 : Method := ⟨"length", "()I", ⟨[], some .int⟩, 1, some k7c3⟩
def k7c4 : Code := ⟨1, 1, jdk_42_method_55_code, #[], #[]⟩
def k7m4 : Method := ⟨"isEmpty", "()Z", ⟨[], some .boolean⟩, 1, some k7c4⟩
def k7c5 : Code := ⟨2, 2, jdk_42_method_56_code, #[], #[]⟩
def k7m5 : Method := ⟨"charAt", "(I)C", ⟨[.int], some .char⟩, 1, some k7c5⟩
def k7c6 : Code := ⟨2, 3, jdk_42_method_66_code, #[], #[]⟩
def k7m6 : Method := ⟨"equals", "(Ljava/lang/Object;)Z", ⟨[(.object "java/lang/Object")], some .boolean⟩, 1, some k7c6⟩
def k7c7 : Code := ⟨5, 8, jdk_42_method_75_code, #[], #[]⟩
def k7m7 : Method := ⟨"startsWith", "(Ljava/lang/String;I)Z", ⟨[(.object "java/lang/String"), .int], some .boolean⟩, 1, some k7c7⟩
def k7c8 : Code := ⟨3, 2, jdk_42_method_76_code, #[], #[]⟩
def k7m8 : Method := ⟨"startsWith", "(Ljava/lang/String;)Z", ⟨[(.object "java/lang/String")], some .boolean⟩, 1, some k7c8⟩
def k7c9 : Code := ⟨3, 5, jdk_42_method_92_code, #[], #[]⟩
def k7m9 : Method := ⟨"substring", "(II)Ljava/lang/String;", ⟨[.int, .int], some (.object "java/lang/String")⟩, 1, some k7c9⟩
def k7c10 : Code := ⟨4, 6, jdk_42_method_149_code, #[], #[]⟩
def k7m10 : Method := ⟨"<init>", "([CIILjava/lang/Void;)V", ⟨[(.array .char), .int, .int, (.object "java/lang/Void")], none⟩, 2, some k7c10⟩
def k7c11 : Code := ⟨5, 5, jdk_42_method_150_code, #[], #[]⟩
def k7m11 : Method := ⟨"<init>", "(Ljava/lang/AbstractStringBuilder;Ljava/lang/Void;)V", ⟨[(.object "java/lang/AbstractStringBuilder"), (.object "java/lang/Void")], none⟩, 0, some k7c11⟩
def k7c12 : Code := ⟨2, 3, jdk_42_method_151_code, #[], #[]⟩
def k7m12 : Method := ⟨"<init>", "([BB)V", ⟨[(.array .byte), .byte], none⟩, 0, some k7c12⟩
def k7c13 : Code := ⟨1, 1, jdk_42_method_152_code, #[], #[]⟩
def k7m13 : Method := ⟨"coder", "()B", ⟨[], some .byte⟩, 0, some k7c13⟩
def k7c14 : Code := ⟨1, 1, jdk_42_method_154_code, #[], #[]⟩
def k7m14 : Method := ⟨"isLatin1", "()Z", ⟨[], some .boolean⟩, 0, some k7c14⟩
def k7c15 : Code := ⟨3, 2, jdk_42_method_155_code, #[], #[]⟩
def k7m15 : Method := ⟨"checkIndex", "(II)V", ⟨[.int, .int], none⟩, 8, some k7c15⟩
def k7c16 : Code := ⟨4, 3, jdk_42_method_158_code, #[], #[]⟩
def k7m16 : Method := ⟨"checkBoundsBeginEnd", "(III)V", ⟨[.int, .int, .int], none⟩, 8, some k7c16⟩
def k7 : Class := { plain "java/lang/String" (some 0) with
  accessFlags := 49
  interfaces := #[2, 3, 4, 5, 6]
  cf := some (fileOf pool7 10 #[.nestMembers #[1103]] #[⟨1, 5, 6, #[]⟩, ⟨1, 5, 1010, #[]⟩, ⟨1, 5, 1233, #[]⟩, ⟨1, 507, 334, #[]⟩, ⟨1, 692, 142, #[]⟩, ⟨1, 497, 427, #[]⟩, ⟨1, 543, 573, #[]⟩, ⟨1, 626, 627, #[]⟩, ⟨1, 626, 1257, #[]⟩, ⟨1, 683, 684, #[]⟩, ⟨2, 5, 29, #[]⟩, ⟨0, 5, 491, #[]⟩, ⟨0, 5, 211, #[]⟩, ⟨0, 17, 337, #[]⟩, ⟨0, 494, 142, #[]⟩, ⟨8, 501, 391, #[]⟩, ⟨8, 523, 524, #[]⟩] 49 2 #[1106, 1108, 575, 1110, 1112] #[⟨18, 13, 14, #[]⟩, ⟨18, 17, 18, #[]⟩, ⟨2, 21, 22, #[]⟩, ⟨2, 25, 26, #[]⟩, ⟨26, 1116, 1117, #[]⟩, ⟨24, 40, 26, #[]⟩, ⟨26, 1101, 1102, #[]⟩, ⟨26, 1121, 1122, #[]⟩, ⟨25, 599, 600, #[]⟩, ⟨24, 1125, 18, #[]⟩, ⟨24, 1127, 18, #[]⟩])
  fields := #[⟨"value", (.array .byte), 18, 0, 0⟩, ⟨"coder", .byte, 18, 1, 0⟩, ⟨"hash", .int, 2, 2, 0⟩, ⟨"hashIsZero", .boolean, 2, 3, 0⟩, ⟨"serialVersionUID", .long, 26, 0, 0⟩, ⟨"COMPACT_STRINGS", .boolean, 24, 1, 0⟩, ⟨"serialPersistentFields", (.array (.object "java/io/ObjectStreamField")), 26, 2, 0⟩, ⟨"REPL", .char, 26, 3, 0⟩, ⟨"CASE_INSENSITIVE_ORDER", (.object "java/util/Comparator"), 25, 4, 0⟩, ⟨"LATIN1", .byte, 24, 5, 0⟩, ⟨"UTF16", .byte, 24, 6, 0⟩]
  methods := #[k7m0, k7m1, k7m2, k7m3, k7m4, k7m5, k7m6, k7m7, k7m8, k7m9, k7m10, k7m11, k7m12, k7m13, k7m14, k7m15, k7m16]
  instanceTypes := #[(.array .byte), .byte, .int, .boolean]
  staticTypes := #[.long, .boolean, (.array (.object "java/io/ObjectStreamField")), .char, (.object "java/util/Comparator"), .byte, .byte]
  resolved := Array.replicate 1451 none
  statics := some 0 }

def pool8 : Array CpInfo := pool [(6, .class_ 8), (1, u "java/lang/Object"), (0, u "<init>"), (0, u "()V"), (1, .class_ 14), (1, u "java/lang/StringUTF16"), (31, u "$assertionsDisabled"), (0, u "Z"), (13, u "HI_BYTE_SHIFT"), (0, u "I"), (2, u "LO_BYTE_SHIFT"), (49, .methodref 12 116), (0, .nameAndType 117 118), (0, u "compress"), (0, u "([CI[BII)I"), (3, u "([CII)[B"), (138, u "coderFromArrayLen"), (0, u "([BI)B"), (106, .class_ 371), (1, u "java/lang/StringUTF16$LinesSpliterator"), (58, u "MAX_LENGTH"), (196, .class_ 628), (0, u "java/lang/StringUTF16$CodePointsSpliterator"), (0, .class_ 630), (0, u "java/lang/StringUTF16$CharsSpliterator")] 4

def k8m0 : Method := ⟨"<init>", "()V", ⟨[], none⟩, 0, none⟩
def k8c1 : Code := ⟨2, 2, jdk_52_method_15_code, #[], #[]⟩
def k8m1 : Method := ⟨"coderFromArrayLen", "([BI)B", ⟨[(.array .byte), .int], some .byte⟩, 8, some k8c1⟩
def k8c2 : Code := ⟨5, 6, jdk_52_method_16_code, #[], #[]⟩
def k8m2 : Method := ⟨"compress", "([CII)[B", ⟨[(.array .char), .int, .int], some (.array .byte)⟩, 9, some k8c2⟩
def k8c3 : Code := ⟨3, 7, jdk_52_method_21_code, #[], #[]⟩
def k8m3 : Method := ⟨"compress", "([CI[BII)I", ⟨[(.array .char), .int, (.array .byte), .int, .int], some .int⟩, 9, some k8c3⟩
def k8 : Class := { plain "java/lang/StringUTF16" (some 0) with
  accessFlags := 48
  interfaces := #[]
  cf := some (fileOf pool8 12 #[.nestMembers #[627, 629, 369]] #[⟨0, 9, 10, #[]⟩, ⟨8, 261, 262, #[]⟩, ⟨9, 117, 122, #[]⟩, ⟨9, 117, 118, #[]⟩] 48 6 #[] #[⟨26, 61, 62, #[]⟩, ⟨26, 65, 62, #[]⟩, ⟨24, 430, 62, #[]⟩, ⟨4120, 46, 47, #[]⟩])
  fields := #[⟨"HI_BYTE_SHIFT", .int, 26, 0, 0⟩, ⟨"LO_BYTE_SHIFT", .int, 26, 1, 0⟩, ⟨"MAX_LENGTH", .int, 24, 2, 0⟩, ⟨"$assertionsDisabled", .boolean, 4120, 3, 0⟩]
  methods := #[k8m0, k8m1, k8m2, k8m3]
  instanceTypes := #[]
  staticTypes := #[.int, .int, .int, .boolean]
  resolved := Array.replicate 635 none
  statics := none }

def pool9 : Array CpInfo := pool [(1, .methodref 2 3), (0, .class_ 4), (0, .nameAndType 5 6), (0, u "java/lang/Object"), (0, u "<init>"), (0, u "()V"), (0, .class_ 8), (0, u "java/lang/Record")] 13

def k9c0 : Code := ⟨1, 1, jdk_30_method_1_code, #[], #[]⟩
def k9m0 : Method := ⟨"<init>", "()V", ⟨[], none⟩, 4, some k9c0⟩
def k9 : Class := { plain "java/lang/Record" (some 0) with
  accessFlags := 1057
  interfaces := #[]
  cf := some (fileOf pool9 7 #[] #[⟨4, 5, 6, #[]⟩] 1057 2 #[] #[])
  fields := #[]
  methods := #[k9m0]
  instanceTypes := #[]
  staticTypes := #[]
  resolved := Array.replicate 22 none
  statics := none }

def pool10 : Array CpInfo := pool [(1, .methodref 2 3), (0, .class_ 4), (0, .nameAndType 5 6), (0, u "java/lang/Record"), (0, u "<init>"), (0, u "()V"), (0, .string 8), (0, u "value"), (0, .methodref 10 11), (0, .class_ 12), (0, .nameAndType 13 14), (0, u "java/util/Objects"), (0, u "requireNonNull"), (0, u "(Ljava/lang/Object;Ljava/lang/String;)Ljava/lang/Object;"), (0, .methodref 16 17), (0, .class_ 18), (0, .nameAndType 19 20), (0, u "java/lang/String"), (0, u "isEmpty"), (0, u "()Z"), (0, .methodref 16 22), (0, .nameAndType 23 24), (0, u "length"), (0, u "()I"), (0, .class_ 26), (0, u "com/example/seshat/seshat/IdempotencyKey"), (7, .nameAndType 5 35), (0, u "(Ljava/lang/String;)V"), (0, .methodref 16 37), (0, .nameAndType 38 39), (0, u "charAt"), (0, u "(I)C"), (14, .fieldref 25 55), (0, .nameAndType 8 56), (0, u "Ljava/lang/String;"), (0, .string 58), (0, u "fieldValue"), (0, .methodref 25 60), (0, .nameAndType 61 62), (0, u "trimWhitespace"), (0, u "(Ljava/lang/String;)Ljava/lang/String;"), (0, .string 64), (0, u "\""), (0, .methodref 16 66), (0, .nameAndType 67 68), (0, u "startsWith"), (0, u "(Ljava/lang/String;)Z"), (0, .methodref 25 70), (0, .nameAndType 71 62), (0, u "unquote"), (0, .methodref 25 73), (0, .nameAndType 74 62), (0, u "checkBare"), (0, .methodref 25 34), (0, .methodref 25 77), (0, .nameAndType 78 79), (0, u "isWhitespace"), (0, u "(C)Z"), (0, .methodref 16 81), (0, .nameAndType 82 83), (0, u "substring"), (0, u "(II)Ljava/lang/String;"), (0, .class_ 85), (0, u "java/lang/StringBuilder"), (0, .methodref 84 87), (0, .nameAndType 5 88), (0, u "(I)V"), (0, .methodref 25 90), (0, .nameAndType 91 79), (0, u "isEscapable"), (1, .methodref 84 94), (0, .nameAndType 95 96), (0, u "append"), (0, u "(C)Ljava/lang/StringBuilder;"), (2, .methodref 84 100), (0, .nameAndType 101 102), (0, u "toString"), (0, u "()Ljava/lang/String;"), (12, u "MAX_LENGTH"), (0, u "I"), (6, u "parse"), (0, u "(Ljava/lang/String;)Lcom/example/seshat/seshat/IdempotencyKey;")] 31

def k10c0 : Code := ⟨7, 4, prog_3_method_1_code, #[], #[]⟩
def k10m0 : Method := ⟨"<init>", "(Ljava/lang/String;)V", ⟨[(.object "java/lang/String")], none⟩, 1, some k10c0⟩
def k10c1 : Code := ⟨3, 3, prog_3_method_2_code, #[], #[]⟩
def k10m1 : Method := ⟨"parse", "(Ljava/lang/String;)Lcom/example/seshat/seshat/IdempotencyKey;", ⟨[(.object "java/lang/String")], some (.object "com/example/seshat/seshat/IdempotencyKey")⟩, 9, some k10c1⟩
def k10c2 : Code := ⟨3, 3, prog_3_method_3_code, #[], #[]⟩
def k10m2 : Method := ⟨"trimWhitespace", "(Ljava/lang/String;)Ljava/lang/String;", ⟨[(.object "java/lang/String")], some (.object "java/lang/String")⟩, 10, some k10c2⟩
def k10c3 : Code := ⟨2, 1, prog_3_method_4_code, #[], #[]⟩
def k10m3 : Method := ⟨"isWhitespace", "(C)Z", ⟨[.char], some .boolean⟩, 10, some k10c3⟩
def k10c4 : Code := ⟨4, 5, prog_3_method_5_code, #[], #[]⟩
def k10m4 : Method := ⟨"unquote", "(Ljava/lang/String;)Ljava/lang/String;", ⟨[(.object "java/lang/String")], some (.object "java/lang/String")⟩, 10, some k10c4⟩
def k10c5 : Code := ⟨2, 1, prog_3_method_6_code, #[], #[]⟩
def k10m5 : Method := ⟨"isEscapable", "(C)Z", ⟨[.char], some .boolean⟩, 10, some k10c5⟩
def k10c6 : Code := ⟨3, 3, prog_3_method_7_code, #[], #[]⟩
def k10m6 : Method := ⟨"checkBare", "(Ljava/lang/String;)Ljava/lang/String;", ⟨[(.object "java/lang/String")], some (.object "java/lang/String")⟩, 10, some k10c6⟩
def k10c7 : Code := ⟨1, 1, prog_3_method_11_code, #[], #[]⟩
def k10m7 : Method := ⟨"value", "()Ljava/lang/String;", ⟨[], some (.object "java/lang/String")⟩, 1, some k10c7⟩
def k10 : Class := { plain "com/example/seshat/seshat/IdempotencyKey" (some 9) with
  accessFlags := 49
  interfaces := #[]
  cf := some (fileOf pool10 25 #[] #[⟨1, 5, 35, #[]⟩, ⟨9, 123, 124, #[]⟩, ⟨10, 61, 62, #[]⟩, ⟨10, 78, 79, #[]⟩, ⟨10, 71, 62, #[]⟩, ⟨10, 91, 79, #[]⟩, ⟨10, 74, 62, #[]⟩, ⟨1, 8, 102, #[]⟩] 49 2 #[] #[⟨18, 8, 56, #[]⟩, ⟨25, 115, 116, #[]⟩])
  fields := #[⟨"value", (.object "java/lang/String"), 18, 0, 0⟩, ⟨"MAX_LENGTH", .int, 25, 0, 0⟩]
  methods := #[k10m0, k10m1, k10m2, k10m3, k10m4, k10m5, k10m6, k10m7]
  instanceTypes := #[(.object "java/lang/String")]
  staticTypes := #[.int]
  resolved := Array.replicate 156 none
  statics := none }

def pool11 : Array CpInfo := pool [(2, .class_ 4), (1, u "java/lang/Object"), (0, u "<init>"), (0, u "()V"), (35, .class_ 44), (1, u "java/util/Objects"), (0, u "requireNonNull"), (48, u "(Ljava/lang/Object;Ljava/lang/String;)Ljava/lang/Object;")] 89

def k11m0 : Method := ⟨"<init>", "()V", ⟨[], none⟩, 2, none⟩
def k11c1 : Code := ⟨3, 2, jdk_31_method_11_code, #[], #[]⟩
def k11m1 : Method := ⟨"requireNonNull", "(Ljava/lang/Object;Ljava/lang/String;)Ljava/lang/Object;", ⟨[(.object "java/lang/Object"), (.object "java/lang/String")], some (.object "java/lang/Object")⟩, 9, some k11c1⟩
def k11 : Class := { plain "java/util/Objects" (some 0) with
  accessFlags := 49
  interfaces := #[]
  cf := some (fileOf pool11 42 #[] #[⟨2, 5, 6, #[]⟩, ⟨9, 45, 94, #[]⟩] 49 2 #[] #[])
  fields := #[]
  methods := #[k11m0, k11m1]
  instanceTypes := #[]
  staticTypes := #[]
  resolved := Array.replicate 184 none
  statics := none }

def pool12 : Array CpInfo := pool [(1, .class_ 2), (0, u "java/lang/String"), (1, .class_ 6), (1, u "java/lang/Object"), (0, u "<init>"), (0, u "()V"), (0, .methodref 1 10), (0, .nameAndType 11 12), (0, u "checkIndex"), (0, u "(II)V"), (1, .class_ 16), (1, u "java/lang/StringLatin1"), (36, u "([BI)C"), (36, u "canEncode"), (14, u "(C)Z"), (6, .methodref 1 113), (0, .nameAndType 7 114), (0, u "([BB)V"), (6, u "$assertionsDisabled"), (0, u "Z"), (8, .class_ 133), (1, u "java/util/Arrays"), (62, u "newString"), (0, u "([BII)Ljava/lang/String;"), (23, .class_ 223), (1, u "java/lang/StringLatin1$LinesSpliterator"), (8, .methodref 131 233), (0, .nameAndType 234 235), (0, u "copyOfRange"), (0, u "([BII)[B"), (16, u "charAt"), (28, u "equals"), (0, u "([B[B)Z"), (107, .class_ 391), (0, u "java/lang/StringLatin1$CharsSpliterator")] 3

def k12m0 : Method := ⟨"<init>", "()V", ⟨[], none⟩, 0, none⟩
def k12c1 : Code := ⟨2, 2, jdk_43_method_2_code, #[], #[]⟩
def k12m1 : Method := ⟨"charAt", "([BI)C", ⟨[(.array .byte), .int], some .char⟩, 9, some k12c1⟩
def k12c2 : Code := ⟨2, 1, jdk_43_method_3_code, #[], #[]⟩
def k12m2 : Method := ⟨"canEncode", "(C)Z", ⟨[.char], some .boolean⟩, 9, some k12c2⟩
def k12c3 : Code := ⟨3, 3, jdk_43_method_13_code, #[], #[]⟩
def k12m3 : Method := ⟨"equals", "([B[B)Z", ⟨[(.array .byte), (.array .byte)], some .boolean⟩, 9, some k12c3⟩
def k12c4 : Code := ⟨6, 3, jdk_43_method_47_code, #[], #[]⟩
def k12m4 : Method := ⟨"newString", "([BII)Ljava/lang/String;", ⟨[(.array .byte), .int, .int], some (.object "java/lang/String")⟩, 9, some k12c4⟩
def k12 : Class := { plain "java/lang/StringLatin1" (some 0) with
  accessFlags := 48
  interfaces := #[]
  cf := some (fileOf pool12 14 #[.nestMembers #[390, 221]] #[⟨0, 7, 8, #[]⟩, ⟨9, 252, 53, #[]⟩, ⟨9, 90, 105, #[]⟩, ⟨9, 281, 282, #[]⟩, ⟨9, 196, 197, #[]⟩] 48 4 #[] #[⟨4120, 121, 122, #[]⟩])
  fields := #[⟨"$assertionsDisabled", .boolean, 4120, 0, 0⟩]
  methods := #[k12m0, k12m1, k12m2, k12m3, k12m4]
  instanceTypes := #[]
  staticTypes := #[.boolean]
  resolved := Array.replicate 395 none
  statics := none }

def pool13 : Array CpInfo := pool [(2, .class_ 4), (1, u "java/lang/Object"), (0, u "<init>"), (0, u "()V"), (17, .class_ 26), (1, u "jdk/internal/util/Preconditions"), (6, u "checkIndex"), (13, u "checkFromToIndex"), (7, .class_ 56), (0, u "jdk/internal/util/Preconditions$4"), (57, .class_ 115), (0, u "jdk/internal/util/Preconditions$1"), (7, u "SIOOBE_FORMATTER"), (0, u "Ljava/util/function/BiFunction;"), (0, .class_ 126), (0, u "jdk/internal/util/Preconditions$2"), (3, u "AIOOBE_FORMATTER"), (0, .class_ 132), (0, u "jdk/internal/util/Preconditions$3"), (3, u "IOOBE_FORMATTER"), (41, u "(IILjava/util/function/BiFunction;)I"), (4, u "(IIILjava/util/function/BiFunction;)I")] 10

def k13m0 : Method := ⟨"<init>", "()V", ⟨[], none⟩, 1, none⟩
def k13c1 : Code := ⟨3, 3, jdk_41_method_11_code, #[], #[]⟩
def k13m1 : Method := ⟨"checkIndex", "(IILjava/util/function/BiFunction;)I", ⟨[.int, .int, (.object "java/util/function/BiFunction")], some .int⟩, 9, some k13c1⟩
def k13c2 : Code := ⟨4, 4, jdk_41_method_12_code, #[], #[]⟩
def k13m2 : Method := ⟨"checkFromToIndex", "(IIILjava/util/function/BiFunction;)I", ⟨[.int, .int, .int, (.object "java/util/function/BiFunction")], some .int⟩, 9, some k13c2⟩
def k13 : Class := { plain "jdk/internal/util/Preconditions" (some 0) with
  accessFlags := 33
  interfaces := #[]
  cf := some (fileOf pool13 24 #[.nestMembers #[55, 131, 125, 114]] #[⟨1, 5, 6, #[]⟩, ⟨9, 33, 178, #[]⟩, ⟨9, 47, 183, #[]⟩] 33 2 #[] #[⟨25, 123, 124, #[]⟩, ⟨25, 130, 124, #[]⟩, ⟨25, 136, 124, #[]⟩])
  fields := #[⟨"SIOOBE_FORMATTER", (.object "java/util/function/BiFunction"), 25, 0, 0⟩, ⟨"AIOOBE_FORMATTER", (.object "java/util/function/BiFunction"), 25, 1, 0⟩, ⟨"IOOBE_FORMATTER", (.object "java/util/function/BiFunction"), 25, 2, 0⟩]
  methods := #[k13m0, k13m1, k13m2]
  instanceTypes := #[]
  staticTypes := #[(.object "java/util/function/BiFunction"), (.object "java/util/function/BiFunction"), (.object "java/util/function/BiFunction")]
  resolved := Array.replicate 194 none
  statics := some 1 }

def pool14 : Array CpInfo := pool [(2, .class_ 4), (1, u "java/lang/Object"), (0, u "<init>"), (0, u "()V"), (7, .class_ 16), (1, u "java/util/Arrays"), (57, .class_ 76), (1, u "java/util/Arrays$NaturalOrder"), (36, .class_ 115), (1, u "java/util/Arrays$LegacyMergeSort"), (1, u "Z"), (21, u "copyOfRange"), (10, .methodref 151 152), (0, .class_ 153), (0, .nameAndType 154 155), (0, u "java/lang/System"), (0, u "arraycopy"), (0, u "(Ljava/lang/Object;ILjava/lang/Object;II)V"), (148, .methodref 305 306), (0, .class_ 307), (0, .nameAndType 308 309), (0, u "java/lang/Math"), (0, u "min"), (0, u "(II)I"), (29, .methodref 14 340), (0, .nameAndType 341 342), (0, u "copyOfRangeByte"), (0, u "([BII)[B"), (0, .methodref 14 344), (0, .nameAndType 345 346), (0, u "checkLength"), (0, u "(II)V"), (28, .class_ 376), (0, u "java/util/Arrays$ArrayList"), (68, u "$assertionsDisabled"), (269, u "MIN_ARRAY_SORT_GRAN"), (0, u "I"), (2, u "INSERTIONSORT_THRESHOLD"), (255, .class_ 976), (0, u "java/util/Arrays$ArrayItr")] 52

def k14m0 : Method := ⟨"<init>", "()V", ⟨[], none⟩, 2, none⟩
def k14c1 : Code := ⟨4, 2, jdk_65_method_131_code, #[], #[]⟩
def k14m1 : Method := ⟨"checkLength", "(II)V", ⟨[.int, .int], none⟩, 10, some k14c1⟩
def k14c2 : Code := ⟨3, 3, jdk_65_method_132_code, #[], #[]⟩
def k14m2 : Method := ⟨"copyOfRange", "([BII)[B", ⟨[(.array .byte), .int, .int], some (.array .byte)⟩, 9, some k14c2⟩
def k14c3 : Code := ⟨6, 5, jdk_65_method_133_code, #[], #[]⟩
def k14m3 : Method := ⟨"copyOfRangeByte", "([BII)[B", ⟨[(.array .byte), .int, .int], some (.array .byte)⟩, 10, some k14c3⟩
def k14 : Class := { plain "java/util/Arrays" (some 0) with
  accessFlags := 49
  interfaces := #[]
  cf := some (fileOf pool14 14 #[.nestMembers #[975, 375, 113, 74]] #[⟨2, 5, 6, #[]⟩, ⟨10, 345, 346, #[]⟩, ⟨9, 139, 342, #[]⟩, ⟨10, 341, 342, #[]⟩] 49 2 #[] #[⟨26, 715, 716, #[]⟩, ⟨26, 719, 716, #[]⟩, ⟨4120, 445, 117, #[]⟩])
  fields := #[⟨"MIN_ARRAY_SORT_GRAN", .int, 26, 0, 0⟩, ⟨"INSERTIONSORT_THRESHOLD", .int, 26, 1, 0⟩, ⟨"$assertionsDisabled", .boolean, 4120, 2, 0⟩]
  methods := #[k14m0, k14m1, k14m2, k14m3]
  instanceTypes := #[]
  staticTypes := #[.int, .int, .boolean]
  resolved := Array.replicate 1029 none
  statics := none }

def pool15 : Array CpInfo := pool [(1, .class_ 2), (0, u "java/lang/Math"), (1, .class_ 6), (1, u "java/lang/Object"), (0, u "<init>"), (0, u "()V"), (89, .class_ 100), (1, u "java/lang/Math$RandomNumberGeneratorHolder"), (71, u "negativeZeroFloatBits"), (0, u "J"), (2, u "negativeZeroDoubleBits"), (24, u "min"), (43, u "$assertionsDisabled"), (0, u "Z"), (88, u "(II)I"), (2, u "twoToTheDoubleScaleDown"), (0, u "D"), (4, u "twoToTheDoubleScaleUp"), (9, u "E"), (3, u "PI"), (2, u "TAU"), (2, u "DEGREES_TO_RADIANS"), (0, u "RADIANS_TO_DEGREES")] 94

def k15m0 : Method := ⟨"<init>", "()V", ⟨[], none⟩, 2, none⟩
def k15c1 : Code := ⟨2, 2, jdk_29_method_69_code, #[], #[]⟩
def k15m1 : Method := ⟨"min", "(II)I", ⟨[.int, .int], some .int⟩, 9, some k15c1⟩
def k15 : Class := { plain "java/lang/Math" (some 0) with
  accessFlags := 49
  interfaces := #[]
  cf := some (fileOf pool15 1 #[.nestMembers #[98]] #[⟨2, 7, 8, #[]⟩, ⟨9, 201, 335, #[]⟩] 49 4 #[] #[⟨25, 354, 339, #[]⟩, ⟨25, 358, 339, #[]⟩, ⟨25, 361, 339, #[]⟩, ⟨26, 364, 339, #[]⟩, ⟨26, 365, 339, #[]⟩, ⟨26, 172, 173, #[]⟩, ⟨26, 176, 173, #[]⟩, ⟨8, 344, 339, #[]⟩, ⟨8, 338, 339, #[]⟩, ⟨4120, 245, 246, #[]⟩])
  fields := #[⟨"E", .double, 25, 0, 0⟩, ⟨"PI", .double, 25, 1, 0⟩, ⟨"TAU", .double, 25, 2, 0⟩, ⟨"DEGREES_TO_RADIANS", .double, 26, 3, 0⟩, ⟨"RADIANS_TO_DEGREES", .double, 26, 4, 0⟩, ⟨"negativeZeroFloatBits", .long, 26, 5, 0⟩, ⟨"negativeZeroDoubleBits", .long, 26, 6, 0⟩, ⟨"twoToTheDoubleScaleUp", .double, 8, 7, 0⟩, ⟨"twoToTheDoubleScaleDown", .double, 8, 8, 0⟩, ⟨"$assertionsDisabled", .boolean, 4120, 9, 0⟩]
  methods := #[k15m0, k15m1]
  instanceTypes := #[]
  staticTypes := #[.double, .double, .double, .double, .double, .long, .long, .double, .double, .boolean]
  resolved := Array.replicate 460 none
  statics := none }

def pool16 : Array CpInfo := pool [(2, .class_ 4), (1, u "java/lang/Object"), (0, u "<init>"), (0, u "()V"), (1, .class_ 10), (1, u "java/lang/System"), (0, u "allowSecurityManager"), (0, u "I"), (16, u "cons"), (0, u "Ljava/io/Console;"), (77, .class_ 110), (1, u "java/lang/System$CallersHolder"), (43, u "initialErrStream"), (0, u "Ljava/io/PrintStream;"), (19, u "security"), (0, u "Ljava/lang/SecurityManager;"), (31, .class_ 209), (0, u "java/lang/System$1"), (7, u "props"), (0, u "Ljava/util/Properties;"), (2, u "lineSeparator"), (0, u "Ljava/lang/String;"), (96, .class_ 321), (1, u "java/lang/System$LoggerFinder"), (5, .class_ 328), (0, u "java/lang/System$Logger"), (67, u "err"), (2, u "out"), (91, u "notSupportedJnuEncoding"), (15, u "in"), (17, u "initialIn"), (0, u "Ljava/io/InputStream;"), (35, u "bootLayer"), (0, u "Ljava/lang/ModuleLayer;"), (99, .class_ 664), (0, u "java/lang/System$2"), (9, u "NEVER"), (2, u "MAYBE"), (49, u "arraycopy"), (0, u "(Ljava/lang/Object;ILjava/lang/Object;II)V"), (72, .class_ 802), (0, u "java/lang/System$Logger$Level")] 31

def k16m0 : Method := ⟨"<init>", "()V", ⟨[], none⟩, 2, none⟩
def k16m1 : Method := ⟨"arraycopy", "(Ljava/lang/Object;ILjava/lang/Object;II)V", ⟨[(.object "java/lang/Object"), .int, (.object "java/lang/Object"), .int, .int], none⟩, 265, none⟩
def k16 : Class := { plain "java/lang/System" (some 0) with
  accessFlags := 49
  interfaces := #[]
  cf := some (fileOf pool16 8 #[.nestMembers #[319, 327, 801, 108, 663, 208]] #[⟨2, 5, 6, #[]⟩, ⟨265, 727, 728, #[]⟩] 49 2 #[] #[⟨25, 507, 526, #[]⟩, ⟨25, 399, 155, #[]⟩, ⟨25, 396, 155, #[]⟩, ⟨10, 525, 526, #[]⟩, ⟨26, 674, 12, #[]⟩, ⟨26, 677, 12, #[]⟩, ⟨10, 11, 12, #[]⟩, ⟨74, 175, 176, #[]⟩, ⟨10, 491, 222, #[]⟩, ⟨74, 29, 30, #[]⟩, ⟨74, 154, 155, #[]⟩, ⟨10, 217, 218, #[]⟩, ⟨10, 221, 222, #[]⟩, ⟨8, 562, 563, #[]⟩])
  fields := #[⟨"in", (.object "java/io/InputStream"), 25, 0, 0⟩, ⟨"out", (.object "java/io/PrintStream"), 25, 1, 0⟩, ⟨"err", (.object "java/io/PrintStream"), 25, 2, 0⟩, ⟨"initialIn", (.object "java/io/InputStream"), 10, 3, 0⟩, ⟨"NEVER", .int, 26, 4, 0⟩, ⟨"MAYBE", .int, 26, 5, 0⟩, ⟨"allowSecurityManager", .int, 10, 6, 0⟩, ⟨"security", (.object "java/lang/SecurityManager"), 74, 7, 0⟩, ⟨"notSupportedJnuEncoding", (.object "java/lang/String"), 10, 8, 0⟩, ⟨"cons", (.object "java/io/Console"), 74, 9, 0⟩, ⟨"initialErrStream", (.object "java/io/PrintStream"), 74, 10, 0⟩, ⟨"props", (.object "java/util/Properties"), 10, 11, 0⟩, ⟨"lineSeparator", (.object "java/lang/String"), 10, 12, 0⟩, ⟨"bootLayer", (.object "java/lang/ModuleLayer"), 8, 13, 0⟩]
  methods := #[k16m0, k16m1]
  instanceTypes := #[]
  staticTypes := #[(.object "java/io/InputStream"), (.object "java/io/PrintStream"), (.object "java/io/PrintStream"), (.object "java/io/InputStream"), .int, .int, .int, (.object "java/lang/SecurityManager"), (.object "java/lang/String"), (.object "java/io/Console"), (.object "java/io/PrintStream"), (.object "java/util/Properties"), (.object "java/lang/String"), (.object "java/lang/ModuleLayer")]
  resolved := Array.replicate 834 none
  statics := none }

def pool17 : Array CpInfo := pool [(9, u "<init>"), (6, .class_ 18), (1, u "java/lang/Object"), (0, u "()V"), (1, .class_ 23), (1, u "jdk/internal/util/ArraysSupport"), (0, u "LOG2_ARRAY_LONG_INDEX_SCALE"), (0, u "I"), (2, u "U"), (0, u "Ljdk/internal/misc/Unsafe;"), (8, u "BIG_ENDIAN"), (0, u "Z"), (8, u "LOG2_BYTE_BIT_SIZE"), (4, u "LOG2_ARRAY_INT_INDEX_SCALE"), (54, u "JLA"), (0, u "Ljdk/internal/access/JavaLangAccess;"), (11, u "LOG2_ARRAY_BOOLEAN_INDEX_SCALE"), (9, u "LOG2_ARRAY_BYTE_INDEX_SCALE"), (5, u "LOG2_ARRAY_CHAR_INDEX_SCALE"), (5, u "LOG2_ARRAY_SHORT_INDEX_SCALE"), (5, u "mismatch"), (12, u "LOG2_ARRAY_FLOAT_INDEX_SCALE"), (24, u "LOG2_ARRAY_DOUBLE_INDEX_SCALE"), (89, u "T_BOOLEAN"), (2, u "T_CHAR"), (1, u "T_FLOAT"), (1, u "T_DOUBLE"), (1, u "T_BYTE"), (1, u "T_SHORT"), (1, u "T_INT"), (1, u "T_LONG"), (1, u "SOFT_MAX_ARRAY_LENGTH"), (42, u "([BI[BII)I")] 40

def k17m0 : Method := ⟨"<init>", "()V", ⟨[], none⟩, 2, none⟩
def k17c1 : Code := ⟨8, 8, jdk_48_method_14_code, #[], #[]⟩
def k17m1 : Method := ⟨"mismatch", "([BI[BII)I", ⟨[(.array .byte), .int, (.array .byte), .int, .int], some .int⟩, 9, some k17c1⟩
def k17 : Class := { plain "jdk/internal/util/ArraysSupport" (some 0) with
  accessFlags := 33
  interfaces := #[]
  cf := some (fileOf pool17 21 #[] #[⟨2, 9, 19, #[]⟩, ⟨9, 149, 337, #[]⟩] 33 16 #[] #[⟨24, 28, 29, #[]⟩, ⟨26, 38, 39, #[]⟩, ⟨25, 121, 25, #[]⟩, ⟨25, 131, 25, #[]⟩, ⟨25, 137, 25, #[]⟩, ⟨25, 143, 25, #[]⟩, ⟨25, 53, 25, #[]⟩, ⟨25, 24, 25, #[]⟩, ⟨25, 162, 25, #[]⟩, ⟨25, 187, 25, #[]⟩, ⟨26, 48, 25, #[]⟩, ⟨25, 277, 25, #[]⟩, ⟨25, 280, 25, #[]⟩, ⟨25, 282, 25, #[]⟩, ⟨25, 284, 25, #[]⟩, ⟨25, 286, 25, #[]⟩, ⟨25, 288, 25, #[]⟩, ⟨25, 290, 25, #[]⟩, ⟨25, 292, 25, #[]⟩, ⟨26, 108, 109, #[]⟩, ⟨25, 294, 25, #[]⟩])
  fields := #[⟨"U", (.object "jdk/internal/misc/Unsafe"), 24, 0, 0⟩, ⟨"BIG_ENDIAN", .boolean, 26, 1, 0⟩, ⟨"LOG2_ARRAY_BOOLEAN_INDEX_SCALE", .int, 25, 2, 0⟩, ⟨"LOG2_ARRAY_BYTE_INDEX_SCALE", .int, 25, 3, 0⟩, ⟨"LOG2_ARRAY_CHAR_INDEX_SCALE", .int, 25, 4, 0⟩, ⟨"LOG2_ARRAY_SHORT_INDEX_SCALE", .int, 25, 5, 0⟩, ⟨"LOG2_ARRAY_INT_INDEX_SCALE", .int, 25, 6, 0⟩, ⟨"LOG2_ARRAY_LONG_INDEX_SCALE", .int, 25, 7, 0⟩, ⟨"LOG2_ARRAY_FLOAT_INDEX_SCALE", .int, 25, 8, 0⟩, ⟨"LOG2_ARRAY_DOUBLE_INDEX_SCALE", .int, 25, 9, 0⟩, ⟨"LOG2_BYTE_BIT_SIZE", .int, 26, 10, 0⟩, ⟨"T_BOOLEAN", .int, 25, 11, 0⟩, ⟨"T_CHAR", .int, 25, 12, 0⟩, ⟨"T_FLOAT", .int, 25, 13, 0⟩, ⟨"T_DOUBLE", .int, 25, 14, 0⟩, ⟨"T_BYTE", .int, 25, 15, 0⟩, ⟨"T_SHORT", .int, 25, 16, 0⟩, ⟨"T_INT", .int, 25, 17, 0⟩, ⟨"T_LONG", .int, 25, 18, 0⟩, ⟨"JLA", (.object "jdk/internal/access/JavaLangAccess"), 26, 19, 0⟩, ⟨"SOFT_MAX_ARRAY_LENGTH", .int, 25, 20, 0⟩]
  methods := #[k17m0, k17m1]
  instanceTypes := #[]
  staticTypes := #[(.object "jdk/internal/misc/Unsafe"), .boolean, .int, .int, .int, .int, .int, .int, .int, .int, .int, .int, .int, .int, .int, .int, .int, .int, .int, (.object "jdk/internal/access/JavaLangAccess"), .int]
  resolved := Array.replicate 378 none
  statics := none }

def pool18 : Array CpInfo := pool [(1, .class_ 2), (0, u "java/lang/Appendable"), (0, .class_ 4), (0, u "java/lang/Object")] 9

def k18 : Class := { plain "java/lang/Appendable" (some 0) with
  accessFlags := 1537
  interfaces := #[]
  cf := some (fileOf pool18 1 #[] #[] 1537 3 #[] #[])
  fields := #[]
  methods := #[]
  instanceTypes := #[]
  staticTypes := #[]
  resolved := Array.replicate 14 none
  statics := none }

def pool19 : Array CpInfo := pool [(1, .class_ 2), (0, u "java/lang/String"), (0, .methodref 4 5), (0, .class_ 6), (0, .nameAndType 7 8), (0, u "java/lang/Object"), (0, u "<init>"), (0, u "()V"), (1, .class_ 12), (1, u "java/lang/AbstractStringBuilder"), (0, u "EMPTYVALUE"), (0, u "[B"), (0, .fieldref 10 16), (0, .nameAndType 17 14), (0, u "value"), (0, .fieldref 1 19), (0, .nameAndType 20 21), (0, u "COMPACT_STRINGS"), (0, u "Z"), (0, .fieldref 10 23), (0, .nameAndType 24 25), (0, u "coder"), (0, u "B"), (8, u "length"), (0, u "()I"), (9, u "append"), (2, .class_ 49), (0, u "java/lang/CharSequence"), (25, u "maybeLatin1"), (3, .fieldref 10 80), (0, .nameAndType 81 82), (0, u "count"), (0, u "I"), (0, .methodref 10 84), (0, .nameAndType 85 86), (0, u "isLatin1"), (0, u "()Z"), (1, .class_ 90), (1, u "java/lang/StringLatin1"), (9, .methodref 10 101), (0, .nameAndType 102 103), (0, u "ensureCapacityInternal"), (0, u "(I)V"), (87, .methodref 88 192), (0, .nameAndType 193 194), (0, u "canEncode"), (0, u "(C)Z"), (97, u "(C)Ljava/lang/AbstractStringBuilder;"), (110, u "()[B"), (40, .class_ 445), (0, u "java/lang/Appendable"), (106, u "getValue")] 56

def k19m0 : Method := ⟨"<init>", "()V", ⟨[], none⟩, 0, none⟩
def k19c1 : Code := ⟨2, 2, jdk_68_method_2_code, #[], #[]⟩
def k19m1 : Method := ⟨"<init>", "(I)V", ⟨[.int], none⟩, 0, some k19c1⟩
def k19c2 : Code := ⟨1, 1, jdk_68_method_6_code, #[], #[]⟩
def k19m2 : Method := ⟨"length", "()I", ⟨[], some .int⟩, 1, some k19c2⟩
def k19c3 : Code := ⟨4, 3, jdk_68_method_9_code, #[], #[]⟩
def k19m3 : Method := ⟨"ensureCapacityInternal", "(I)V", ⟨[.int], none⟩, 2, some k19c3⟩
def k19c4 : Code := ⟨5, 2, jdk_68_method_31_code, #[], #[]⟩
def k19m4 : Method := ⟨"append", "(C)Ljava/lang/AbstractStringBuilder;", ⟨[.char], some (.object "java/lang/AbstractStringBuilder")⟩, 1, some k19c4⟩
def k19c5 : Code := ⟨1, 1, jdk_68_method_64_code, #[], #[]⟩
def k19m5 : Method := ⟨"getValue", "()[B", ⟨[], some (.array .byte)⟩, 16, some k19c5⟩
def k19c6 : Code := ⟨1, 1, jdk_68_method_68_code, #[], #[]⟩
def k19m6 : Method := ⟨"isLatin1", "()Z", ⟨[], some .boolean⟩, 16, some k19c6⟩
def k19 : Class := { plain "java/lang/AbstractStringBuilder" (some 0) with
  accessFlags := 1056
  interfaces := #[18, 4]
  cf := some (fileOf pool19 10 #[] #[⟨0, 7, 8, #[]⟩, ⟨0, 7, 103, #[]⟩, ⟨1, 34, 35, #[]⟩, ⟨2, 102, 103, #[]⟩, ⟨1, 45, 292, #[]⟩, ⟨16, 552, 403, #[]⟩, ⟨16, 85, 86, #[]⟩] 1056 4 #[444, 48] #[⟨0, 17, 14, #[]⟩, ⟨0, 24, 25, #[]⟩, ⟨0, 75, 21, #[]⟩, ⟨0, 81, 82, #[]⟩, ⟨26, 13, 14, #[]⟩])
  fields := #[⟨"value", (.array .byte), 0, 0, 0⟩, ⟨"coder", .byte, 0, 1, 0⟩, ⟨"maybeLatin1", .boolean, 0, 2, 0⟩, ⟨"count", .int, 0, 3, 0⟩, ⟨"EMPTYVALUE", (.array .byte), 26, 0, 0⟩]
  methods := #[k19m0, k19m1, k19m2, k19m3, k19m4, k19m5, k19m6]
  instanceTypes := #[(.array .byte), .byte, .boolean, .int]
  staticTypes := #[(.array .byte)]
  resolved := Array.replicate 609 none
  statics := none }

def pool20 : Array CpInfo := pool [(1, .methodref 2 3), (0, .class_ 4), (0, .nameAndType 5 6), (0, u "java/lang/AbstractStringBuilder"), (0, u "<init>"), (0, u "(I)V"), (11, .class_ 20), (1, u "java/lang/String"), (3, .class_ 26), (1, u "java/lang/StringBuilder"), (0, u "append"), (22, .methodref 2 51), (0, .nameAndType 27 52), (0, u "(C)Ljava/lang/AbstractStringBuilder;"), (84, .methodref 18 138), (0, .nameAndType 5 139), (0, u "(Ljava/lang/StringBuilder;)V"), (5, u "()V"), (10, u "()I"), (129, u "(C)Ljava/lang/StringBuilder;"), (56, .methodref 2 344), (0, .nameAndType 345 156), (0, u "length"), (3, .class_ 350), (0, u "java/lang/Appendable"), (0, .class_ 352), (0, u "java/io/Serializable"), (0, .class_ 354), (0, u "java/lang/Comparable"), (0, .class_ 356), (0, u "java/lang/CharSequence"), (0, u "serialVersionUID"), (0, u "J"), (40, u "toString"), (0, u "()Ljava/lang/String;")] 21

def k20m0 : Method := ⟨"<init>", "()V", ⟨[], none⟩, 1, none⟩
def k20c1 : Code := ⟨2, 2, jdk_67_method_2_code, #[], #[]⟩
def k20m1 : Method := ⟨"<init>", "(I)V", ⟨[.int], none⟩, 1, some k20c1⟩
def k20c2 : Code := ⟨2, 2, jdk_67_method_14_code, #[], #[]⟩
def k20m2 : Method := ⟨"append", "(C)Ljava/lang/StringBuilder;", ⟨[.char], some (.object "java/lang/StringBuilder")⟩, 1, some k20c2⟩
def k20c3 : Code := ⟨3, 1, jdk_67_method_42_code, #[], #[]⟩
def k20m3 : Method := ⟨"toString", "()Ljava/lang/String;", ⟨[], some (.object "java/lang/String")⟩, 1, some k20c3⟩
def k20c4 : Code := ⟨1, 1, jdk_67_method_93_code, #[], #[]⟩
def k20m4 : Method := ⟨"length", "()I", ⟨[], some .int⟩, 4161, some k20c4⟩
def k20 : Class := { plain "java/lang/StringBuilder" (some 19) with
  accessFlags := 49
  interfaces := #[18, 2, 3, 4]
  cf := some (fileOf pool20 24 #[] #[⟨1, 5, 145, #[]⟩, ⟨1, 5, 6, #[]⟩, ⟨1, 27, 286, #[]⟩, ⟨1, 399, 400, #[]⟩, ⟨4161, 345, 156, #[]⟩] 49 2 #[349, 351, 353, 355] #[⟨24, 357, 358, #[]⟩])
  fields := #[⟨"serialVersionUID", .long, 24, 0, 0⟩]
  methods := #[k20m0, k20m1, k20m2, k20m3, k20m4]
  instanceTypes := #[(.array .byte), .byte, .boolean, .int]
  staticTypes := #[.long]
  resolved := Array.replicate 422 none
  statics := none }

def pool21 : Array CpInfo := pool [(1, u "java/lang/Cloneable"), (0, .class_ 1), (0, u "java/lang/Object"), (0, .class_ 3)] 3

def k21 : Class := { plain "java/lang/Cloneable" (some 0) with
  accessFlags := 1537
  interfaces := #[]
  cf := some (fileOf pool21 2 #[] #[] 1537 4 #[] #[])
  fields := #[]
  methods := #[]
  instanceTypes := #[]
  staticTypes := #[]
  resolved := Array.replicate 8 none
  statics := none }

def k22 : Class := { plain "byte" none with kind := .primitive 'B', accessFlags := 0x411 }
def k23 : Class := { plain "[B" (some 0) with kind := .array 22 .byte, interfaces := #[21, 2], accessFlags := 1041 }

def k24 : Class := { plain "char" none with kind := .primitive 'C', accessFlags := 0x411 }
def k25 : Class := { plain "[C" (some 0) with kind := .array 24 .char, interfaces := #[21, 2], accessFlags := 1041 }

def k26 : Class := { plain "int" none with kind := .primitive 'I', accessFlags := 0x411 }
def k27 : Class := { plain "[I" (some 0) with kind := .array 26 .int, interfaces := #[21, 2], accessFlags := 1041 }

def heap : Heap := #[{ cls := 7, slots := #[.long 0, .int 1, .null, .int 0, .null, .int 0, .int 0], vm := .statics 7 },
  { cls := 13, slots := #[.null, .null, .null], vm := .statics 13 }]
def classes : Array Class := #[k0, k1, k2, k3, k4, k5, k6, k7, k8, k9, k10, k11, k12, k13, k14, k15, k16, k17, k18, k19, k20, k21, k22, k23, k24, k25, k26, k27]
def interned : List (Array UInt16 × Addr) := []
def slotsUsed : Nat := 10
def theMethod : MethodId := ⟨1, 1⟩
def args0 : Array Value := #[.int 5, .int 5, .int 5, .int 5, .int 5, .int 5]
def aboutOver (below : List Frame) : State where
  vm := { classes := classes, interned := interned.toArray }
  heap := heap
  slotsUsed := slotsUsed
  threads := #[{ frames := .invoking theMethod args0 :: below }]
def below0 : List Frame := [.native { method := ⟨0, 0⟩, args := #[] }]
def about1 : State := aboutOver below0
def p0 : Program := .bare "" "" ""
def e0 : Env := launch0.env 0 0 0
theorem w_frames : about1.frames = Frame.invoking theMethod args0 :: below0 := rfl
set_option maxRecDepth 65536 in
theorem w_args : argsFit about1.vm theMethod args0 = true := by decide +kernel
set_option maxRecDepth 65536 in
theorem w_heap : heapFits about1 = true := by decide +kernel
set_option maxRecDepth 65536 in
theorem w_runnable : about1.curStatus? = some .runnable := by decide +kernel
set_option maxRecDepth 65536 in
theorem w_alone : about1.alone = true := by decide +kernel
set_option maxRecDepth 65536 in
theorem w_named : about1.methodNamed? x = some theMethod := by decide +kernel
set_option maxRecDepth 65536 in
theorem w_hears : about1.hears theMethod below0 = true := by decide +kernel
set_option maxRecDepth 65536 in
theorem w_ripe : about1.ripe theMethod args0 below0 = true := by decide +kernel
theorem w_running : about1.status = .running := rfl
set_option maxRecDepth 65536 in
theorem w_room : about1.hasRoom e0.platform room_1 = true :=
  launch0.hasRoom_least _ room_1 (by decide +kernel) (by decide +kernel) (by decide +kernel) (by decide +kernel) (by decide +kernel) (by decide +kernel)
theorem allAtoms_all (ts : List Jvm.Cond) (a : Array Jvm.Value) (st : Jvm.State) : (allAtoms ts).before a st = ts.all (fun c => c.before a st) := by
  induction ts with
  | nil => rfl
  | cons c t ih =>
    show (Jvm.Cond.and c (allAtoms t)).before a st = _
    rw [Jvm.Cond.before_and, ih, List.all_cons]
def words1 : List Jvm.Cond := Jvm.Cond.code x code maxLocals ret :: tables_1
theorem code_word {y : MethodName} {bytes : ByteArray} {mx : Nat} {rt : Option FieldType} {a : Array Value} {s : State} {m : MethodId} {meth : Method} {c : Code} (h1 : s.methodNamed? y = some m) (h2 : s.vm.method? m = some meth) (h3 : meth.code = some c) (h4 : c.code = bytes)
    (h5 : (c.maxLocals == mx && c.exceptionTable.isEmpty && decide (c.maxStack ≤ mostOperands) && decide (meth.sig.returnType = rt) && !meth.locks && decide (parseMethodDescriptor y.desc = some meth.sig)) = true) : (Jvm.Cond.code y bytes mx rt).before a s = true := by
  simp only [Bool.and_eq_true, beq_iff_eq, Bool.not_eq_true', decide_eq_true_eq] at h5
  obtain ⟨⟨⟨⟨⟨g1, g2⟩, g3⟩, g4⟩, g5⟩, g6⟩ := h5
  simp [Cond.before, Cond.holds, Cond.value, h1, h2, h3, h4, g1, g2, g3, g4, g5, g6]
def isCode : Jvm.Cond → Bool
  | .code _ _ _ _ => true
  | _ => false
theorem all_split {L : List Jvm.Cond} {P : Jvm.Cond → Bool} (h1 : L.all (fun c => isCode c || P c) = true) (h2 : ∀ c ∈ L.filter isCode, P c = true) : L.all P = true := by
  refine List.all_eq_true.mpr fun c hc => ?_
  have h := List.all_eq_true.mp h1 c hc
  rcases Bool.eq_false_or_eq_true (isCode c) with hi | hi
  · exact h2 c (List.mem_filter.mpr ⟨hc, hi⟩)
  · simpa [hi] using h
set_option maxRecDepth 65536 in
theorem w_c0 : (Jvm.Cond.code x code maxLocals ret).before args0 about1 = true := code_word (m := ⟨1, 1⟩) (meth := k1m1) (c := k1c1) (by decide +kernel) rfl rfl rfl (by decide +kernel)
set_option maxRecDepth 65536 in
theorem w_c1 : (Jvm.Cond.code ({ cls := "com/example/seshat/seshat/IdempotencyKeyParsePinLaw", name := "keyChar", desc := "(I)C" } : Jvm.MethodName) method_3_code (1 : Nat) (Option.some Jvm.ClassFile.FieldType.char)).before args0 about1 = true := code_word (m := ⟨1, 2⟩) (meth := k1m2) (c := k1c2) (by decide +kernel) rfl rfl rfl (by decide +kernel)
set_option maxRecDepth 65536 in
theorem w_c2 : (Jvm.Cond.code ({ cls := "com/example/seshat/seshat/IdempotencyKeyParsePinLaw", name := "plain", desc := "(C)Z" } : Jvm.MethodName) method_4_code (1 : Nat) (Option.some Jvm.ClassFile.FieldType.boolean)).before args0 about1 = true := code_word (m := ⟨1, 3⟩) (meth := k1m3) (c := k1c3) (by decide +kernel) rfl rfl rfl (by decide +kernel)
set_option maxRecDepth 65536 in
theorem w_c3 : (Jvm.Cond.code ({ cls := "com/example/seshat/seshat/IdempotencyKeyParsePinLaw", name := "width", desc := "(CZZ)I" } : Jvm.MethodName) method_6_code (3 : Nat) (Option.some Jvm.ClassFile.FieldType.int)).before args0 about1 = true := code_word (m := ⟨1, 5⟩) (meth := k1m5) (c := k1c5) (by decide +kernel) rfl rfl rfl (by decide +kernel)
set_option maxRecDepth 65536 in
theorem w_c4 : (Jvm.Cond.code ({ cls := "com/example/seshat/seshat/IdempotencyKeyParsePinLaw", name := "escaped", desc := "(C)Z" } : Jvm.MethodName) method_5_code (1 : Nat) (Option.some Jvm.ClassFile.FieldType.boolean)).before args0 about1 = true := code_word (m := ⟨1, 4⟩) (meth := k1m4) (c := k1c4) (by decide +kernel) rfl rfl rfl (by decide +kernel)
set_option maxRecDepth 65536 in
theorem w_c5 : (Jvm.Cond.code ({ cls := "com/example/seshat/seshat/IdempotencyKeyParsePinLaw", name := "wsChar", desc := "(II)C" } : Jvm.MethodName) method_8_code (2 : Nat) (Option.some Jvm.ClassFile.FieldType.char)).before args0 about1 = true := code_word (m := ⟨1, 7⟩) (meth := k1m7) (c := k1c7) (by decide +kernel) rfl rfl rfl (by decide +kernel)
set_option maxRecDepth 65536 in
theorem w_c6 : (Jvm.Cond.code ({ cls := "com/example/seshat/seshat/IdempotencyKeyParsePinLaw", name := "put", desc := "([CICZZ)I" } : Jvm.MethodName) method_7_code (5 : Nat) (Option.some Jvm.ClassFile.FieldType.int)).before args0 about1 = true := code_word (m := ⟨1, 6⟩) (meth := k1m6) (c := k1c6) (by decide +kernel) rfl rfl rfl (by decide +kernel)
set_option maxRecDepth 65536 in
theorem w_c7 : (Jvm.Cond.code ({ cls := "java/lang/String", name := "<init>", desc := "([C)V" } : Jvm.MethodName) jdk_42_method_3_code (2 : Nat) (Option.none : Option Jvm.ClassFile.FieldType)).before args0 about1 = true := code_word (m := ⟨7, 1⟩) (meth := k7m1) (c := k7c1) (by decide +kernel) rfl rfl rfl (by decide +kernel)
set_option maxRecDepth 65536 in
theorem w_c8 : (Jvm.Cond.code ({ cls := "java/lang/String", name := "<init>", desc := "([CIILjava/lang/Void;)V" } : Jvm.MethodName) jdk_42_method_149_code (6 : Nat) (Option.none : Option Jvm.ClassFile.FieldType)).before args0 about1 = true := code_word (m := ⟨7, 10⟩) (meth := k7m10) (c := k7c10) (by decide +kernel) rfl rfl rfl (by decide +kernel)
set_option maxRecDepth 65536 in
theorem w_c9 : (Jvm.Cond.code ({ cls := "java/lang/Object", name := "<init>", desc := "()V" } : Jvm.MethodName) object_method_1_code (1 : Nat) (Option.none : Option Jvm.ClassFile.FieldType)).before args0 about1 = true := code_word (m := ⟨0, 0⟩) (meth := k0m0) (c := k0c0) (by decide +kernel) rfl rfl rfl (by decide +kernel)
set_option maxRecDepth 65536 in
theorem w_c10 : (Jvm.Cond.code ({ cls := "java/lang/StringUTF16", name := "compress", desc := "([CII)[B" } : Jvm.MethodName) jdk_52_method_16_code (6 : Nat) (Option.some (Jvm.ClassFile.FieldType.array Jvm.ClassFile.FieldType.byte))).before args0 about1 = true := code_word (m := ⟨8, 2⟩) (meth := k8m2) (c := k8c2) (by decide +kernel) rfl rfl rfl (by decide +kernel)
set_option maxRecDepth 65536 in
theorem w_c11 : (Jvm.Cond.code ({ cls := "java/lang/StringUTF16", name := "compress", desc := "([CI[BII)I" } : Jvm.MethodName) jdk_52_method_21_code (7 : Nat) (Option.some Jvm.ClassFile.FieldType.int)).before args0 about1 = true := code_word (m := ⟨8, 3⟩) (meth := k8m3) (c := k8c3) (by decide +kernel) rfl rfl rfl (by decide +kernel)
set_option maxRecDepth 65536 in
theorem w_c12 : (Jvm.Cond.code ({ cls := "java/lang/StringUTF16", name := "coderFromArrayLen", desc := "([BI)B" } : Jvm.MethodName) jdk_52_method_15_code (2 : Nat) (Option.some Jvm.ClassFile.FieldType.byte)).before args0 about1 = true := code_word (m := ⟨8, 1⟩) (meth := k8m1) (c := k8c1) (by decide +kernel) rfl rfl rfl (by decide +kernel)
set_option maxRecDepth 65536 in
theorem w_c13 : (Jvm.Cond.code ({ cls := "com/example/seshat/seshat/IdempotencyKey", name := "parse", desc := "(Ljava/lang/String;)Lcom/example/seshat/seshat/IdempotencyKey;" } : Jvm.MethodName) prog_3_method_2_code (3 : Nat) (Option.some (Jvm.ClassFile.FieldType.object "com/example/seshat/seshat/IdempotencyKey"))).before args0 about1 = true := code_word (m := ⟨10, 1⟩) (meth := k10m1) (c := k10c1) (by decide +kernel) rfl rfl rfl (by decide +kernel)
set_option maxRecDepth 65536 in
theorem w_c14 : (Jvm.Cond.code ({ cls := "java/util/Objects", name := "requireNonNull", desc := "(Ljava/lang/Object;Ljava/lang/String;)Ljava/lang/Object;" } : Jvm.MethodName) jdk_31_method_11_code (2 : Nat) (Option.some (Jvm.ClassFile.FieldType.object "java/lang/Object"))).before args0 about1 = true := code_word (m := ⟨11, 1⟩) (meth := k11m1) (c := k11c1) (by decide +kernel) rfl rfl rfl (by decide +kernel)
set_option maxRecDepth 65536 in
theorem w_c15 : (Jvm.Cond.code ({ cls := "com/example/seshat/seshat/IdempotencyKey", name := "trimWhitespace", desc := "(Ljava/lang/String;)Ljava/lang/String;" } : Jvm.MethodName) prog_3_method_3_code (3 : Nat) (Option.some (Jvm.ClassFile.FieldType.object "java/lang/String"))).before args0 about1 = true := code_word (m := ⟨10, 2⟩) (meth := k10m2) (c := k10c2) (by decide +kernel) rfl rfl rfl (by decide +kernel)
set_option maxRecDepth 65536 in
theorem w_c16 : (Jvm.Cond.code ({ cls := "java/lang/String", name := "length", desc := "()I" } : Jvm.MethodName) jdk_42_method_54_code (1 : Nat) (Option.some Jvm.ClassFile.FieldType.int)).before args0 about1 = true := code_word (m := ⟨7, 3⟩) (meth := k7m3) (c := k7c3) (by decide +kernel) rfl rfl rfl (by decide +kernel)
set_option maxRecDepth 65536 in
theorem w_c17 : (Jvm.Cond.code ({ cls := "java/lang/String", name := "coder", desc := "()B" } : Jvm.MethodName) jdk_42_method_152_code (1 : Nat) (Option.some Jvm.ClassFile.FieldType.byte)).before args0 about1 = true := code_word (m := ⟨7, 13⟩) (meth := k7m13) (c := k7c13) (by decide +kernel) rfl rfl rfl (by decide +kernel)
set_option maxRecDepth 65536 in
theorem w_c18 : (Jvm.Cond.code ({ cls := "java/lang/String", name := "charAt", desc := "(I)C" } : Jvm.MethodName) jdk_42_method_56_code (2 : Nat) (Option.some Jvm.ClassFile.FieldType.char)).before args0 about1 = true := code_word (m := ⟨7, 5⟩) (meth := k7m5) (c := k7c5) (by decide +kernel) rfl rfl rfl (by decide +kernel)
set_option maxRecDepth 65536 in
theorem w_c19 : (Jvm.Cond.code ({ cls := "java/lang/String", name := "isLatin1", desc := "()Z" } : Jvm.MethodName) jdk_42_method_154_code (1 : Nat) (Option.some Jvm.ClassFile.FieldType.boolean)).before args0 about1 = true := code_word (m := ⟨7, 14⟩) (meth := k7m14) (c := k7c14) (by decide +kernel) rfl rfl rfl (by decide +kernel)
set_option maxRecDepth 65536 in
theorem w_c20 : (Jvm.Cond.code ({ cls := "java/lang/StringLatin1", name := "charAt", desc := "([BI)C" } : Jvm.MethodName) jdk_43_method_2_code (2 : Nat) (Option.some Jvm.ClassFile.FieldType.char)).before args0 about1 = true := code_word (m := ⟨12, 1⟩) (meth := k12m1) (c := k12c1) (by decide +kernel) rfl rfl rfl (by decide +kernel)
set_option maxRecDepth 65536 in
theorem w_c21 : (Jvm.Cond.code ({ cls := "java/lang/String", name := "checkIndex", desc := "(II)V" } : Jvm.MethodName) jdk_42_method_155_code (2 : Nat) (Option.none : Option Jvm.ClassFile.FieldType)).before args0 about1 = true := code_word (m := ⟨7, 15⟩) (meth := k7m15) (c := k7c15) (by decide +kernel) rfl rfl rfl (by decide +kernel)
set_option maxRecDepth 65536 in
theorem w_c22 : (Jvm.Cond.code ({ cls := "jdk/internal/util/Preconditions", name := "checkIndex", desc := "(IILjava/util/function/BiFunction;)I" } : Jvm.MethodName) jdk_41_method_11_code (3 : Nat) (Option.some Jvm.ClassFile.FieldType.int)).before args0 about1 = true := code_word (m := ⟨13, 1⟩) (meth := k13m1) (c := k13c1) (by decide +kernel) rfl rfl rfl (by decide +kernel)
set_option maxRecDepth 65536 in
theorem w_c23 : (Jvm.Cond.code ({ cls := "com/example/seshat/seshat/IdempotencyKey", name := "isWhitespace", desc := "(C)Z" } : Jvm.MethodName) prog_3_method_4_code (1 : Nat) (Option.some Jvm.ClassFile.FieldType.boolean)).before args0 about1 = true := code_word (m := ⟨10, 3⟩) (meth := k10m3) (c := k10c3) (by decide +kernel) rfl rfl rfl (by decide +kernel)
set_option maxRecDepth 65536 in
theorem w_c24 : (Jvm.Cond.code ({ cls := "java/lang/String", name := "substring", desc := "(II)Ljava/lang/String;" } : Jvm.MethodName) jdk_42_method_92_code (5 : Nat) (Option.some (Jvm.ClassFile.FieldType.object "java/lang/String"))).before args0 about1 = true := code_word (m := ⟨7, 9⟩) (meth := k7m9) (c := k7c9) (by decide +kernel) rfl rfl rfl (by decide +kernel)
set_option maxRecDepth 65536 in
theorem w_c25 : (Jvm.Cond.code ({ cls := "java/lang/String", name := "checkBoundsBeginEnd", desc := "(III)V" } : Jvm.MethodName) jdk_42_method_158_code (3 : Nat) (Option.none : Option Jvm.ClassFile.FieldType)).before args0 about1 = true := code_word (m := ⟨7, 16⟩) (meth := k7m16) (c := k7c16) (by decide +kernel) rfl rfl rfl (by decide +kernel)
set_option maxRecDepth 65536 in
theorem w_c26 : (Jvm.Cond.code ({ cls := "jdk/internal/util/Preconditions", name := "checkFromToIndex", desc := "(IIILjava/util/function/BiFunction;)I" } : Jvm.MethodName) jdk_41_method_12_code (4 : Nat) (Option.some Jvm.ClassFile.FieldType.int)).before args0 about1 = true := code_word (m := ⟨13, 2⟩) (meth := k13m2) (c := k13c2) (by decide +kernel) rfl rfl rfl (by decide +kernel)
set_option maxRecDepth 65536 in
theorem w_c27 : (Jvm.Cond.code ({ cls := "java/lang/StringLatin1", name := "newString", desc := "([BII)Ljava/lang/String;" } : Jvm.MethodName) jdk_43_method_47_code (3 : Nat) (Option.some (Jvm.ClassFile.FieldType.object "java/lang/String"))).before args0 about1 = true := code_word (m := ⟨12, 4⟩) (meth := k12m4) (c := k12c4) (by decide +kernel) rfl rfl rfl (by decide +kernel)
set_option maxRecDepth 65536 in
theorem w_c28 : (Jvm.Cond.code ({ cls := "java/util/Arrays", name := "copyOfRange", desc := "([BII)[B" } : Jvm.MethodName) jdk_65_method_132_code (3 : Nat) (Option.some (Jvm.ClassFile.FieldType.array Jvm.ClassFile.FieldType.byte))).before args0 about1 = true := code_word (m := ⟨14, 2⟩) (meth := k14m2) (c := k14c2) (by decide +kernel) rfl rfl rfl (by decide +kernel)
set_option maxRecDepth 65536 in
theorem w_c29 : (Jvm.Cond.code ({ cls := "java/util/Arrays", name := "copyOfRangeByte", desc := "([BII)[B" } : Jvm.MethodName) jdk_65_method_133_code (5 : Nat) (Option.some (Jvm.ClassFile.FieldType.array Jvm.ClassFile.FieldType.byte))).before args0 about1 = true := code_word (m := ⟨14, 3⟩) (meth := k14m3) (c := k14c3) (by decide +kernel) rfl rfl rfl (by decide +kernel)
set_option maxRecDepth 65536 in
theorem w_c30 : (Jvm.Cond.code ({ cls := "java/util/Arrays", name := "checkLength", desc := "(II)V" } : Jvm.MethodName) jdk_65_method_131_code (2 : Nat) (Option.none : Option Jvm.ClassFile.FieldType)).before args0 about1 = true := code_word (m := ⟨14, 1⟩) (meth := k14m1) (c := k14c1) (by decide +kernel) rfl rfl rfl (by decide +kernel)
set_option maxRecDepth 65536 in
theorem w_c31 : (Jvm.Cond.code ({ cls := "java/lang/Math", name := "min", desc := "(II)I" } : Jvm.MethodName) jdk_29_method_69_code (2 : Nat) (Option.some Jvm.ClassFile.FieldType.int)).before args0 about1 = true := code_word (m := ⟨15, 1⟩) (meth := k15m1) (c := k15c1) (by decide +kernel) rfl rfl rfl (by decide +kernel)
set_option maxRecDepth 65536 in
theorem w_c32 : (Jvm.Cond.code ({ cls := "java/lang/String", name := "<init>", desc := "([BB)V" } : Jvm.MethodName) jdk_42_method_151_code (3 : Nat) (Option.none : Option Jvm.ClassFile.FieldType)).before args0 about1 = true := code_word (m := ⟨7, 12⟩) (meth := k7m12) (c := k7c12) (by decide +kernel) rfl rfl rfl (by decide +kernel)
set_option maxRecDepth 65536 in
theorem w_c33 : (Jvm.Cond.code ({ cls := "java/lang/String", name := "startsWith", desc := "(Ljava/lang/String;)Z" } : Jvm.MethodName) jdk_42_method_76_code (2 : Nat) (Option.some Jvm.ClassFile.FieldType.boolean)).before args0 about1 = true := code_word (m := ⟨7, 8⟩) (meth := k7m8) (c := k7c8) (by decide +kernel) rfl rfl rfl (by decide +kernel)
set_option maxRecDepth 65536 in
theorem w_c34 : (Jvm.Cond.code ({ cls := "java/lang/String", name := "startsWith", desc := "(Ljava/lang/String;I)Z" } : Jvm.MethodName) jdk_42_method_75_code (8 : Nat) (Option.some Jvm.ClassFile.FieldType.boolean)).before args0 about1 = true := code_word (m := ⟨7, 7⟩) (meth := k7m7) (c := k7c7) (by decide +kernel) rfl rfl rfl (by decide +kernel)
set_option maxRecDepth 65536 in
theorem w_c35 : (Jvm.Cond.code ({ cls := "jdk/internal/util/ArraysSupport", name := "mismatch", desc := "([BI[BII)I" } : Jvm.MethodName) jdk_48_method_14_code (8 : Nat) (Option.some Jvm.ClassFile.FieldType.int)).before args0 about1 = true := code_word (m := ⟨17, 1⟩) (meth := k17m1) (c := k17c1) (by decide +kernel) rfl rfl rfl (by decide +kernel)
set_option maxRecDepth 65536 in
theorem w_c36 : (Jvm.Cond.code ({ cls := "com/example/seshat/seshat/IdempotencyKey", name := "unquote", desc := "(Ljava/lang/String;)Ljava/lang/String;" } : Jvm.MethodName) prog_3_method_5_code (5 : Nat) (Option.some (Jvm.ClassFile.FieldType.object "java/lang/String"))).before args0 about1 = true := code_word (m := ⟨10, 4⟩) (meth := k10m4) (c := k10c4) (by decide +kernel) rfl rfl rfl (by decide +kernel)
set_option maxRecDepth 65536 in
theorem w_c37 : (Jvm.Cond.code ({ cls := "java/lang/StringBuilder", name := "<init>", desc := "(I)V" } : Jvm.MethodName) jdk_67_method_2_code (2 : Nat) (Option.none : Option Jvm.ClassFile.FieldType)).before args0 about1 = true := code_word (m := ⟨20, 1⟩) (meth := k20m1) (c := k20c1) (by decide +kernel) rfl rfl rfl (by decide +kernel)
set_option maxRecDepth 65536 in
theorem w_c38 : (Jvm.Cond.code ({ cls := "java/lang/AbstractStringBuilder", name := "<init>", desc := "(I)V" } : Jvm.MethodName) jdk_68_method_2_code (2 : Nat) (Option.none : Option Jvm.ClassFile.FieldType)).before args0 about1 = true := code_word (m := ⟨19, 1⟩) (meth := k19m1) (c := k19c1) (by decide +kernel) rfl rfl rfl (by decide +kernel)
set_option maxRecDepth 65536 in
theorem w_c39 : (Jvm.Cond.code ({ cls := "java/lang/StringBuilder", name := "append", desc := "(C)Ljava/lang/StringBuilder;" } : Jvm.MethodName) jdk_67_method_14_code (2 : Nat) (Option.some (Jvm.ClassFile.FieldType.object "java/lang/StringBuilder"))).before args0 about1 = true := code_word (m := ⟨20, 2⟩) (meth := k20m2) (c := k20c2) (by decide +kernel) rfl rfl rfl (by decide +kernel)
set_option maxRecDepth 65536 in
theorem w_c40 : (Jvm.Cond.code ({ cls := "java/lang/AbstractStringBuilder", name := "append", desc := "(C)Ljava/lang/AbstractStringBuilder;" } : Jvm.MethodName) jdk_68_method_31_code (2 : Nat) (Option.some (Jvm.ClassFile.FieldType.object "java/lang/AbstractStringBuilder"))).before args0 about1 = true := code_word (m := ⟨19, 4⟩) (meth := k19m4) (c := k19c4) (by decide +kernel) rfl rfl rfl (by decide +kernel)
set_option maxRecDepth 65536 in
theorem w_c41 : (Jvm.Cond.code ({ cls := "java/lang/AbstractStringBuilder", name := "ensureCapacityInternal", desc := "(I)V" } : Jvm.MethodName) jdk_68_method_9_code (3 : Nat) (Option.none : Option Jvm.ClassFile.FieldType)).before args0 about1 = true := code_word (m := ⟨19, 3⟩) (meth := k19m3) (c := k19c3) (by decide +kernel) rfl rfl rfl (by decide +kernel)
set_option maxRecDepth 65536 in
theorem w_c42 : (Jvm.Cond.code ({ cls := "java/lang/AbstractStringBuilder", name := "isLatin1", desc := "()Z" } : Jvm.MethodName) jdk_68_method_68_code (1 : Nat) (Option.some Jvm.ClassFile.FieldType.boolean)).before args0 about1 = true := code_word (m := ⟨19, 6⟩) (meth := k19m6) (c := k19c6) (by decide +kernel) rfl rfl rfl (by decide +kernel)
set_option maxRecDepth 65536 in
theorem w_c43 : (Jvm.Cond.code ({ cls := "java/lang/StringLatin1", name := "canEncode", desc := "(C)Z" } : Jvm.MethodName) jdk_43_method_3_code (1 : Nat) (Option.some Jvm.ClassFile.FieldType.boolean)).before args0 about1 = true := code_word (m := ⟨12, 2⟩) (meth := k12m2) (c := k12c2) (by decide +kernel) rfl rfl rfl (by decide +kernel)
set_option maxRecDepth 65536 in
theorem w_c44 : (Jvm.Cond.code ({ cls := "java/lang/StringBuilder", name := "toString", desc := "()Ljava/lang/String;" } : Jvm.MethodName) jdk_67_method_42_code (1 : Nat) (Option.some (Jvm.ClassFile.FieldType.object "java/lang/String"))).before args0 about1 = true := code_word (m := ⟨20, 3⟩) (meth := k20m3) (c := k20c3) (by decide +kernel) rfl rfl rfl (by decide +kernel)
set_option maxRecDepth 65536 in
theorem w_c45 : (Jvm.Cond.code ({ cls := "java/lang/String", name := "<init>", desc := "(Ljava/lang/StringBuilder;)V" } : Jvm.MethodName) jdk_42_method_53_code (2 : Nat) (Option.none : Option Jvm.ClassFile.FieldType)).before args0 about1 = true := code_word (m := ⟨7, 2⟩) (meth := k7m2) (c := k7c2) (by decide +kernel) rfl rfl rfl (by decide +kernel)
set_option maxRecDepth 65536 in
theorem w_c46 : (Jvm.Cond.code ({ cls := "java/lang/String", name := "<init>", desc := "(Ljava/lang/AbstractStringBuilder;Ljava/lang/Void;)V" } : Jvm.MethodName) jdk_42_method_150_code (5 : Nat) (Option.none : Option Jvm.ClassFile.FieldType)).before args0 about1 = true := code_word (m := ⟨7, 11⟩) (meth := k7m11) (c := k7c11) (by decide +kernel) rfl rfl rfl (by decide +kernel)
set_option maxRecDepth 65536 in
theorem w_c47 : (Jvm.Cond.code ({ cls := "java/lang/AbstractStringBuilder", name := "getValue", desc := "()[B" } : Jvm.MethodName) jdk_68_method_64_code (1 : Nat) (Option.some (Jvm.ClassFile.FieldType.array Jvm.ClassFile.FieldType.byte))).before args0 about1 = true := code_word (m := ⟨19, 5⟩) (meth := k19m5) (c := k19c5) (by decide +kernel) rfl rfl rfl (by decide +kernel)
set_option maxRecDepth 65536 in
theorem w_c48 : (Jvm.Cond.code ({ cls := "java/lang/StringBuilder", name := "length", desc := "()I" } : Jvm.MethodName) jdk_67_method_93_code (1 : Nat) (Option.some Jvm.ClassFile.FieldType.int)).before args0 about1 = true := code_word (m := ⟨20, 4⟩) (meth := k20m4) (c := k20c4) (by decide +kernel) rfl rfl rfl (by decide +kernel)
set_option maxRecDepth 65536 in
theorem w_c49 : (Jvm.Cond.code ({ cls := "java/lang/AbstractStringBuilder", name := "length", desc := "()I" } : Jvm.MethodName) jdk_68_method_6_code (1 : Nat) (Option.some Jvm.ClassFile.FieldType.int)).before args0 about1 = true := code_word (m := ⟨19, 2⟩) (meth := k19m2) (c := k19c2) (by decide +kernel) rfl rfl rfl (by decide +kernel)
set_option maxRecDepth 65536 in
theorem w_c50 : (Jvm.Cond.code ({ cls := "com/example/seshat/seshat/IdempotencyKey", name := "<init>", desc := "(Ljava/lang/String;)V" } : Jvm.MethodName) prog_3_method_1_code (4 : Nat) (Option.none : Option Jvm.ClassFile.FieldType)).before args0 about1 = true := code_word (m := ⟨10, 0⟩) (meth := k10m0) (c := k10c0) (by decide +kernel) rfl rfl rfl (by decide +kernel)
set_option maxRecDepth 65536 in
theorem w_c51 : (Jvm.Cond.code ({ cls := "java/lang/Record", name := "<init>", desc := "()V" } : Jvm.MethodName) jdk_30_method_1_code (1 : Nat) (Option.none : Option Jvm.ClassFile.FieldType)).before args0 about1 = true := code_word (m := ⟨9, 0⟩) (meth := k9m0) (c := k9c0) (by decide +kernel) rfl rfl rfl (by decide +kernel)
set_option maxRecDepth 65536 in
theorem w_c52 : (Jvm.Cond.code ({ cls := "java/lang/String", name := "isEmpty", desc := "()Z" } : Jvm.MethodName) jdk_42_method_55_code (1 : Nat) (Option.some Jvm.ClassFile.FieldType.boolean)).before args0 about1 = true := code_word (m := ⟨7, 4⟩) (meth := k7m4) (c := k7c4) (by decide +kernel) rfl rfl rfl (by decide +kernel)
set_option maxRecDepth 65536 in
theorem w_c53 : (Jvm.Cond.code ({ cls := "com/example/seshat/seshat/IdempotencyKey", name := "value", desc := "()Ljava/lang/String;" } : Jvm.MethodName) prog_3_method_11_code (1 : Nat) (Option.some (Jvm.ClassFile.FieldType.object "java/lang/String"))).before args0 about1 = true := code_word (m := ⟨10, 7⟩) (meth := k10m7) (c := k10c7) (by decide +kernel) rfl rfl rfl (by decide +kernel)
set_option maxRecDepth 65536 in
theorem w_c54 : (Jvm.Cond.code ({ cls := "java/lang/String", name := "equals", desc := "(Ljava/lang/Object;)Z" } : Jvm.MethodName) jdk_42_method_66_code (3 : Nat) (Option.some Jvm.ClassFile.FieldType.boolean)).before args0 about1 = true := code_word (m := ⟨7, 6⟩) (meth := k7m6) (c := k7c6) (by decide +kernel) rfl rfl rfl (by decide +kernel)
set_option maxRecDepth 65536 in
theorem w_c55 : (Jvm.Cond.code ({ cls := "java/lang/StringLatin1", name := "equals", desc := "([B[B)Z" } : Jvm.MethodName) jdk_43_method_13_code (3 : Nat) (Option.some Jvm.ClassFile.FieldType.boolean)).before args0 about1 = true := code_word (m := ⟨12, 3⟩) (meth := k12m3) (c := k12c3) (by decide +kernel) rfl rfl rfl (by decide +kernel)
set_option maxRecDepth 65536 in
theorem w_c56 : (Jvm.Cond.code ({ cls := "com/example/seshat/seshat/IdempotencyKey", name := "checkBare", desc := "(Ljava/lang/String;)Ljava/lang/String;" } : Jvm.MethodName) prog_3_method_7_code (3 : Nat) (Option.some (Jvm.ClassFile.FieldType.object "java/lang/String"))).before args0 about1 = true := code_word (m := ⟨10, 6⟩) (meth := k10m6) (c := k10c6) (by decide +kernel) rfl rfl rfl (by decide +kernel)
set_option maxRecDepth 65536 in
theorem w_c57 : (Jvm.Cond.code ({ cls := "com/example/seshat/seshat/IdempotencyKey", name := "isEscapable", desc := "(C)Z" } : Jvm.MethodName) prog_3_method_6_code (1 : Nat) (Option.some Jvm.ClassFile.FieldType.boolean)).before args0 about1 = true := code_word (m := ⟨10, 5⟩) (meth := k10m5) (c := k10c5) (by decide +kernel) rfl rfl rfl (by decide +kernel)
def codes1 : List Jvm.Cond := [Jvm.Cond.code x code maxLocals ret, Jvm.Cond.code ⟨"com/example/seshat/seshat/IdempotencyKeyParsePinLaw", "keyChar", "(I)C"⟩ method_3_code 1 (Option.some Jvm.ClassFile.FieldType.char), Jvm.Cond.code ⟨"com/example/seshat/seshat/IdempotencyKeyParsePinLaw", "plain", "(C)Z"⟩ method_4_code 1 (Option.some Jvm.ClassFile.FieldType.boolean), Jvm.Cond.code ⟨"com/example/seshat/seshat/IdempotencyKeyParsePinLaw", "width", "(CZZ)I"⟩ method_6_code 3 (Option.some Jvm.ClassFile.FieldType.int), Jvm.Cond.code ⟨"com/example/seshat/seshat/IdempotencyKeyParsePinLaw", "escaped", "(C)Z"⟩ method_5_code 1 (Option.some Jvm.ClassFile.FieldType.boolean), Jvm.Cond.code ⟨"com/example/seshat/seshat/IdempotencyKeyParsePinLaw", "wsChar", "(II)C"⟩ method_8_code 2 (Option.some Jvm.ClassFile.FieldType.char), Jvm.Cond.code ⟨"com/example/seshat/seshat/IdempotencyKeyParsePinLaw", "put", "([CICZZ)I"⟩ method_7_code 5 (Option.some Jvm.ClassFile.FieldType.int), Jvm.Cond.code ⟨"java/lang/String", "<init>", "([C)V"⟩ jdk_42_method_3_code 2 (Option.none : Option Jvm.ClassFile.FieldType), Jvm.Cond.code ⟨"java/lang/String", "<init>", "([CIILjava/lang/Void;)V"⟩ jdk_42_method_149_code 6 (Option.none : Option Jvm.ClassFile.FieldType), Jvm.Cond.code ⟨"java/lang/Object", "<init>", "()V"⟩ object_method_1_code 1 (Option.none : Option Jvm.ClassFile.FieldType), Jvm.Cond.code ⟨"java/lang/StringUTF16", "compress", "([CII)[B"⟩ jdk_52_method_16_code 6 (Option.some (Jvm.ClassFile.FieldType.array Jvm.ClassFile.FieldType.byte)), Jvm.Cond.code ⟨"java/lang/StringUTF16", "compress", "([CI[BII)I"⟩ jdk_52_method_21_code 7 (Option.some Jvm.ClassFile.FieldType.int), Jvm.Cond.code ⟨"java/lang/StringUTF16", "coderFromArrayLen", "([BI)B"⟩ jdk_52_method_15_code 2 (Option.some Jvm.ClassFile.FieldType.byte), Jvm.Cond.code ⟨"com/example/seshat/seshat/IdempotencyKey", "parse", "(Ljava/lang/String;)Lcom/example/seshat/seshat/IdempotencyKey;"⟩ prog_3_method_2_code 3 (Option.some (Jvm.ClassFile.FieldType.object "com/example/seshat/seshat/IdempotencyKey")), Jvm.Cond.code ⟨"java/util/Objects", "requireNonNull", "(Ljava/lang/Object;Ljava/lang/String;)Ljava/lang/Object;"⟩ jdk_31_method_11_code 2 (Option.some (Jvm.ClassFile.FieldType.object "java/lang/Object")), Jvm.Cond.code ⟨"com/example/seshat/seshat/IdempotencyKey", "trimWhitespace", "(Ljava/lang/String;)Ljava/lang/String;"⟩ prog_3_method_3_code 3 (Option.some (Jvm.ClassFile.FieldType.object "java/lang/String")), Jvm.Cond.code ⟨"java/lang/String", "length", "()I"⟩ jdk_42_method_54_code 1 (Option.some Jvm.ClassFile.FieldType.int), Jvm.Cond.code ⟨"java/lang/String", "coder", "()B"⟩ jdk_42_method_152_code 1 (Option.some Jvm.ClassFile.FieldType.byte), Jvm.Cond.code ⟨"java/lang/String", "charAt", "(I)C"⟩ jdk_42_method_56_code 2 (Option.some Jvm.ClassFile.FieldType.char), Jvm.Cond.code ⟨"java/lang/String", "isLatin1", "()Z"⟩ jdk_42_method_154_code 1 (Option.some Jvm.ClassFile.FieldType.boolean), Jvm.Cond.code ⟨"java/lang/StringLatin1", "charAt", "([BI)C"⟩ jdk_43_method_2_code 2 (Option.some Jvm.ClassFile.FieldType.char), Jvm.Cond.code ⟨"java/lang/String", "checkIndex", "(II)V"⟩ jdk_42_method_155_code 2 (Option.none : Option Jvm.ClassFile.FieldType), Jvm.Cond.code ⟨"jdk/internal/util/Preconditions", "checkIndex", "(IILjava/util/function/BiFunction;)I"⟩ jdk_41_method_11_code 3 (Option.some Jvm.ClassFile.FieldType.int), Jvm.Cond.code ⟨"com/example/seshat/seshat/IdempotencyKey", "isWhitespace", "(C)Z"⟩ prog_3_method_4_code 1 (Option.some Jvm.ClassFile.FieldType.boolean), Jvm.Cond.code ⟨"java/lang/String", "substring", "(II)Ljava/lang/String;"⟩ jdk_42_method_92_code 5 (Option.some (Jvm.ClassFile.FieldType.object "java/lang/String")), Jvm.Cond.code ⟨"java/lang/String", "checkBoundsBeginEnd", "(III)V"⟩ jdk_42_method_158_code 3 (Option.none : Option Jvm.ClassFile.FieldType), Jvm.Cond.code ⟨"jdk/internal/util/Preconditions", "checkFromToIndex", "(IIILjava/util/function/BiFunction;)I"⟩ jdk_41_method_12_code 4 (Option.some Jvm.ClassFile.FieldType.int), Jvm.Cond.code ⟨"java/lang/StringLatin1", "newString", "([BII)Ljava/lang/String;"⟩ jdk_43_method_47_code 3 (Option.some (Jvm.ClassFile.FieldType.object "java/lang/String")), Jvm.Cond.code ⟨"java/util/Arrays", "copyOfRange", "([BII)[B"⟩ jdk_65_method_132_code 3 (Option.some (Jvm.ClassFile.FieldType.array Jvm.ClassFile.FieldType.byte)), Jvm.Cond.code ⟨"java/util/Arrays", "copyOfRangeByte", "([BII)[B"⟩ jdk_65_method_133_code 5 (Option.some (Jvm.ClassFile.FieldType.array Jvm.ClassFile.FieldType.byte)), Jvm.Cond.code ⟨"java/util/Arrays", "checkLength", "(II)V"⟩ jdk_65_method_131_code 2 (Option.none : Option Jvm.ClassFile.FieldType), Jvm.Cond.code ⟨"java/lang/Math", "min", "(II)I"⟩ jdk_29_method_69_code 2 (Option.some Jvm.ClassFile.FieldType.int), Jvm.Cond.code ⟨"java/lang/String", "<init>", "([BB)V"⟩ jdk_42_method_151_code 3 (Option.none : Option Jvm.ClassFile.FieldType), Jvm.Cond.code ⟨"java/lang/String", "startsWith", "(Ljava/lang/String;)Z"⟩ jdk_42_method_76_code 2 (Option.some Jvm.ClassFile.FieldType.boolean), Jvm.Cond.code ⟨"java/lang/String", "startsWith", "(Ljava/lang/String;I)Z"⟩ jdk_42_method_75_code 8 (Option.some Jvm.ClassFile.FieldType.boolean), Jvm.Cond.code ⟨"jdk/internal/util/ArraysSupport", "mismatch", "([BI[BII)I"⟩ jdk_48_method_14_code 8 (Option.some Jvm.ClassFile.FieldType.int), Jvm.Cond.code ⟨"com/example/seshat/seshat/IdempotencyKey", "unquote", "(Ljava/lang/String;)Ljava/lang/String;"⟩ prog_3_method_5_code 5 (Option.some (Jvm.ClassFile.FieldType.object "java/lang/String")), Jvm.Cond.code ⟨"java/lang/StringBuilder", "<init>", "(I)V"⟩ jdk_67_method_2_code 2 (Option.none : Option Jvm.ClassFile.FieldType), Jvm.Cond.code ⟨"java/lang/AbstractStringBuilder", "<init>", "(I)V"⟩ jdk_68_method_2_code 2 (Option.none : Option Jvm.ClassFile.FieldType), Jvm.Cond.code ⟨"java/lang/StringBuilder", "append", "(C)Ljava/lang/StringBuilder;"⟩ jdk_67_method_14_code 2 (Option.some (Jvm.ClassFile.FieldType.object "java/lang/StringBuilder")), Jvm.Cond.code ⟨"java/lang/AbstractStringBuilder", "append", "(C)Ljava/lang/AbstractStringBuilder;"⟩ jdk_68_method_31_code 2 (Option.some (Jvm.ClassFile.FieldType.object "java/lang/AbstractStringBuilder")), Jvm.Cond.code ⟨"java/lang/AbstractStringBuilder", "ensureCapacityInternal", "(I)V"⟩ jdk_68_method_9_code 3 (Option.none : Option Jvm.ClassFile.FieldType), Jvm.Cond.code ⟨"java/lang/AbstractStringBuilder", "isLatin1", "()Z"⟩ jdk_68_method_68_code 1 (Option.some Jvm.ClassFile.FieldType.boolean), Jvm.Cond.code ⟨"java/lang/StringLatin1", "canEncode", "(C)Z"⟩ jdk_43_method_3_code 1 (Option.some Jvm.ClassFile.FieldType.boolean), Jvm.Cond.code ⟨"java/lang/StringBuilder", "toString", "()Ljava/lang/String;"⟩ jdk_67_method_42_code 1 (Option.some (Jvm.ClassFile.FieldType.object "java/lang/String")), Jvm.Cond.code ⟨"java/lang/String", "<init>", "(Ljava/lang/StringBuilder;)V"⟩ jdk_42_method_53_code 2 (Option.none : Option Jvm.ClassFile.FieldType), Jvm.Cond.code ⟨"java/lang/String", "<init>", "(Ljava/lang/AbstractStringBuilder;Ljava/lang/Void;)V"⟩ jdk_42_method_150_code 5 (Option.none : Option Jvm.ClassFile.FieldType), Jvm.Cond.code ⟨"java/lang/AbstractStringBuilder", "getValue", "()[B"⟩ jdk_68_method_64_code 1 (Option.some (Jvm.ClassFile.FieldType.array Jvm.ClassFile.FieldType.byte)), Jvm.Cond.code ⟨"java/lang/StringBuilder", "length", "()I"⟩ jdk_67_method_93_code 1 (Option.some Jvm.ClassFile.FieldType.int), Jvm.Cond.code ⟨"java/lang/AbstractStringBuilder", "length", "()I"⟩ jdk_68_method_6_code 1 (Option.some Jvm.ClassFile.FieldType.int), Jvm.Cond.code ⟨"com/example/seshat/seshat/IdempotencyKey", "<init>", "(Ljava/lang/String;)V"⟩ prog_3_method_1_code 4 (Option.none : Option Jvm.ClassFile.FieldType), Jvm.Cond.code ⟨"java/lang/Record", "<init>", "()V"⟩ jdk_30_method_1_code 1 (Option.none : Option Jvm.ClassFile.FieldType), Jvm.Cond.code ⟨"java/lang/String", "isEmpty", "()Z"⟩ jdk_42_method_55_code 1 (Option.some Jvm.ClassFile.FieldType.boolean), Jvm.Cond.code ⟨"com/example/seshat/seshat/IdempotencyKey", "value", "()Ljava/lang/String;"⟩ prog_3_method_11_code 1 (Option.some (Jvm.ClassFile.FieldType.object "java/lang/String")), Jvm.Cond.code ⟨"java/lang/String", "equals", "(Ljava/lang/Object;)Z"⟩ jdk_42_method_66_code 3 (Option.some Jvm.ClassFile.FieldType.boolean), Jvm.Cond.code ⟨"java/lang/StringLatin1", "equals", "([B[B)Z"⟩ jdk_43_method_13_code 3 (Option.some Jvm.ClassFile.FieldType.boolean), Jvm.Cond.code ⟨"com/example/seshat/seshat/IdempotencyKey", "checkBare", "(Ljava/lang/String;)Ljava/lang/String;"⟩ prog_3_method_7_code 3 (Option.some (Jvm.ClassFile.FieldType.object "java/lang/String")), Jvm.Cond.code ⟨"com/example/seshat/seshat/IdempotencyKey", "isEscapable", "(C)Z"⟩ prog_3_method_6_code 1 (Option.some Jvm.ClassFile.FieldType.boolean)]
set_option maxRecDepth 65536 in
theorem codes_eq : words1.filter isCode = codes1 := rfl
theorem w_codes : ∀ c ∈ words1.filter isCode, c.before args0 about1 = true := by
  rw [codes_eq]
  intro c hc
  simp only [codes1, List.mem_cons, List.not_mem_nil, or_false] at hc
  rcases hc with rfl | rfl | rfl | rfl | rfl | rfl | rfl | rfl | rfl | rfl | rfl | rfl | rfl | rfl | rfl | rfl | rfl | rfl | rfl | rfl | rfl | rfl | rfl | rfl | rfl | rfl | rfl | rfl | rfl | rfl | rfl | rfl | rfl | rfl | rfl | rfl | rfl | rfl | rfl | rfl | rfl | rfl | rfl | rfl | rfl | rfl | rfl | rfl | rfl | rfl | rfl | rfl | rfl | rfl | rfl | rfl | rfl | rfl
  · exact w_c0
  · exact w_c1
  · exact w_c2
  · exact w_c3
  · exact w_c4
  · exact w_c5
  · exact w_c6
  · exact w_c7
  · exact w_c8
  · exact w_c9
  · exact w_c10
  · exact w_c11
  · exact w_c12
  · exact w_c13
  · exact w_c14
  · exact w_c15
  · exact w_c16
  · exact w_c17
  · exact w_c18
  · exact w_c19
  · exact w_c20
  · exact w_c21
  · exact w_c22
  · exact w_c23
  · exact w_c24
  · exact w_c25
  · exact w_c26
  · exact w_c27
  · exact w_c28
  · exact w_c29
  · exact w_c30
  · exact w_c31
  · exact w_c32
  · exact w_c33
  · exact w_c34
  · exact w_c35
  · exact w_c36
  · exact w_c37
  · exact w_c38
  · exact w_c39
  · exact w_c40
  · exact w_c41
  · exact w_c42
  · exact w_c43
  · exact w_c44
  · exact w_c45
  · exact w_c46
  · exact w_c47
  · exact w_c48
  · exact w_c49
  · exact w_c50
  · exact w_c51
  · exact w_c52
  · exact w_c53
  · exact w_c54
  · exact w_c55
  · exact w_c56
  · exact w_c57
set_option maxRecDepth 65536 in
theorem w_t1 : (words1.take 24).all (fun c => isCode c || c.before args0 about1) = true := by decide +kernel
set_option maxRecDepth 65536 in
theorem w_t2 : ((words1.drop 24).take 24).all (fun c => isCode c || c.before args0 about1) = true := by decide +kernel
set_option maxRecDepth 65536 in
theorem w_t3 : (((words1.drop 24).drop 24).take 24).all (fun c => isCode c || c.before args0 about1) = true := by decide +kernel
set_option maxRecDepth 65536 in
theorem w_t4 : ((((words1.drop 24).drop 24).drop 24).take 24).all (fun c => isCode c || c.before args0 about1) = true := by decide +kernel
set_option maxRecDepth 65536 in
theorem w_t5 : (((((words1.drop 24).drop 24).drop 24).drop 24).take 24).all (fun c => isCode c || c.before args0 about1) = true := by decide +kernel
set_option maxRecDepth 65536 in
theorem w_t6 : ((((((words1.drop 24).drop 24).drop 24).drop 24).drop 24).take 24).all (fun c => isCode c || c.before args0 about1) = true := by decide +kernel
set_option maxRecDepth 65536 in
theorem w_t7 : (((((((words1.drop 24).drop 24).drop 24).drop 24).drop 24).drop 24).take 24).all (fun c => isCode c || c.before args0 about1) = true := by decide +kernel
set_option maxRecDepth 65536 in
theorem w_t8 : ((((((((words1.drop 24).drop 24).drop 24).drop 24).drop 24).drop 24).drop 24).take 24).all (fun c => isCode c || c.before args0 about1) = true := by decide +kernel
set_option maxRecDepth 65536 in
theorem w_t9 : (((((((((words1.drop 24).drop 24).drop 24).drop 24).drop 24).drop 24).drop 24).drop 24).take 24).all (fun c => isCode c || c.before args0 about1) = true := by decide +kernel
set_option maxRecDepth 65536 in
theorem w_t10 : ((((((((((words1.drop 24).drop 24).drop 24).drop 24).drop 24).drop 24).drop 24).drop 24).drop 24).take 24).all (fun c => isCode c || c.before args0 about1) = true := by decide +kernel
set_option maxRecDepth 65536 in
theorem w_t11 : (((((((((((words1.drop 24).drop 24).drop 24).drop 24).drop 24).drop 24).drop 24).drop 24).drop 24).drop 24).take 24).all (fun c => isCode c || c.before args0 about1) = true := by decide +kernel
set_option maxRecDepth 65536 in
theorem w_t12 : (((((((((((words1.drop 24).drop 24).drop 24).drop 24).drop 24).drop 24).drop 24).drop 24).drop 24).drop 24).drop 24).all (fun c => isCode c || c.before args0 about1) = true := by decide +kernel
theorem w_tables : (allAtoms (Jvm.Cond.code x code maxLocals ret :: tables_1)).before args0 about1 = true := by
  rw [allAtoms_all]
  show words1.all (fun c => c.before args0 about1) = true
  refine all_split ?_ w_codes
  rw [← List.take_append_drop 24 words1, List.all_append, w_t1, ← List.take_append_drop 24 (words1.drop 24), List.all_append, w_t2, ← List.take_append_drop 24 ((words1.drop 24).drop 24), List.all_append, w_t3, ← List.take_append_drop 24 (((words1.drop 24).drop 24).drop 24), List.all_append, w_t4, ← List.take_append_drop 24 ((((words1.drop 24).drop 24).drop 24).drop 24), List.all_append, w_t5, ← List.take_append_drop 24 (((((words1.drop 24).drop 24).drop 24).drop 24).drop 24), List.all_append, w_t6, ← List.take_append_drop 24 ((((((words1.drop 24).drop 24).drop 24).drop 24).drop 24).drop 24), List.all_append, w_t7, ← List.take_append_drop 24 (((((((words1.drop 24).drop 24).drop 24).drop 24).drop 24).drop 24).drop 24), List.all_append, w_t8, ← List.take_append_drop 24 ((((((((words1.drop 24).drop 24).drop 24).drop 24).drop 24).drop 24).drop 24).drop 24), List.all_append, w_t9, ← List.take_append_drop 24 (((((((((words1.drop 24).drop 24).drop 24).drop 24).drop 24).drop 24).drop 24).drop 24).drop 24), List.all_append, w_t10, ← List.take_append_drop 24 ((((((((((words1.drop 24).drop 24).drop 24).drop 24).drop 24).drop 24).drop 24).drop 24).drop 24).drop 24), List.all_append, w_t11, w_t12]
  rfl
set_option maxRecDepth 65536 in
theorem w_rest : rest_1_c.before args0 about1 = true := by decide +kernel
set_option maxRecDepth 65536 in
theorem w_case : (Jvm.Cond.and given_1 narrow_1).before args0 about1 = true := by decide +kernel
set_option maxRecDepth 65536 in
theorem w_consts : constsHeld consts_1 about1 := Jvm.Lit.constsHeldB_iff.mp (by decide +kernel)
theorem w_applies : (headSpec (Jvm.Cond.code x code maxLocals ret :: tables_1) room_1).applies x e0.platform about1 = true :=
  (Spec.applies_iff w_frames).mpr ⟨w_running, w_runnable, w_alone, w_named, w_hears, w_ripe, w_room, w_tables⟩
theorem atStart : AtStart classFile x code maxLocals ret World_1 tables_1 room_1 Calls_1 rest_1 Pre_1 launch0 p0 e0 about1 theMethod args0 below0 :=
  ⟨lists_1, trivial, launch0.admits_env _ _ _, launch0.least_env, fairChoices_fair.cas, fairChoices_fair.clock, w_frames, w_args, w_heap, w_applies, ⟨w_consts, trivial⟩, w_rest, w_case⟩
end start1
theorem witness_1 : WitnessClaimed_1 := ⟨start1.p0, start1.e0, start1.about1, start1.theMethod, start1.args0, start1.below0, start1.atStart⟩
end Jvm.Pilot.@@N@@
