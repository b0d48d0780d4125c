import JvmDerived
import JvmDerived.Pilot.@@N@@Statement
import JvmDerived.Pilot.@@N@@Code
set_option linter.unusedVariables false
set_option linter.unusedSimpArgs false
namespace Jvm.RoadKit
open Sem ClassFile Op Lib Jvm.Stand Jvm.Free Jvm.LawKit
section Own
variable {p : Program} {l : Launch} {e : Env} {R : Room} {s : State} {m : MethodId} {args : Array Value} {below : List Frame} {meth : Method} {c : Code} {T : State} {locs : List Loc} {cells slots : Nat}
theorem retI (X : Stand p l e R s m args below meth c T locs cells slots) (hx : p.tables.exec = Jvm.exec) {pc : Nat} {Ls : Array Slot} {z : Int32} {rest : List Value} (hret : meth.sig.returnType = some .int) (hd : decode c.code pc = .ok (.ireturn, 1)) {fs : List Frame}
    (hl : ∀ (f : JFrame) (acts : List Action), f.method = m → f.locked = none → f.entered = [] → (doReturn e (T.setTop f) acts (some (.int z))).1 = T.setFrames fs) : Steps p.tables e below (T.setTop (mkF m pc Ls (.int z :: rest))) (T.setFrames fs) :=
  retOut X hx hret rfl (Or.inl ⟨rfl, Or.inl rfl, _, rfl⟩) hd hl
variable {Q : Option Value → Heap → List Loc → Prop} {kc ks : Nat} {S S' : State}
section H
variable {Z : State} {EL : List (String × Nat)} {QH : Option Value → Heap → List Loc → (Addr → Prop) → Prop} {a0 : Array Value} {h : Heap} {vm0 : Vm}
/-- a callee that may intern, at a site: what is Safe there goes in, what is Safe at its end comes out -/
theorem backOfY {y : MethodName} {bytes : ByteArray} {maxL : Nat} {ret : Option FieldType} {rm : Room} {len W : Nat} {as' : Array Value} {sf : List Addr}
    (hM : MetFree l y (head1 [Cond.code y bytes maxL ret] rm) (fun a U => a = as' ∧ Z.Warmed39 U.vm ∧ U.heap = h ∧ CHv Z EL U.vm h ∧ ∀ x ∈ sf, Safe Z EL U.vm h x) (fun _ _ _ _ _ => True) (fun _ U o U' => ∃ v L, o = .returned v ∧ QH v U'.heap L (Safe Z EL U'.vm U'.heap) ∧ CHr Z EL U.vm U.heap U'.vm U'.heap ∧ ReturnedEndW U o U' L rm.cells rm.slots))
    (hZ : Z.Warmed39 vm0) (wc : (Cond.code y bytes maxL ret).before a0 Z = true) (wz : (Cond.initialized y.cls).before a0 Z = true) (hf : rm.frames + 1 ≤ R.frames) (hl : W + (maxL + 11) + rm.locals ≤ R.locals) (hEL : EW Z a0 EL) (H : CHv Z EL vm0 h) (hs : ∀ x ∈ sf, Safe Z EL vm0 h x) (hlt : ∀ x ∈ sf, x < h.size) :
    BackS l R p e below (s.setVm vm0) args y len W (fun A a => a = as' ∧ A.U.heap = h ∧ A.cells + rm.cells ≤ R.cells ∧ A.slots + rm.slots ≤ R.slots)
      (fun A _ v B => ∃ L, QH v B.U.heap L (Safe Z EL B.U.vm B.U.heap) ∧ B.locs = A.locs ++ L ∧ B.cells = A.cells + rm.cells ∧ B.slots = A.slots + rm.slots ∧ CHr Z EL vm0 h B.U.vm B.U.heap) := by
  refine BackS.of_freeW (bytes := bytes) (maxL := maxL) (ret := ret) (E := fun _ first o t L k n => k = rm.cells ∧ n = rm.slots ∧ (∃ v, o = .returned v ∧ QH v t.heap L (Safe Z EL t.vm t.heap)) ∧ CHr Z EL first.vm first.heap t.vm t.heap) hM hf hl ?_ ?_ (fun _ _ _ _ _ _ _ _ _ => trivial) ?_ ?_
  · intro m meth c A a Y hp
    have hU : Z.Warmed39 A.U.vm := wtrans (s := s.setVm vm0) hZ Y.warmed
    exact ⟨by show (Cond.and _ .tt).before a A.U = true; rw [Cond.before_and, mv hU wc]; rfl, mv hU wc, mv hU wz, hp.2.2.1, hp.2.2.2⟩
  · intro m meth c A a g mk Y hp
    have q := CHv.at Y hZ hEL H
    exact ⟨hp.1, wtrans (s := s.setVm vm0) hZ Y.warmed, hp.2.1, q.1, fun x hx => q.safe (hlt x hx) (hs x hx)⟩
  · rintro _ _ _ _ ⟨v, L, h1, h2, h3, h4⟩
    exact ⟨L, _, _, h4, rfl, rfl, ⟨v, h1, h2⟩, h3⟩
  · rintro m meth c A a g mk v t L k n Y hp - - ⟨e1, e2, ⟨v', e3, e4⟩, e5⟩
    cases e3; subst e1 e2
    refine ⟨L, e4, rfl, rfl, rfl, (CHv.at Y hZ hEL H).trans ?_⟩
    rw [← hp.2.1]; exact e5
end H
theorem own_len {Z : State} {args : Array Value} {t : Term} {a : Addr} {c : Cell} {ty : FieldType} {z : Int32} (ev : t.eval args Z none [] Z = some (.ref a)) (A : Arr Z Z.heap a c ty) (h : (Cond.eq (.length t) (.int z)).value args Z none Z [] = some true) : c.slots.size < 2 ^ 31 ∧ c.slots.size.toInt32 = z := by
  have ha := A.fin (U := Z) (Vm.Alike.refl _)
  by_cases q : c.slots.size < 2 ^ 31
  · exact ⟨q, gotT (Cond.eq_ints (len_f ev ha q) (Term.int_eval z)) h⟩
  · simp [Cond.value, Term.eval, ev, ha, q] at h
theorem own_narref {t : FieldType} {w : Value} (h : w.isRef = true) : narrow t w = w := by
  rcases XT.refc h with rfl | ⟨r, rfl⟩ <;> cases t <;> rfl
theorem own_fitsref {t : FieldType} {w : Value} (ht : t.isReference = true) (h : w.isRef = true) : fits t w = true := by
  rcases XT.refc h with rfl | ⟨r, rfl⟩ <;> cases t <;> first | rfl | (cases ht)
theorem nar_c (x : Int32) : nar .char x.toUInt32.toUInt16.toUInt32.toInt32 = x.toUInt32.toUInt16.toUInt32.toInt32 := by
  have := XT.narrow_c x
  simpa [narrow, nar] using this
theorem nar_b (x : Int32) : nar .byte x.toInt8.toInt32 = x.toInt8.toInt32 := by
  have := XT.narrow_b x
  simpa [narrow, nar] using this
theorem nar_ite {P : Prop} [Decidable P] : nar .boolean (if P then (1 : Int32) else 0) = (if P then (1 : Int32) else 0) := by split <;> decide
theorem nar_ite' {P : Prop} [Decidable P] : nar .boolean (if P then (0 : Int32) else 1) = (if P then (0 : Int32) else 1) := by split <;> decide
theorem narrow_nar {t : FieldType} {z : Int32} (ht : t = .boolean ∨ t = .byte ∨ t = .char ∨ t = .short) (h : nar t z = z) : narrow t (.int z) = .int z := by
  have hn : narrow t (.int z) = .int (nar t z) := by rcases ht with rfl | rfl | rfl | rfl <;> rfl
  rw [hn, h]
end Own
/-- the run that stands in S ends as E says -/
def Runs (p : Program) (e : Env) (below : List Frame) (E : State → Outcome → Prop) (S : State) : Prop :=
  ∃ s₂ o, Steps p.tables e below S s₂ ∧ s₂.status = .running ∧ Ended s₂ below o ∧ E s₂ o
theorem Runs.by {p : Program} {e : Env} {below : List Frame} {E : State → Outcome → Prop} {S S' : State} (k : Runs p e below E S') (st : ∀ t, Steps p.tables e below S' t → Steps p.tables e below S t) : Runs p e below E S := by
  obtain ⟨s₂, o, h1, h2⟩ := k
  exact ⟨s₂, o, st _ h1, h2⟩
theorem Runs.tr {p : Program} {e : Env} {below : List Frame} {E : State → Outcome → Prop} {S S' : State} (k : Runs p e below E S') (st : Steps p.tables e below S S') : Runs p e below E S := by
  obtain ⟨s₂, o, h1, h2⟩ := k
  exact ⟨s₂, o, st.trans h1, h2⟩
def EndN (s : State) (Q : Option Value → Heap → List Loc → Prop) (kc ks : Nat) : State → Outcome → Prop := fun s₂ o => ∃ v L, o = .returned v ∧ Q v s₂.heap L ∧ FrameEnd s o s₂ L kc ks
def EndH (s Z : State) (EL : List (String × Nat)) (Q : Option Value → Heap → List Loc → (Addr → Prop) → Prop) (kc ks : Nat) : State → Outcome → Prop := fun s₂ o => ∃ v L, o = .returned v ∧ Q v s₂.heap L (Safe Z EL s₂.vm s₂.heap) ∧ CHr Z EL s.vm s.heap s₂.vm s₂.heap ∧ ReturnedEndW s o s₂ L kc ks
section W
variable {p : Program} {l : Launch} {e : Env} {Rm : Room} {s : State} {m : MethodId} {args : Array Value} {below : List Frame} {meth : Method} {c : Code} {T : State} {locs : List Loc} {cells slots : Nat} {E : State → Outcome → Prop} {pc pc' : Nat} {Ls : Array Slot} {st : List Value}
theorem w_done (X : Stand p l e Rm s m args below meth c T locs cells slots) (hlk : meth.locks = false) {Q : Option Value → Heap → List Loc → Prop} {kc ks : Nat} {h : Heap} {v : Option Value} {g : JFrame} (eT : T.heap = h) (hv : meth.sig.returnType = none → v = none)
    (hr : ∀ fs, (∀ (f : JFrame) (acts : List Action), f.method = m → f.locked = none → f.entered = [] → (doReturn e (T.setTop f) acts v).1 = T.setFrames fs) → Steps p.tables e below (T.setTop g) (T.setFrames fs)) (hc : cells ≤ kc) (hn : slots ≤ ks) (hQ : Q v h locs) : Runs p e below (EndN s Q kc ks) (T.setTop g) := by
  obtain ⟨fs, h1, hrun, hended, hW, hsame⟩ := X.leave hv hlk
  subst eT
  exact ⟨_, _, hr fs h1, hrun, hended, v, locs, rfl, hQ, ⟨_, rfl⟩, hW, hsame.mono hc hn⟩
theorem w_aload (X : Stand p l e Rm s m args below meth c T locs cells slots) (hx : p.tables.exec = Jvm.exec) {k : Nat} {v : Value} (hd : decode c.code pc = .ok (.aload k, 2)) (hl : Ls[k]? = some (.val v)) (hv : v.isRef = true) (hp : pc + 2 = pc') (K : Runs p e below E (T.setTop (mkF m pc' Ls (v :: st)))) : Runs p e below E (T.setTop (mkF m pc Ls st)) := by
  subst hp; exact K.by fun _ k => XS.aload X.here hx rfl hd hl hv k
theorem w_aloadN (X : Stand p l e Rm s m args below meth c T locs cells slots) (hx : p.tables.exec = Jvm.exec) {k : Fin 4} {v : Value} (hd : decode c.code pc = .ok (.aload_n k, 1)) (hl : Ls[k.val]? = some (.val v)) (hv : v.isRef = true) (hp : pc + 1 = pc') (K : Runs p e below E (T.setTop (mkF m pc' Ls (v :: st)))) : Runs p e below E (T.setTop (mkF m pc Ls st)) := by
  subst hp; exact K.by fun _ k => XS.aloadN X.here hx rfl hd hl hv k
theorem w_iload (X : Stand p l e Rm s m args below meth c T locs cells slots) (hx : p.tables.exec = Jvm.exec) {k : Nat} {v : Int32} (hd : decode c.code pc = .ok (.iload k, 2)) (hl : Ls[k]? = some (.val (.int v))) (hp : pc + 2 = pc') (K : Runs p e below E (T.setTop (mkF m pc' Ls (.int v :: st)))) : Runs p e below E (T.setTop (mkF m pc Ls st)) := by
  subst hp; exact K.by fun _ k => XS.iload X.here hx rfl hd hl k
theorem w_iloadN (X : Stand p l e Rm s m args below meth c T locs cells slots) (hx : p.tables.exec = Jvm.exec) {k : Fin 4} {v : Int32} (hd : decode c.code pc = .ok (.iload_n k, 1)) (hl : Ls[k.val]? = some (.val (.int v))) (hp : pc + 1 = pc') (K : Runs p e below E (T.setTop (mkF m pc' Ls (.int v :: st)))) : Runs p e below E (T.setTop (mkF m pc Ls st)) := by
  subst hp; exact K.by fun _ k => XS.iloadN X.here hx rfl hd hl k
theorem w_istore (X : Stand p l e Rm s m args below meth c T locs cells slots) (hx : p.tables.exec = Jvm.exec) {k : Nat} {x : Int32} {L' : Array Slot} (hd : decode c.code pc = .ok (.istore k, 2)) (hl : storeLocals Ls k (.int x) = some L') (hp : pc + 2 = pc') (K : Runs p e below E (T.setTop (mkF m pc' L' st))) : Runs p e below E (T.setTop (mkF m pc Ls (.int x :: st))) := by
  subst hp; exact K.by fun _ k => XS.istore X.here hx rfl hd rfl hl k
theorem w_astore (X : Stand p l e Rm s m args below meth c T locs cells slots) (hx : p.tables.exec = Jvm.exec) {k : Nat} {x : Value} {L' : Array Slot} (hd : decode c.code pc = .ok (.astore k, 2)) (hv : x.isRef = true) (hl : storeLocals Ls k x = some L') (hp : pc + 2 = pc') (K : Runs p e below E (T.setTop (mkF m pc' L' st))) : Runs p e below E (T.setTop (mkF m pc Ls (x :: st))) := by
  subst hp; exact K.by fun _ k => XS.astore X.here hx rfl hd rfl hv hl k
theorem w_iconst (X : Stand p l e Rm s m args below meth c T locs cells slots) (hx : p.tables.exec = Jvm.exec) {i : Int} {v : Int32} (hd : decode c.code pc = .ok (.iconst i, 1)) (hv : Int32.ofInt i = v) (hp : pc + 1 = pc') (K : Runs p e below E (T.setTop (mkF m pc' Ls (.int v :: st)))) : Runs p e below E (T.setTop (mkF m pc Ls st)) := by
  subst hp; exact K.by fun _ k => XT.iconstV X.here hx rfl v hd hv k
theorem w_bipush (X : Stand p l e Rm s m args below meth c T locs cells slots) (hx : p.tables.exec = Jvm.exec) {i : Int} {v : Int32} (hd : decode c.code pc = .ok (.bipush i, 2)) (hv : (Int8.ofInt i).toInt32 = v) (hp : pc + 2 = pc') (K : Runs p e below E (T.setTop (mkF m pc' Ls (.int v :: st)))) : Runs p e below E (T.setTop (mkF m pc Ls st)) := by
  subst hp; exact K.by fun _ k => XT.bipushV X.here hx rfl v hd hv k
theorem w_sipush (X : Stand p l e Rm s m args below meth c T locs cells slots) (hx : p.tables.exec = Jvm.exec) {i : Int} {v : Int32} (hd : decode c.code pc = .ok (.sipush i, 3)) (hv : (Int16.ofInt i).toInt32 = v) (hp : pc + 3 = pc') (K : Runs p e below E (T.setTop (mkF m pc' Ls (.int v :: st)))) : Runs p e below E (T.setTop (mkF m pc Ls st)) := by
  subst hp; exact K.by fun _ k => XT.sipushV X.here hx rfl v hd hv k
theorem w_iand (X : Stand p l e Rm s m args below meth c T locs cells slots) (hx : p.tables.exec = Jvm.exec) {x y : Int32} (hd : decode c.code pc = .ok (.iand, 1))  (hp : pc + 1 = pc') (K : Runs p e below E (T.setTop (mkF m pc' Ls (.int (x &&& y) :: st)))) : Runs p e below E (T.setTop (mkF m pc Ls (.int y :: .int x :: st))) := by
  subst hp; exact K.by fun _ k => XS.iand X.here hx rfl hd rfl k
theorem w_ixor (X : Stand p l e Rm s m args below meth c T locs cells slots) (hx : p.tables.exec = Jvm.exec) {x y : Int32} (hd : decode c.code pc = .ok (.ixor, 1))  (hp : pc + 1 = pc') (K : Runs p e below E (T.setTop (mkF m pc' Ls (.int (x ^^^ y) :: st)))) : Runs p e below E (T.setTop (mkF m pc Ls (.int y :: .int x :: st))) := by
  subst hp; exact K.by fun _ k => XS.ixor X.here hx rfl hd rfl k
theorem w_i2b (X : Stand p l e Rm s m args below meth c T locs cells slots) (hx : p.tables.exec = Jvm.exec) {x : Int32} (hd : decode c.code pc = .ok (.i2b, 1))  (hp : pc + 1 = pc') (K : Runs p e below E (T.setTop (mkF m pc' Ls (.int (x.toInt8.toInt32) :: st)))) : Runs p e below E (T.setTop (mkF m pc Ls (.int x :: st))) := by
  subst hp; exact K.by fun _ k => XS.i2b X.here hx rfl hd rfl k
theorem w_i2c (X : Stand p l e Rm s m args below meth c T locs cells slots) (hx : p.tables.exec = Jvm.exec) {x : Int32} (hd : decode c.code pc = .ok (.i2c, 1))  (hp : pc + 1 = pc') (K : Runs p e below E (T.setTop (mkF m pc' Ls (.int (x.toUInt32.toUInt16.toUInt32.toInt32) :: st)))) : Runs p e below E (T.setTop (mkF m pc Ls (.int x :: st))) := by
  subst hp; exact K.by fun _ k => XS.i2c X.here hx rfl hd rfl k
theorem w_ishr (X : Stand p l e Rm s m args below meth c T locs cells slots) (hx : p.tables.exec = Jvm.exec) {x y : Int32} (hd : decode c.code pc = .ok (.ishr, 1))  (hp : pc + 1 = pc') (K : Runs p e below E (T.setTop (mkF m pc' Ls (.int (x >>> (y &&& 31)) :: st)))) : Runs p e below E (T.setTop (mkF m pc Ls (.int y :: .int x :: st))) := by
  subst hp; exact K.by fun _ k => XS.ishr X.here hx rfl hd rfl k
theorem w_iushr (X : Stand p l e Rm s m args below meth c T locs cells slots) (hx : p.tables.exec = Jvm.exec) {x y : Int32} (hd : decode c.code pc = .ok (.iushr, 1))  (hp : pc + 1 = pc') (K : Runs p e below E (T.setTop (mkF m pc' Ls (.int ((x.toUInt32 >>> (y &&& 31).toUInt32).toInt32) :: st)))) : Runs p e below E (T.setTop (mkF m pc Ls (.int y :: .int x :: st))) := by
  subst hp; exact K.by fun _ k => XS.iushr X.here hx rfl hd rfl k
theorem w_dup (X : Stand p l e Rm s m args below meth c T locs cells slots) (hx : p.tables.exec = Jvm.exec) {x : Value} (hd : decode c.code pc = .ok (.dup, 1)) (hc : x.category = 1) (hp : pc + 1 = pc') (K : Runs p e below E (T.setTop (mkF m pc' Ls (x :: x :: st)))) : Runs p e below E (T.setTop (mkF m pc Ls (x :: st))) := by
  subst hp; exact K.by fun _ k => XS.dup X.here hx rfl hd rfl hc k
theorem w_pop (X : Stand p l e Rm s m args below meth c T locs cells slots) (hx : p.tables.exec = Jvm.exec) {x : Value} (hd : decode c.code pc = .ok (.pop, 1)) (hc : x.category = 1) (hp : pc + 1 = pc') (K : Runs p e below E (T.setTop (mkF m pc' Ls st))) : Runs p e below E (T.setTop (mkF m pc Ls (x :: st))) := by
  subst hp; exact K.by fun _ k => XS.pop X.here hx rfl hd rfl hc k
theorem w_goto (X : Stand p l e Rm s m args below meth c T locs cells slots) (hx : p.tables.exec = Jvm.exec) {o : Int} (hd : decode c.code pc = .ok (.goto o, 3))  (ho : 0 ≤ (pc : Int) + o) (hp : ((pc : Int) + o).toNat = pc') (K : Runs p e below E (T.setTop (mkF m pc' Ls st))) : Runs p e below E (T.setTop (mkF m pc Ls st)) := by
  exact K.by fun _ k => XS.goto X.here hx rfl rfl hd ho hp k
theorem w_ifN (X : Stand p l e Rm s m args below meth c T locs cells slots) (hx : p.tables.exec = Jvm.exec) {cd : ClassFile.Cond} {x : Int32} {o : Int} (hd : decode c.code pc = .ok (.ifCond cd o, 3)) (hc : if_icmp.holds cd x 0 = false) (hp : pc + 3 = pc') (K : Runs p e below E (T.setTop (mkF m pc' Ls st))) : Runs p e below E (T.setTop (mkF m pc Ls (.int x :: st))) := by
  subst hp; exact K.by fun _ k => XS.ifNo X.here hx rfl hd rfl ((if0 _ _).trans hc) k
theorem w_icY (X : Stand p l e Rm s m args below meth c T locs cells slots) (hx : p.tables.exec = Jvm.exec) {cd : ClassFile.Cond} {x y : Int32} {o : Int} (hd : decode c.code pc = .ok (.if_icmp cd o, 3)) (hc : if_icmp.holds cd x y = true) (ho : 0 ≤ (pc : Int) + o) (hp : ((pc : Int) + o).toNat = pc') (K : Runs p e below E (T.setTop (mkF m pc' Ls st))) : Runs p e below E (T.setTop (mkF m pc Ls (.int y :: .int x :: st))) := by
  exact K.by fun _ k => XS.icmpYes X.here hx rfl rfl hd rfl hc ho hp k
theorem w_icN (X : Stand p l e Rm s m args below meth c T locs cells slots) (hx : p.tables.exec = Jvm.exec) {cd : ClassFile.Cond} {x y : Int32} {o : Int} (hd : decode c.code pc = .ok (.if_icmp cd o, 3)) (hc : if_icmp.holds cd x y = false) (hp : pc + 3 = pc') (K : Runs p e below E (T.setTop (mkF m pc' Ls st))) : Runs p e below E (T.setTop (mkF m pc Ls (.int y :: .int x :: st))) := by
  subst hp; exact K.by fun _ k => XS.icmpNo X.here hx rfl hd rfl hc k
theorem w_ifnullN (X : Stand p l e Rm s m args below meth c T locs cells slots) (hx : p.tables.exec = Jvm.exec) {b : Addr} {o : Int} (hd : decode c.code pc = .ok (.ifnull o, 3))  (hp : pc + 3 = pc') (K : Runs p e below E (T.setTop (mkF m pc' Ls st))) : Runs p e below E (T.setTop (mkF m pc Ls (.ref b :: st))) := by
  subst hp; exact K.by fun _ k => XS.ifnullNo X.here hx rfl hd rfl k
theorem w_getF (X : Stand p l e Rm s m args below meth c T locs cells slots) (hx : p.tables.exec = Jvm.exec) {Z : State} {a0 : Array Value} {h : Heap} {own R0 O n d : String} (host : String) {index : Nat} {a : Addr} {v : Value} (hZ : Z.Warmed39 s.vm) (hown : s.vm.findClass own = some m.cls) (w : (Cond.fieldLink own index R0 n d).before a0 Z = true ∨ (Cond.fieldLinkNest own index R0 n d host).before a0 Z = true) (via : Via Z R0 O n d) (eT : T.heap = h) (F : Fld Z h a O n d v) (hd : decode c.code pc = .ok (.getfield index, 3)) (hp : pc + 3 = pc') (K : ∀ T' : State, Stand p l e Rm s m args below meth c T' locs cells slots → T'.heap = h → Runs p e below E (T'.setTop (mkF m pc' Ls (v :: st)))) : Runs p e below E (T.setTop (mkF m pc Ls (.ref a :: st))) := by
  subst hp
  obtain ⟨T1, X1, e1, st1⟩ := getF X hx hZ hown (host := host) w via eT F (g := mkF m pc Ls (.ref a :: st)) rfl rfl hd
  exact (K T1 X1 e1).by st1
theorem w_getS (X : Stand p l e Rm s m args below meth c T locs cells slots) (hx : p.tables.exec = Jvm.exec) {Z : State} {a0 : Array Value} {h : Heap} {own R0 O n d : String} (host : String) {index : Nat} {v : Value} (hZ : Z.Warmed39 s.vm) (hown : s.vm.findClass own = some m.cls) (w : (Cond.fieldLink own index R0 n d).before a0 Z = true ∨ (Cond.fieldLinkNest own index R0 n d host).before a0 Z = true) (via : Via Z R0 O n d) (eT : T.heap = h) (F : Sta Z h O n d v) (hd : decode c.code pc = .ok (.getstatic index, 3)) (hp : pc + 3 = pc') (K : ∀ T' : State, Stand p l e Rm s m args below meth c T' locs cells slots → T'.heap = h → Runs p e below E (T'.setTop (mkF m pc' Ls (v :: st)))) : Runs p e below E (T.setTop (mkF m pc Ls st)) := by
  subst hp
  obtain ⟨T1, X1, e1, st1⟩ := getS2 X hx hZ hown (host := host) w via eT F (g := mkF m pc Ls st) rfl hd
  exact (K T1 X1 e1).by st1
theorem w_putF (X : Stand p l e Rm s m args below meth c T locs cells slots) (hx : p.tables.exec = Jvm.exec) {Z : State} {a0 : Array Value} {h : Heap} {own R0 O n d C : String} (host : String) {index kk : Nat} {ty : FieldType} {a : Addr} {v old : Value} (hZ : Z.Warmed39 s.vm) (hown : s.vm.findClass own = some m.cls) (w : (Cond.fieldLink own index R0 n d).before a0 Z = true ∨ (Cond.fieldLinkNest own index R0 n d host).before a0 Z = true) (via : Via Z R0 O n d) (eT : T.heap = h) (F : Fld Z h a O n d old) (Ex : Exa Z h a C) (Ly : (Cond.lays C O n d).before a0 Z = true ∨ ((Cond.laysFinal C O n d).before a0 Z = true ∧ own = O ∧ meth.name = "<init>")) (wi : (Cond.instantiable C kk).before a0 Z = true) (hty : parseFieldDescriptor d = some ty) (hn : narrow ty v = v) (hf : fits ty v = true) (hd : decode c.code pc = .ok (.putfield index, 3)) (hp : pc + 3 = pc') (K : ∀ (T' : State) (h' : Heap), Stand p l e Rm s m args below meth c T' (locs ++ [⟨a, slotOf Z O n d⟩]) cells slots → T'.heap = h' → Wr h h' a (slotOf Z O n d) v → Runs p e below E (T'.setTop (mkF m pc' Ls st))) : Runs p e below E (T.setTop (mkF m pc Ls (v :: .ref a :: st))) := by
  subst hp
  obtain ⟨T1, h1, X1, e1, W1, st1⟩ := putF X hx hZ hown (host := host) w via eT F Ex Ly wi hty hn hf (g := mkF m pc Ls (v :: .ref a :: st)) rfl rfl hd
  exact (K T1 h1 X1 e1 W1).by st1
theorem w_new (X : Stand p l e Rm s m args below meth c T locs cells slots) (hx : p.tables.exec = Jvm.exec) {Z : State} {a0 : Array Value} {h : Heap} {own C : String} {index n : Nat} (hZ : Z.Warmed39 s.vm) (hown : s.vm.findClass own = some m.cls) (w : (Cond.classLink own index C).before a0 Z = true) (wi : (Cond.instantiable C n).before a0 Z = true) (wz : (Cond.initialized C).before a0 Z = true) (eT : T.heap = h) (hd : decode c.code pc = .ok (.new index, 3)) (hc : cells + 1 ≤ Rm.cells) (hl : slots + n ≤ Rm.slots) (hp : pc + 3 = pc') (K : ∀ (T' : State) (h' : Heap) (b : Addr), Stand p l e Rm s m args below meth c T' locs (cells + 1) (slots + n) → T'.heap = h' → Ext h h' → b = h.size → Exa Z h' b C → (∀ {O nm d : String} {ty : FieldType}, Laid Z a0 C O nm d → parseFieldDescriptor d = some ty → Fld Z h' b O nm d (defaultValue ty)) → Runs p e below E (T'.setTop (mkF m pc' Ls (.ref b :: st)))) : Runs p e below E (T.setTop (mkF m pc Ls st)) := by
  subst hp
  obtain ⟨T1, h1, X1, e1, E1, A1, D1, -, st1⟩ := newO X hx hZ hown w wi wz eT (g := mkF m pc Ls st) rfl hd hc hl
  exact (K T1 h1 _ X1 e1 E1 rfl A1 D1).by st1
theorem w_newP (X : Stand p l e Rm s m args below meth c T locs cells slots) (hx : p.tables.exec = Jvm.exec) {Z : State} {a0 : Array Value} {h : Heap} (aty : ArrayType) (ty : FieldType) {n : Int32} (cap : Nat) (hty : newarray.typeOf aty = ty) (hZ : Z.Warmed39 s.vm) (w : (Cond.arrayClass ty).before a0 Z = true) (eT : T.heap = h) (hd : decode c.code pc = .ok (.newarray aty, 2)) (hn : ¬ n < 0) (hcap : n.toNatClampNeg ≤ cap) (hb : cap * 8 ≤ 536870912) (hc : cells + 1 ≤ Rm.cells) (hl : slots + cap ≤ Rm.slots) (hp : pc + 2 = pc') (K : ∀ (T' : State) (h' : Heap) (k : ClassId) (b : Addr), Stand p l e Rm s m args below meth c T' locs (cells + 1) (slots + cap) → T'.heap = h' → Ext h h' → b = h.size → Arr Z h' b (newA k ty n) ty → Runs p e below E (T'.setTop (mkF m pc' Ls (.ref b :: st)))) : Runs p e below E (T.setTop (mkF m pc Ls (.int n :: st))) := by
  subst hp
  subst hty
  obtain ⟨T1, h1, k1, X1, e1, E1, A1, st1⟩ := newP X hx hZ w eT (g := mkF m pc Ls (.int n :: st)) rfl hd rfl hn hcap hb hc hl
  exact (K T1 h1 k1 _ X1 e1 E1 rfl A1).by st1
theorem w_stC (X : Stand p l e Rm s m args below meth c T locs cells slots) (hx : p.tables.exec = Jvm.exec) {Z : State} {h : Heap} {a : Addr} {cl : Cell} {j : Int32} {x : Int32} (hZ : Z.Warmed39 s.vm) (eT : T.heap = h) (A : Arr Z h a cl .char) (hj : ¬ (j < 0 ∨ cl.slots.size ≤ j.toNatClampNeg)) (hd : decode c.code pc = .ok (.castore, 1)) (hp : pc + 1 = pc') (K : ∀ (T' : State) (h' : Heap), Stand p l e Rm s m args below meth c T' (locs ++ [⟨a, j.toNatClampNeg⟩]) cells slots → T'.heap = h' → Wr h h' a j.toNatClampNeg (.int (nar .char x)) → Runs p e below E (T'.setTop (mkF m pc' Ls st))) : Runs p e below E (T.setTop (mkF m pc Ls (.int x :: .int j :: .ref a :: st))) := by
  subst hp
  obtain ⟨T1, h1, X1, e1, W1, st1⟩ := stC X hx hZ eT A (j := j) hj (g := mkF m pc Ls (.int x :: .int j :: .ref a :: st)) rfl rfl hd
  exact (K T1 h1 X1 e1 W1).by st1
theorem w_stB (X : Stand p l e Rm s m args below meth c T locs cells slots) (hx : p.tables.exec = Jvm.exec) {Z : State} {h : Heap} {a : Addr} {cl : Cell} {j : Int32} {x : Int32} (hZ : Z.Warmed39 s.vm) (eT : T.heap = h) (A : Arr Z h a cl .byte) (hj : ¬ (j < 0 ∨ cl.slots.size ≤ j.toNatClampNeg)) (hd : decode c.code pc = .ok (.bastore, 1)) (hp : pc + 1 = pc') (K : ∀ (T' : State) (h' : Heap), Stand p l e Rm s m args below meth c T' (locs ++ [⟨a, j.toNatClampNeg⟩]) cells slots → T'.heap = h' → Wr h h' a j.toNatClampNeg (.int (nar .byte x)) → Runs p e below E (T'.setTop (mkF m pc' Ls st))) : Runs p e below E (T.setTop (mkF m pc Ls (.int x :: .int j :: .ref a :: st))) := by
  subst hp
  obtain ⟨T1, h1, X1, e1, W1, st1⟩ := stB X hx hZ eT A (j := j) hj (g := mkF m pc Ls (.int x :: .int j :: .ref a :: st)) rfl rfl hd
  exact (K T1 h1 X1 e1 W1).by st1
theorem w_baload (X : Stand p l e Rm s m args below meth c T locs cells slots) (hx : p.tables.exec = Jvm.exec) {Z : State} {h : Heap} {a : Addr} {cl : Cell} {j : Int32} {v : Int32} (hZ : Z.Warmed39 s.vm) (eT : T.heap = h) (A : Arr Z h a cl .byte) (hj : ¬ (j < 0 ∨ cl.slots.size ≤ j.toNatClampNeg)) (hv : cl.slots[j.toNatClampNeg]? = some (.int v)) (hd : decode c.code pc = .ok (.baload, 1)) (hp : pc + 1 = pc') (K : Runs p e below E (T.setTop (mkF m pc' Ls (.int v :: st)))) : Runs p e below E (T.setTop (mkF m pc Ls (.int j :: .ref a :: st))) := by
  subst hp
  exact K.by fun t k => X.baloadBytes hx (j := j) (v := .int v) (by rw [eT]; exact A.1) (State.isArrayOf_alike hZ.alike A.2.1) A.2.2 hj hv (g := mkF m pc Ls (.int j :: .ref a :: st)) rfl rfl hd t k
theorem w_alen (X : Stand p l e Rm s m args below meth c T locs cells slots) (hx : p.tables.exec = Jvm.exec) {Z : State} {h : Heap} {a : Addr} {k : ClassId} {ty : FieldType} {z : Int32} {vs : List Value} {dv : Value} (hZ : Z.Warmed39 s.vm) (eT : T.heap = h) (F : Arv Z h a k ty z vs dv) (hd : decode c.code pc = .ok (.arraylength, 1)) (hp : pc + 1 = pc') (K : Runs p e below E (T.setTop (mkF m pc' Ls (.int z :: st)))) : Runs p e below E (T.setTop (mkF m pc Ls (.ref a :: st))) := by
  subst hp
  obtain ⟨cl, A, q, S, N, H, G⟩ := F
  rw [← len_of S N] at K
  exact K.by fun t k => X.arraylength hx (by rw [eT]; exact A.1) (State.isArrayOf_alike hZ.alike A.2.1) (g := mkF m pc Ls (.ref a :: st)) rfl rfl hd t k
theorem w_castY (X : Stand p l e Rm s m args below meth c T locs cells slots) (hx : p.tables.exec = Jvm.exec) {Z : State} {a0 : Array Value} {h : Heap} {own K0 : String} {index : Nat} {a : Addr} (hZ : Z.Warmed39 s.vm) (hown : s.vm.findClass own = some m.cls) (w : (Cond.classLink own index K0).before a0 Z = true) (eT : T.heap = h) (F : Ins Z h a K0 true) (hd : decode c.code pc = .ok (.checkcast index, 3)) (hp : pc + 3 = pc') (K : ∀ T' : State, Stand p l e Rm s m args below meth c T' locs cells slots → T'.heap = h → Runs p e below E (T'.setTop (mkF m pc' Ls (.ref a :: st)))) : Runs p e below E (T.setTop (mkF m pc Ls (.ref a :: st))) := by
  subst hp
  obtain ⟨T1, X1, e1, st1⟩ := castY X hx hZ hown w eT F (g := mkF m pc Ls (.ref a :: st)) rfl rfl hd
  exact (K T1 X1 e1).by st1
theorem w_instY (X : Stand p l e Rm s m args below meth c T locs cells slots) (hx : p.tables.exec = Jvm.exec) {Z : State} {a0 : Array Value} {h : Heap} {own K0 : String} {index : Nat} {a : Addr} (hZ : Z.Warmed39 s.vm) (hown : s.vm.findClass own = some m.cls) (w : (Cond.classLink own index K0).before a0 Z = true) (eT : T.heap = h) (F : Ins Z h a K0 true) (hd : decode c.code pc = .ok (.instanceof index, 3)) (hp : pc + 3 = pc') (K : ∀ T' : State, Stand p l e Rm s m args below meth c T' locs cells slots → T'.heap = h → Runs p e below E (T'.setTop (mkF m pc' Ls (.int 1 :: st)))) : Runs p e below E (T.setTop (mkF m pc Ls (.ref a :: st))) := by
  subst hp
  obtain ⟨T1, X1, e1, st1⟩ := instY X hx hZ hown w eT F (g := mkF m pc Ls (.ref a :: st)) rfl rfl hd
  exact (K T1 X1 e1).by st1
theorem w_initO (X : Stand p l e Rm s m args below meth c T locs cells slots) (hx : p.tables.exec = Jvm.exec) {Z : State} {a0 : Array Value} {h : Heap} {own : String} {index : Nat} {a : Addr} (W : Nat) (hZ : Z.Warmed39 s.vm) (hown : s.vm.findClass own = some m.cls) (w1 : (Cond.methodLink own index Lib.objectInit).before a0 Z = true) (w2 : (Cond.instanceMethod Lib.objectInit).before a0 Z = true) (w3 : (Cond.code Lib.objectInit ⟨#[0xb1]⟩ 1 none).before a0 Z = true) (eT : T.heap = h) (hsz : Ls.size = c.maxLocals) (hd : decode c.code pc = .ok (.invokespecial index, 3)) (hf : 1 ≤ Rm.frames) (hW : (st.map fun v => v.category).sum ≤ W) (hl : W + 12 ≤ Rm.locals) (hp : pc + 3 = pc') (K : ∀ T' : State, Stand p l e Rm s m args below meth c T' locs cells slots → T'.heap = h → Runs p e below E (T'.setTop (mkF m pc' Ls st))) : Runs p e below E (T.setTop (mkF m pc Ls (.ref a :: st))) := by
  subst hp
  obtain ⟨T1, X1, e1, st1⟩ := initO X hx hZ hown w1 w2 w3 eT (g := mkF m pc Ls (.ref a :: st)) rfl hsz rfl hd hf (W := W) (by show 2 * 0 + _ ≤ _; omega) hl
  exact (K T1 X1 e1).by st1
theorem w_static (X : Stand p l e Rm s m args below meth c T locs cells slots) (hx : p.tables.exec = Jvm.exec) {stk : List Value} {own : String} {index : Nat} {y : MethodName} {bytes : ByteArray} {maxL : Nat} {ret : Option FieldType} {W : Nat} {Pre : Pt → Array Value → Prop} {Post : Pt → Array Value → Option Value → Pt → Prop} (hown : s.vm.findClass own = some m.cls) (hlink : (Cond.methodLink own index y).before args s = true) (hstat : (Cond.static y).before args s = true) (hinit : (Cond.initialized y.cls).before args s = true) (hcode : (Cond.code y bytes maxL ret).before args s = true) (hy : y.cls ≠ "java/lang/invoke/MethodHandle" ∧ y.cls ≠ "java/lang/invoke/VarHandle") (hK : Back l Rm p e below s args y 3 W Pre Post) (hsz : Ls.size = c.maxLocals) (argsL : List Value) (hlen : ∀ sig, parseMethodDescriptor y.desc = some sig → argsL.length = sig.parameters.length) (hst : stk = argsL.reverse ++ st) (hW : (st.map fun v => v.category).sum ≤ W) (hd : decode c.code pc = .ok (.invokestatic index, 3)) (hpre : ∀ vm₁, s.WarmedH vm₁ → Pre ⟨T.setVm vm₁, locs, cells, slots⟩ argsL.toArray) (hp : pc + 3 = pc') (K : ∀ (v : Option Value) (vm₁ : Vm) (B : Pt), Stand p l e Rm s m args below meth c B.U B.locs B.cells B.slots → Post ⟨T.setVm vm₁, locs, cells, slots⟩ argsL.toArray v B → Runs p e below E (B.U.setTop (mkF m pc' Ls (v.toList ++ st)))) : Runs p e below E (T.setTop (mkF m pc Ls stk)) := by
  subst hp
  obtain ⟨v1, vm1, B1, -, X1, q1, st1⟩ := Jvm.LawKit.callS X hx hown hlink hstat hinit hcode hy hK (g := mkF m pc Ls stk) rfl hsz (argsL := argsL) (rest := st) hlen hst (by show 2 * 0 + _ ≤ _; omega) hd hpre
  exact (K v1 vm1 B1 X1 q1).by st1
theorem w_special (X : Stand p l e Rm s m args below meth c T locs cells slots) (hx : p.tables.exec = Jvm.exec) {stk : List Value} {own : String} {index : Nat} {y : MethodName} {bytes : ByteArray} {maxL : Nat} {a : Addr} {W : Nat} {Pre : Pt → Array Value → Prop} {Post : Pt → Array Value → Option Value → Pt → Prop} (hy1 : y.name = "<init>") (hown : s.vm.findClass own = some m.cls) (hlink : (Cond.methodLink own index y).before args s = true) (hinst : (Cond.instanceMethod y).before args s = true) (hcode : (Cond.code y bytes maxL none).before args s = true) (hy : y.cls ≠ "java/lang/invoke/MethodHandle" ∧ y.cls ≠ "java/lang/invoke/VarHandle") (hK : Back l Rm p e below s args y 3 W Pre Post) (hsz : Ls.size = c.maxLocals) (argsL : List Value) (hlen : ∀ sig, parseMethodDescriptor y.desc = some sig → argsL.length = sig.parameters.length) (hst : stk = argsL.reverse ++ .ref a :: st) (hW : (st.map fun v => v.category).sum ≤ W) (hd : decode c.code pc = .ok (.invokespecial index, 3)) (hpre : ∀ vm₁, s.WarmedH vm₁ → Pre ⟨T.setVm vm₁, locs, cells, slots⟩ (.ref a :: argsL).toArray) (hp : pc + 3 = pc') (K : ∀ (v : Option Value) (vm₁ : Vm) (B : Pt), Stand p l e Rm s m args below meth c B.U B.locs B.cells B.slots → Post ⟨T.setVm vm₁, locs, cells, slots⟩ (.ref a :: argsL).toArray v B → Runs p e below E (B.U.setTop (mkF m pc' Ls (v.toList ++ st)))) : Runs p e below E (T.setTop (mkF m pc Ls stk)) := by
  subst hp
  obtain ⟨v1, vm1, B1, -, X1, q1, st1⟩ := X.specialBack hx hy1 hown hlink hinst hcode hy hK (g := mkF m pc Ls stk) rfl hsz (Steps.refl _) (a := a) (argsL := argsL) (rest := st) hlen hst (by show 2 * 0 + _ ≤ _; omega) hd hpre
  exact (K v1 vm1 B1 X1 q1).tr st1
theorem w_virtual (X : Stand p l e Rm s m args below meth c T locs cells slots) (hx : p.tables.exec = Jvm.exec) {stk : List Value} {own C : String} {index : Nat} {y z : MethodName} {b : Addr} {cB : ClassId} {W : Nat} {Pre : Pt → Array Value → Prop} {Post : Pt → Array Value → Option Value → Pt → Prop} (hown : s.vm.findClass own = some m.cls) (hlink : (Cond.methodLink own index y).before args s = true) (hdecl : (Cond.declares y).before args s = true) (hnf : NotFace s y) (hsel : (Cond.selects C y z).before args s = true) (hinst : (Cond.instanceMethod z).before args s = true) (hy : y.cls ≠ "java/lang/invoke/MethodHandle" ∧ y.cls ≠ "java/lang/invoke/VarHandle") (hK : Back l Rm p e below s args z 3 W Pre Post) (hcB : s.vm.findClass C = some cB) (hrecv : IsOf cB T b) (hsz : Ls.size = c.maxLocals) (argsL : List Value) (hlen : ∀ sig, parseMethodDescriptor y.desc = some sig → argsL.length = sig.parameters.length) (hst : stk = argsL.reverse ++ .ref b :: st) (hW : (st.map fun v => v.category).sum ≤ W) (hd : decode c.code pc = .ok (.invokevirtual index, 3)) (hpre : ∀ vm₁, s.WarmedH vm₁ → Pre ⟨T.setVm vm₁, locs, cells, slots⟩ (.ref b :: argsL).toArray) (hp : pc + 3 = pc') (K : ∀ (v : Option Value) (vm₁ : Vm) (B : Pt), Stand p l e Rm s m args below meth c B.U B.locs B.cells B.slots → Post ⟨T.setVm vm₁, locs, cells, slots⟩ (.ref b :: argsL).toArray v B → Runs p e below E (B.U.setTop (mkF m pc' Ls (v.toList ++ st)))) : Runs p e below E (T.setTop (mkF m pc Ls stk)) := by
  subst hp
  obtain ⟨v1, vm1, B1, -, X1, q1, st1⟩ := X.virtualBack hx hown hlink hdecl hnf hsel hinst hy hK hcB hrecv (g := mkF m pc Ls stk) rfl hsz (Steps.refl _) (argsL := argsL) (rest := st) hlen hst (by show 2 * 0 + _ ≤ _; omega) hd hpre
  exact (K v1 vm1 B1 X1 q1).tr st1
end W

/-- a body's contract, and how a walk shows it -/
abbrev MetN (l : Launch) (Z : State) (y : MethodName) (bytes : ByteArray) (maxL : Nat) (ret : Option FieldType) (ws : List Cond) (rm : Room) (as' : Array Value) (h : Heap) (Q : Option Value → Heap → List Loc → Prop) : Prop :=
  MetFree l y (head1 (Cond.code y bytes maxL ret :: ws) rm) (fun a U => a = as' ∧ Z.Warmed39 U.vm ∧ U.heap = h) (fun _ _ _ _ _ => True) (fun _ U o U' => ∃ v L, o = .returned v ∧ Q v U'.heap L ∧ FrameEnd U o U' L rm.cells rm.slots)
theorem MetN.of {l : Launch} {Z : State} {y : MethodName} {bytes : ByteArray} {maxL : Nat} {ret : Option FieldType} {ws : List Cond} {rm : Room} {as' : Array Value} {h : Heap} {Q : Option Value → Heap → List Loc → Prop} (hp : plainFor y = true)
    (H : ∀ (p : Program) (e : Env) (s : State) (m : MethodId) (below : List Frame) (meth : Method) (c : Code) (s₁ : State), meth.sig.returnType = ret → p.tables.exec = Jvm.exec → c.code = bytes → c.maxLocals = maxL → s.vm.findClass y.cls = some m.cls → meth.name = y.name → meth.locks = false → Z.Warmed39 s.vm → Stand p l e rm s m as' below meth c s₁ [] 0 0 → s₁.heap = h → Runs p e below (EndN s Q rm.cells rm.slots) (s₁.setTop (entryFrame m as' maxL))) :
    MetN l Z y bytes maxL ret ws rm as' h Q := by
  refine MetFree.of_bodySF hp hisR ?_
  intro p e s m args below meth c s₁ Bd hml hP hK
  obtain ⟨rfl, hZ, hh⟩ := hP
  exact H p e s m below meth c s₁ Bd.returns Bd.exec Bd.bytes hml (findClass_of_methodNamed Bd.named) (name_of_methodNamed Bd.named Bd.method).1 Bd.notSynchronized hZ (Stand.of_body Bd) (by rw [← hh, Bd.state]; rfl)
abbrev MetH (l : Launch) (Z : State) (EL : List (String × Nat)) (y : MethodName) (bytes : ByteArray) (maxL : Nat) (ret : Option FieldType) (ws : List Cond) (rm : Room) (as' : Array Value) (h : Heap) (Q : Option Value → Heap → List Loc → (Addr → Prop) → Prop) (sf : List Addr) : Prop :=
  MetFree l y (head1 (Cond.code y bytes maxL ret :: ws) rm) (fun a U => a = as' ∧ Z.Warmed39 U.vm ∧ U.heap = h ∧ CHv Z EL U.vm h ∧ ∀ x ∈ sf, Safe Z EL U.vm h x) (fun _ _ _ _ _ => True) (fun _ U o U' => ∃ v L, o = .returned v ∧ Q v U'.heap L (Safe Z EL U'.vm U'.heap) ∧ CHr Z EL U.vm U.heap U'.vm U'.heap ∧ ReturnedEndW U o U' L rm.cells rm.slots)
theorem MetH.of {l : Launch} {Z : State} {EL : List (String × Nat)} {y : MethodName} {bytes : ByteArray} {maxL : Nat} {ret : Option FieldType} {ws : List Cond} {rm : Room} {as' : Array Value} {h : Heap} {Q : Option Value → Heap → List Loc → (Addr → Prop) → Prop} {sf : List Addr} (hp : plainFor y = true)
    (H : ∀ (p : Program) (e : Env) (s : State) (m : MethodId) (below : List Frame) (meth : Method) (c : Code) (s₁ : State), meth.sig.returnType = ret → p.tables.exec = Jvm.exec → c.code = bytes → c.maxLocals = maxL → s.vm.findClass y.cls = some m.cls → meth.name = y.name → meth.locks = false → Z.Warmed39 s.vm → Stand p l e rm (s.setVm s.vm) m as' below meth c s₁ [] 0 0 → s₁.heap = h → s.heap = h → CHv Z EL s.vm h → (∀ x ∈ sf, Safe Z EL s.vm h x) → s.Since s.vm h.size → CHr Z EL s.vm h s.vm h → Runs p e below (EndH s Z EL Q rm.cells rm.slots) (s₁.setTop (entryFrame m as' maxL))) :
    MetH l Z EL y bytes maxL ret ws rm as' h Q sf := by
  refine MetFree.of_bodySF hp hisR ?_
  intro p e s m args below meth c s₁ Bd hml hP hK
  obtain ⟨rfl, hZ, hh, hH, hsf⟩ := hP
  exact H p e s m below meth c s₁ Bd.returns Bd.exec Bd.bytes hml (findClass_of_methodNamed Bd.named) (name_of_methodNamed Bd.named Bd.method).1 Bd.notSynchronized hZ (Stand.of_body Bd) (by rw [← hh, Bd.state]; rfl) hh hH hsf ((State.WarmedH.refl s).since _) (CHr.refl hH)
end Jvm.RoadKit
/- laws to paste: Road.backV (cut by pick.py; bodies as the Statement names them) -/
namespace Jvm.Pilot.@@N@@
namespace StrChars
open Jvm Sem ClassFile Op Lib Jvm.Stand Jvm.Free.XT Jvm.Free.ALB Jvm.Free.JM Jvm.Free
open Jvm.Lib.Cold (StaticIs)
/-- a char array whose places are chars -/
def Ch (a : Addr) (A : Cell) (U : State) : Prop := Arr .char a A U ∧ Typed .char A
theorem Ch.mv {a : Addr} {A : Cell} {U U' : State} (h : Ch a A U) (hal : U.vm.Alike U'.vm) (hh : U'.heap = U.heap) : Ch a A U' := ⟨h.1.mv hal hh, h.2⟩
theorem Ch.keep {a : Addr} {A : Cell} {U U' : State} (h : Ch a A U) (hal : U.vm.Alike U'.vm) (hk : U'.heap[a]? = some A) : Ch a A U' := ⟨h.1.keep hal hk, h.2⟩
/-- what place i of a char[]'s cell holds -/
def cv (A : Cell) (i : Nat) : Int32 := match A.slots[i]? with | some (.int x) => x | _ => 0
theorem Ch.get {a : Addr} {A : Cell} {U : State} (h : Ch a A U) {i : Nat} (hi : i < A.slots.size) : A.slots[i]? = some (.int (cv A i)) := by
  have e := Array.getElem?_eq_getElem hi
  have f := h.2 i _ e
  unfold cv; rw [e]
  generalize A.slots[i] = v at f
  cases v <;> simp [fits] at f ⊢
/-- the byte that i2b leaves of a char -/
def lo8 (x : Int32) : Int32 := x.toInt8.toInt32
theorem fits_lo8 (y : Int32) : fits .byte (.int (lo8 y)) = true := by
  have h1 := y.toInt8.le_toInt
  have h2 := y.toInt8.toInt_lt
  simp only [lo8, fits, Bool.and_eq_true, decide_eq_true_eq, Int32.le_iff_toInt_le, Int8.toInt_toInt32, show (-128 : Int32).toInt = -128 from by decide, show (127 : Int32).toInt = 127 from by decide]
  omega
/-- A' is A but that each place j of lo .. hi - 1 holds f j -/
def Laid (A A' : Cell) (lo hi : Nat) (f : Nat → Value) : Prop := A'.cls = A.cls ∧ A'.vm = A.vm ∧ A'.slots.size = A.slots.size ∧ ∀ i, A'.slots[i]? = if lo ≤ i ∧ i < hi then some (f i) else A.slots[i]?
theorem Laid.zero (A : Cell) (lo : Nat) (f : Nat → Value) : Laid A A lo (lo + 0) f := ⟨rfl, rfl, rfl, fun i => by rw [if_neg (by omega)]⟩
theorem Laid.step {A Ak : Cell} {lo k : Nat} {f : Nat → Value} {v : Value} (h : Laid A Ak lo k f) (hlo : lo ≤ k) (hk : k < Ak.slots.size) (hv : v = f k) : Laid A (Ak.setSlot k v) lo (k + 1) f := by
  refine ⟨h.1, h.2.1, by simpa [Cell.setSlot] using h.2.2.1, fun i => ?_⟩
  by_cases e : k = i
  · subst e; rw [Cell.slots_setSlot_self v hk, if_pos (by omega), hv]
  · rw [Cell.slots_setSlot_ne v e, h.2.2.2 i]
    by_cases q : lo ≤ i ∧ i < k
    · rw [if_pos q, if_pos (by omega)]
    · rw [if_neg q, if_neg (by omega)]
def U16 : String := "java/lang/StringUTF16"
namespace Cmp5
def yN : MethodName := ⟨"java/lang/StringUTF16", "compress", "([CI[BII)I"⟩
abbrev yB : ByteArray := jdk_52_method_21_code
theorem d0 : decode yB 0 = .ok (.iconst 0, 1) := by decide +kernel
theorem d1 : decode yB 1 = .ok (.istore 5, 2) := by decide +kernel
theorem d3 : decode yB 3 = .ok (.iload 5, 2) := by decide +kernel
theorem d5 : decode yB 5 = .ok (.iload 4, 2) := by decide +kernel
theorem d7 : decode yB 7 = .ok (.if_icmp (.ge) 37, 3) := by decide +kernel
theorem d10 : decode yB 10 = .ok (.aload_n 0, 1) := by decide +kernel
theorem d11 : decode yB 11 = .ok (.iload_n 1, 1) := by decide +kernel
theorem d12 : decode yB 12 = .ok (.caload, 1) := by decide +kernel
theorem d13 : decode yB 13 = .ok (.istore 6, 2) := by decide +kernel
theorem d15 : decode yB 15 = .ok (.iload 6, 2) := by decide +kernel
theorem d17 : decode yB 17 = .ok (.sipush 255, 3) := by decide +kernel
theorem d20 : decode yB 20 = .ok (.if_icmp (.le) 6, 3) := by decide +kernel
theorem d26 : decode yB 26 = .ok (.aload_n 2, 1) := by decide +kernel
theorem d27 : decode yB 27 = .ok (.iload_n 3, 1) := by decide +kernel
theorem d28 : decode yB 28 = .ok (.iload 6, 2) := by decide +kernel
theorem d30 : decode yB 30 = .ok (.i2b, 1) := by decide +kernel
theorem d31 : decode yB 31 = .ok (.bastore, 1) := by decide +kernel
theorem d32 : decode yB 32 = .ok (.iinc 1 1, 3) := by decide +kernel
theorem d35 : decode yB 35 = .ok (.iinc 3 1, 3) := by decide +kernel
theorem d38 : decode yB 38 = .ok (.iinc 5 1, 3) := by decide +kernel
theorem d41 : decode yB 41 = .ok (.goto (-38), 3) := by decide +kernel
theorem d44 : decode yB 44 = .ok (.iload 4, 2) := by decide +kernel
theorem d46 : decode yB 46 = .ok (.ireturn, 1) := by decide +kernel
def site : List Cond := []
def tab : Cond := tabOf yN yB 7 (some .int) site
def P (b : Addr) (A : Cell) (d : Addr) (B : Cell) (o q len : Nat) (args : Array Value) (s : State) : Prop := args = #[.ref b, .int (Int32.ofNat o), .ref d, .int (Int32.ofNat q), .int (Int32.ofNat len)] ∧ Ch b A s ∧ Arr .byte d B s ∧ b ≠ d ∧ o + len ≤ A.slots.size ∧ q + len ≤ B.slots.size ∧ ∀ i, i < len → ¬ 255 < cv A (o + i)
def E (b : Addr) (A : Cell) (d : Addr) (B : Cell) (o q len : Nat) (r : Option Value) (s u : State) : Prop := r = some (.int (Int32.ofNat len)) ∧ ∃ B', Put d B' s u ∧ Laid B B' q (q + len) (fun j => Value.int (lo8 (cv A (o + (j - q)))))
/-- no char of the range above 255: len; the places written hold each char's low byte -/
theorem law (l : Launch) (b : Addr) (A : Cell) (d : Addr) (B : Cell) (o q len : Nat) : Law l yN 5 5 0 0 yB 7 (some .int) site (P b A d B o q len) (E b A d B o q len) (copyLocs d q len) 0 0 := by
  refine Law.of_walk (plainFor_of_name (by decide +kernel)) (by decide +kernel) (by decide +kernel) (by decide) (fun _ _ h => by rw [h.1]; rfl) (fun _ U U' hal hh h => ⟨h.1, h.2.1.mv hal hh, h.2.2.1.mv hal hh, h.2.2.2⟩) (fun r U U' V V' h1 hal h2 h => ⟨h.1, h.2.elim fun B' q => ⟨B', q.1.mv h1 h2, q.2⟩⟩) ?_
  intro p e s m args below meth c s₁ X0 hexec hbytes hml hret hlk hnm hown hh0 W hP
  obtain ⟨rfl, hA, hB, hne, l1, l2, hp⟩ := hP
  have c1 : Steps p.tables e below (s₁.setTop (entryFrame m #[.ref b, .int (Int32.ofNat o), .ref d, .int (Int32.ofNat q), .int (Int32.ofNat len)] 7)) (s₁.setTop (mkF m 0 #[.val (.ref b), .val (.int (Int32.ofNat o)), .val (.ref d), .val (.int (Int32.ofNat q)), .val (.int (Int32.ofNat len)), .unset, .unset] [])) := entry rfl
  have hA0 := hA.1.mv X0.warmed.alike hh0
  have hB0 := hB.mv X0.warmed.alike hh0
  have a31 := hA.1.2.2.2
  have c2 : Steps p.tables e below (s₁.setTop (entryFrame m #[.ref b, .int (Int32.ofNat o), .ref d, .int (Int32.ofNat q), .int (Int32.ofNat len)] 7)) (s₁.setTop (mkF m 3 #[.val (.ref b), .val (.int (Int32.ofNat o)), .val (.ref d), .val (.int (Int32.ofNat q)), .val (.int (Int32.ofNat len)), .val (.int 0), .unset] [])) := c1.trans (by
    refine iconstV X0.here hexec rfl 0 (hb hbytes d0) (by decide) ?_
    refine XS.istore X0.here hexec rfl (hb hbytes d1) rfl rfl ?_
    exact Steps.refl _)
  have loop : ∀ (r i : Nat), i + r = len → ∀ (z : Slot), (z = .unset ∨ ∃ w, z = .val w ∧ w.category = 1) → ∀ (Tl : State) (Bk : Cell), Stand p l e { frames := 0, locals := 0, cells := 0, slots := 0 } s m #[.ref b, .int (Int32.ofNat o), .ref d, .int (Int32.ofNat q), .int (Int32.ofNat len)] below meth c Tl ([] ++ copyLocs d q i) 0 0 → Put d Bk s₁ Tl → Laid B Bk q (q + i) (fun j => Value.int (lo8 (cv A (o + (j - q))))) →
      Steps p.tables e below (s₁.setTop (entryFrame m #[.ref b, .int (Int32.ofNat o), .ref d, .int (Int32.ofNat q), .int (Int32.ofNat len)] 7)) (Tl.setTop (mkF m 3 #[.val (.ref b), .val (.int (Int32.ofNat (o + i))), .val (.ref d), .val (.int (Int32.ofNat (q + i))), .val (.int (Int32.ofNat len)), .val (.int (Int32.ofNat i)), z] [])) → ∃ (T' : State) (B' : Cell) (z' : Slot), Stand p l e { frames := 0, locals := 0, cells := 0, slots := 0 } s m #[.ref b, .int (Int32.ofNat o), .ref d, .int (Int32.ofNat q), .int (Int32.ofNat len)] below meth c T' ([] ++ copyLocs d q len) 0 0 ∧ Put d B' s₁ T' ∧ Laid B B' q (q + len) (fun j => Value.int (lo8 (cv A (o + (j - q))))) ∧
      Steps p.tables e below (s₁.setTop (entryFrame m #[.ref b, .int (Int32.ofNat o), .ref d, .int (Int32.ofNat q), .int (Int32.ofNat len)] 7)) (T'.setTop (mkF m 3 #[.val (.ref b), .val (.int (Int32.ofNat (o + len))), .val (.ref d), .val (.int (Int32.ofNat (q + len))), .val (.int (Int32.ofNat len)), .val (.int (Int32.ofNat len)), z'] [])) := by
    intro r
    induction r with
    | zero =>
      intro i hi z hz Tl Bk Xl pl fl cl
      have hil : i = len := by omega
      rw [hil] at Xl fl cl
      exact ⟨Tl, Bk, z, Xl, pl, fl, cl⟩
    | succ r ih =>
      intro i hi z hz Tl Bk Xl pl fl cl
      have all := X0.warmed.alike.symm.trans Xl.warmed.alike
      have hAl := hA0.keep all (pl.other hne hA0.1)
      have hBk := hB0.like all pl.1 fl.1 fl.2.1 fl.2.2.1
      have hlt : q + i < Bk.slots.size := by rw [fl.2.2.1]; omega
      have c3 : Steps p.tables e below (s₁.setTop (entryFrame m #[.ref b, .int (Int32.ofNat o), .ref d, .int (Int32.ofNat q), .int (Int32.ofNat len)] 7)) (Tl.setTop (mkF m 12 #[.val (.ref b), .val (.int (Int32.ofNat (o + i))), .val (.ref d), .val (.int (Int32.ofNat (q + i))), .val (.int (Int32.ofNat len)), .val (.int (Int32.ofNat i)), z] [.int (Int32.ofNat (o + i)), .ref b])) := cl.trans (by
        refine XS.iload Xl.here hexec rfl (hb hbytes d3) rfl ?_
        refine XS.iload Xl.here hexec rfl (hb hbytes d5) rfl ?_
        refine XS.icmpNo Xl.here hexec rfl (hb hbytes d7) rfl (ii_ge_f (lt32 (by omega) (by omega))) ?_
        refine XS.aloadN Xl.here hexec rfl (hb hbytes d10) rfl rfl ?_
        refine XS.iloadN Xl.here hexec rfl (hb hbytes d11) rfl ?_
        exact Steps.refl _)
      have c4 : Steps p.tables e below (s₁.setTop (entryFrame m #[.ref b, .int (Int32.ofNat o), .ref d, .int (Int32.ofNat q), .int (Int32.ofNat len)] 7)) (Tl.setTop (mkF m 13 #[.val (.ref b), .val (.int (Int32.ofNat (o + i))), .val (.ref d), .val (.int (Int32.ofNat (q + i))), .val (.int (Int32.ofNat len)), .val (.int (Int32.ofNat i)), z] [.int (cv A (o + i))])) := c3.trans (by
        refine Xl.aget hexec hAl rfl (hA.get (i := o + i) (by omega)) rfl rfl (hb hbytes d12) ?_
        exact Steps.refl _)
      have c5 : Steps p.tables e below (s₁.setTop (entryFrame m #[.ref b, .int (Int32.ofNat o), .ref d, .int (Int32.ofNat q), .int (Int32.ofNat len)] 7)) (Tl.setTop (mkF m 15 #[.val (.ref b), .val (.int (Int32.ofNat (o + i))), .val (.ref d), .val (.int (Int32.ofNat (q + i))), .val (.int (Int32.ofNat len)), .val (.int (Int32.ofNat i)), .val (.int (cv A (o + i)))] [])) := c4.trans (by
        refine XS.istoreS Xl.here hexec rfl (hb hbytes d13) rfl rfl hz ?_
        exact Steps.refl _)
      have c6 : Steps p.tables e below (s₁.setTop (entryFrame m #[.ref b, .int (Int32.ofNat o), .ref d, .int (Int32.ofNat q), .int (Int32.ofNat len)] 7)) (Tl.setTop (mkF m 31 #[.val (.ref b), .val (.int (Int32.ofNat (o + i))), .val (.ref d), .val (.int (Int32.ofNat (q + i))), .val (.int (Int32.ofNat len)), .val (.int (Int32.ofNat i)), .val (.int (cv A (o + i)))] [.int (lo8 (cv A (o + i))), .int (Int32.ofNat (q + i)), .ref d])) := c5.trans (by
        refine XS.iload Xl.here hexec rfl (hb hbytes d15) rfl ?_
        refine sipushV Xl.here hexec rfl 255 (hb hbytes d17) (by decide) ?_
        refine XS.icmpYes Xl.here hexec rfl (pc0 := 20) rfl (hb hbytes d20) rfl (ii_le_t (hp i (by omega))) (by decide) rfl ?_
        refine XS.aloadN Xl.here hexec rfl (hb hbytes d26) rfl rfl ?_
        refine XS.iloadN Xl.here hexec rfl (hb hbytes d27) rfl ?_
        refine XS.iload Xl.here hexec rfl (hb hbytes d28) rfl ?_
        refine i2b Xl.here hexec rfl (hb hbytes d30) rfl ?_
        exact Steps.refl _)
      obtain ⟨T7, X7, p7, st7⟩ := Xl.aput hexec hBk rfl hlt rfl (fits_lo8 (cv A (o + i))) (g := (mkF m 31 #[.val (.ref b), .val (.int (Int32.ofNat (o + i))), .val (.ref d), .val (.int (Int32.ofNat (q + i))), .val (.int (Int32.ofNat len)), .val (.int (Int32.ofNat i)), .val (.int (cv A (o + i)))] [.int (lo8 (cv A (o + i))), .int (Int32.ofNat (q + i)), .ref d])) rfl (rest := []) rfl (hb hbytes d31)
      have c8 : Steps p.tables e below (s₁.setTop (entryFrame m #[.ref b, .int (Int32.ofNat o), .ref d, .int (Int32.ofNat q), .int (Int32.ofNat len)] 7)) (T7.setTop (mkF m 32 #[.val (.ref b), .val (.int (Int32.ofNat (o + i))), .val (.ref d), .val (.int (Int32.ofNat (q + i))), .val (.int (Int32.ofNat len)), .val (.int (Int32.ofNat i)), .val (.int (cv A (o + i)))] [])) := c6.trans (st7 _ (Steps.refl _))
      have c9 : Steps p.tables e below (s₁.setTop (entryFrame m #[.ref b, .int (Int32.ofNat o), .ref d, .int (Int32.ofNat q), .int (Int32.ofNat len)] 7)) (T7.setTop (mkF m 3 #[.val (.ref b), .val (.int (Int32.ofNat (o + i) + 1)), .val (.ref d), .val (.int (Int32.ofNat (q + i) + 1)), .val (.int (Int32.ofNat len)), .val (.int (Int32.ofNat i + 1)), .val (.int (cv A (o + i)))] [])) := c8.trans (by
        refine iincV X7.here hexec rfl 1 (hb hbytes d32) (by decide) rfl rfl ?_
        refine iincV X7.here hexec rfl 1 (hb hbytes d35) (by decide) rfl rfl ?_
        refine iincV X7.here hexec rfl 1 (hb hbytes d38) (by decide) rfl rfl ?_
        refine XS.goto X7.here hexec rfl (pc0 := 41) rfl (hb hbytes d41) (by decide) rfl ?_
        exact Steps.refl _)
      have c10 : Steps p.tables e below (s₁.setTop (entryFrame m #[.ref b, .int (Int32.ofNat o), .ref d, .int (Int32.ofNat q), .int (Int32.ofNat len)] 7)) (T7.setTop (mkF m 3 #[.val (.ref b), .val (.int (Int32.ofNat (o + (i + 1)))), .val (.ref d), .val (.int (Int32.ofNat (q + (i + 1)))), .val (.int (Int32.ofNat len)), .val (.int (Int32.ofNat (i + 1))), .val (.int (cv A (o + i)))] [])) := by
        have := c9
        rw [succ32, succ32, succ32] at this
        exact this
      exact ih (i + 1) (by omega) _ (Or.inr ⟨_, rfl, rfl⟩) T7 _ (by rw [copyLocs_step, ← List.append_assoc]; exact X7) (pl.trans p7) (fl.step (by omega) hlt (by simp)) c10
  obtain ⟨T9, B9, z9, X9, p9, f9, g9⟩ := loop len 0 (by omega) .unset (Or.inl rfl) s₁ B (by simpa [copyLocs] using X0) ⟨hB0.1, fun _ _ => rfl, rfl⟩ (Laid.zero _ _ _) c2
  have c11 : Steps p.tables e below (s₁.setTop (entryFrame m #[.ref b, .int (Int32.ofNat o), .ref d, .int (Int32.ofNat q), .int (Int32.ofNat len)] 7)) (T9.setTop (mkF m 46 #[.val (.ref b), .val (.int (Int32.ofNat (o + len))), .val (.ref d), .val (.int (Int32.ofNat (q + len))), .val (.int (Int32.ofNat len)), .val (.int (Int32.ofNat len)), z9] [.int (Int32.ofNat len)])) := g9.trans (by
    refine XS.iload X9.here hexec rfl (hb hbytes d3) rfl ?_
    refine XS.iload X9.here hexec rfl (hb hbytes d5) rfl ?_
    refine XS.icmpYes X9.here hexec rfl (pc0 := 7) rfl (hb hbytes d7) rfl (ii_ge_t (nlt32 (by omega) (Nat.le_refl _))) (by decide) rfl ?_
    refine XS.iload X9.here hexec rfl (hb hbytes d44) rfl ?_
    exact Steps.refl _)
  exact ⟨T9, some (.int (Int32.ofNat len)), _, _, _, X9, by simp, rfl, rfl, (fun h => by cases h), ⟨rfl, B9, p9.from hh0, f9⟩, fun fs hl => c11.trans (X9.ireturnOut hexec hret rfl (Or.inl rfl) (hb hbytes d46) hl)⟩
end Cmp5
namespace Cmp3
def yN : MethodName := ⟨"java/lang/StringUTF16", "compress", "([CII)[B"⟩
abbrev yB : ByteArray := jdk_52_method_16_code
theorem d0 : decode yB 0 = .ok (.iload_n 2, 1) := by decide +kernel
theorem d1 : decode yB 1 = .ok (.newarray .byte, 2) := by decide +kernel
theorem d3 : decode yB 3 = .ok (.astore_n 3, 1) := by decide +kernel
theorem d4 : decode yB 4 = .ok (.aload_n 0, 1) := by decide +kernel
theorem d5 : decode yB 5 = .ok (.iload_n 1, 1) := by decide +kernel
theorem d6 : decode yB 6 = .ok (.aload_n 3, 1) := by decide +kernel
theorem d7 : decode yB 7 = .ok (.iconst 0, 1) := by decide +kernel
theorem d8 : decode yB 8 = .ok (.iload_n 2, 1) := by decide +kernel
theorem d9 : decode yB 9 = .ok (.invokestatic 115, 3) := by decide +kernel
theorem d12 : decode yB 12 = .ok (.istore 4, 2) := by decide +kernel
theorem d14 : decode yB 14 = .ok (.iload 4, 2) := by decide +kernel
theorem d16 : decode yB 16 = .ok (.iload_n 2, 1) := by decide +kernel
theorem d17 : decode yB 17 = .ok (.if_icmp (.eq) 40, 3) := by decide +kernel
theorem d57 : decode yB 57 = .ok (.aload_n 3, 1) := by decide +kernel
theorem d58 : decode yB 58 = .ok (.areturn, 1) := by decide +kernel
def site : List Cond := [.arrayClass .byte, Cmp5.tab] ++ staticW U16 115 Cmp5.yN
def tab : Cond := tabOf yN yB 6 (some (.array .byte)) site
def P (b : Addr) (A : Cell) (o len : Nat) (args : Array Value) (s : State) : Prop := args = #[.ref b, .int (Int32.ofNat o), .int (Int32.ofNat len)] ∧ Ch b A s ∧ o + len ≤ A.slots.size ∧ len ≤ 536870912 ∧ ∀ i, i < len → ¬ 255 < cv A (o + i)
def E (b : Addr) (A : Cell) (o len : Nat) (r : Option Value) (s u : State) : Prop := NewArr .byte "[B" len (fun j => .int (lo8 (cv A (o + j)))) r s u ∧ u.heap.size = s.heap.size + 1
/-- no char of the range above 255: a new byte[] of their low bytes -/
theorem law (l : Launch) (b : Addr) (A : Cell) (o len : Nat) : Law l yN 3 3 1 18 yB 6 (some (.array .byte)) site (P b A o len) (E b A o len) [] 1 len := by
  refine Law.of_walk (plainFor_of_name (by decide +kernel)) (by decide +kernel) (by decide +kernel) (by decide) (fun _ _ h => by rw [h.1]; rfl) (fun _ U U' hal hh h => ⟨h.1, h.2.1.mv hal hh, h.2.2⟩) (fun r U U' V V' h1 hal h2 h => ⟨NewArr.mv r U U' V V' h1 hal h2 h.1, by rw [h1, h2]; exact h.2⟩) ?_
  intro p e s m args below meth c s₁ X0 hexec hbytes hml hret hlk hnm hown hh0 W hP
  obtain ⟨rfl, hA, l1, l2, hp⟩ := hP
  have a31 := hA.1.2.2.2
  have c1 : Steps p.tables e below (s₁.setTop (entryFrame m #[.ref b, .int (Int32.ofNat o), .int (Int32.ofNat len)] 6)) (s₁.setTop (mkF m 0 #[.val (.ref b), .val (.int (Int32.ofNat o)), .val (.int (Int32.ofNat len)), .unset, .unset, .unset] [])) := entry rfl
  have c2 : Steps p.tables e below (s₁.setTop (entryFrame m #[.ref b, .int (Int32.ofNat o), .int (Int32.ofNat len)] 6)) (s₁.setTop (mkF m 1 #[.val (.ref b), .val (.int (Int32.ofNat o)), .val (.int (Int32.ofNat len)), .unset, .unset, .unset] [.int (Int32.ofNat len)])) := c1.trans (by
    refine XS.iloadN X0.here hexec rfl (hb hbytes d0) rfl ?_
    exact Steps.refl _)
  obtain ⟨T3, B3, X3, ba3, bs3, bv3, bh3, bf3, st3⟩ := X0.anew hexec (atype := .byte) (wk W (.arrayClass .byte)) rfl (by show len * 1 ≤ _; omega) (by omega) (g := (mkF m 1 #[.val (.ref b), .val (.int (Int32.ofNat o)), .val (.int (Int32.ofNat len)), .unset, .unset, .unset] [.int (Int32.ofNat len)])) rfl (hb hbytes d1) (rest := []) rfl (Nat.le_refl _) (by show 0 + len ≤ len; omega)
  rw [hh0] at ba3 st3
  have kp3 : XT.Kept s T3 := (XT.Kept.of_eq hh0).push bh3
  have hA3 := hA.keep X3.warmed.alike (kp3 _ _ hA.1.1)
  have hne : b ≠ s.heap.size := hA.1.ne
  have c4 : Steps p.tables e below (s₁.setTop (entryFrame m #[.ref b, .int (Int32.ofNat o), .int (Int32.ofNat len)] 6)) (T3.setTop (mkF m 3 #[.val (.ref b), .val (.int (Int32.ofNat o)), .val (.int (Int32.ofNat len)), .unset, .unset, .unset] [.ref s.heap.size])) := c2.trans (st3 _ (Steps.refl _))
  have c5 : Steps p.tables e below (s₁.setTop (entryFrame m #[.ref b, .int (Int32.ofNat o), .int (Int32.ofNat len)] 6)) (T3.setTop (mkF m 9 #[.val (.ref b), .val (.int (Int32.ofNat o)), .val (.int (Int32.ofNat len)), .val (.ref s.heap.size), .unset, .unset] [.int (Int32.ofNat len), .int 0, .ref s.heap.size, .int (Int32.ofNat o), .ref b])) := c4.trans (by
    refine XS.astoreN X3.here hexec rfl (hb hbytes d3) rfl rfl rfl ?_
    refine XS.aloadN X3.here hexec rfl (hb hbytes d4) rfl rfl ?_
    refine XS.iloadN X3.here hexec rfl (hb hbytes d5) rfl ?_
    refine XS.aloadN X3.here hexec rfl (hb hbytes d6) rfl rfl ?_
    refine iconstV X3.here hexec rfl 0 (hb hbytes d7) (by decide) ?_
    refine XS.iloadN X3.here hexec rfl (hb hbytes d8) rfl ?_
    exact Steps.refl _)
  obtain ⟨v6, T6, X6, E6, g6⟩ := X3.callS hexec (Cmp5.law l b A s.heap.size B3 o 0 len) hown (wks W (staticW U16 115 Cmp5.yN)) (wk W Cmp5.tab) (W := 0) (Nat.le_of_ble_eq_true rfl) (Nat.le_of_ble_eq_true rfl) (Nat.le_refl _) (by show 0 + len + 0 ≤ len; omega) (g := (mkF m 9 #[.val (.ref b), .val (.int (Int32.ofNat o)), .val (.int (Int32.ofNat len)), .val (.ref s.heap.size), .unset, .unset] [.int (Int32.ofNat len), .int (Int32.ofNat 0), .ref s.heap.size, .int (Int32.ofNat o), .ref b])) rfl (by rw [hml]; rfl) c5 (argsL := [.ref b, .int (Int32.ofNat o), .ref s.heap.size, .int (Int32.ofNat 0), .int (Int32.ofNat len)]) (rest := []) rfl rfl (by show 2 * 0 + 0 ≤ _; decide) (hb hbytes d9) (⟨rfl, hA3, ba3, hne, l1, by rw [bs3]; simp, hp⟩)
  obtain ⟨rfl, B6, p6, f6⟩ := E6
  have c7 : Steps p.tables e below (s₁.setTop (entryFrame m #[.ref b, .int (Int32.ofNat o), .int (Int32.ofNat len)] 6)) (T6.setTop (mkF m 12 #[.val (.ref b), .val (.int (Int32.ofNat o)), .val (.int (Int32.ofNat len)), .val (.ref s.heap.size), .unset, .unset] [.int (Int32.ofNat len)])) := g6
  have c8 : Steps p.tables e below (s₁.setTop (entryFrame m #[.ref b, .int (Int32.ofNat o), .int (Int32.ofNat len)] 6)) (T6.setTop (mkF m 58 #[.val (.ref b), .val (.int (Int32.ofNat o)), .val (.int (Int32.ofNat len)), .val (.ref s.heap.size), .val (.int (Int32.ofNat len)), .unset] [.ref s.heap.size])) := c7.trans (by
    refine XS.istore X6.here hexec rfl (hb hbytes d12) rfl rfl ?_
    refine XS.iload X6.here hexec rfl (hb hbytes d14) rfl ?_
    refine XS.iloadN X6.here hexec rfl (hb hbytes d16) rfl ?_
    refine XS.icmpYes X6.here hexec rfl (pc0 := 17) rfl (hb hbytes d17) rfl (ii_eq_t rfl) (by decide) rfl ?_
    refine XS.aloadN X6.here hexec rfl (hb hbytes d57) rfl rfl ?_
    exact Steps.refl _)
  have X8 := X6.wide (L' := []) (cells' := 1) (slots' := len) (fun x hx hlt => by
    simp only [List.nil_append, copyLocs, List.mem_map, List.mem_range] at hx
    obtain ⟨i, -, rfl⟩ := hx
    exact absurd hlt (Nat.lt_irrefl _)) (Nat.le_refl _) (by omega)
  exact ⟨T6, some (.ref s.heap.size), _, _, _, X8, rfl, rfl, rfl, (fun h => by cases h), ⟨⟨rfl, B6, ba3.like (X3.warmed.alike.symm.trans X6.warmed.alike) p6.1 f6.1 f6.2.1 f6.2.2.1, f6.2.1.trans bv3, by rw [X6.warmed.alike.findClass, f6.1]; exact bf3, by rw [f6.2.2.1, bs3]; simp, fun j hj => by rw [f6.2.2.2 j, if_pos (by omega)]; rfl, kp3.put p6 (Nat.le_refl _)⟩, by rw [p6.2.2, bh3, hh0]; simp⟩, fun fs hl => c8.trans (X8.areturnOut hexec rfl hret rfl (hb hbytes d58) hl)⟩
end Cmp3
namespace CodL
def yN : MethodName := ⟨"java/lang/StringUTF16", "coderFromArrayLen", "([BI)B"⟩
abbrev yB : ByteArray := jdk_52_method_15_code
theorem d0 : decode yB 0 = .ok (.iload_n 1, 1) := by decide +kernel
theorem d1 : decode yB 1 = .ok (.aload_n 0, 1) := by decide +kernel
theorem d2 : decode yB 2 = .ok (.arraylength, 1) := by decide +kernel
theorem d3 : decode yB 3 = .ok (.isub, 1) := by decide +kernel
theorem d4 : decode yB 4 = .ok (.bipush 31, 2) := by decide +kernel
theorem d6 : decode yB 6 = .ok (.iushr, 1) := by decide +kernel
theorem d7 : decode yB 7 = .ok (.i2b, 1) := by decide +kernel
theorem d8 : decode yB 8 = .ok (.ireturn, 1) := by decide +kernel
def site : List Cond := []
def tab : Cond := tabOf yN yB 2 (some .byte) site
def P (d : Addr) (B : Cell) (args : Array Value) (s : State) : Prop := args = #[.ref d, .int (Int32.ofNat B.slots.size)] ∧ Arr .byte d B s
def E (r : Option Value) (s u : State) : Prop := XT.PureE (some (.int 0)) r s u
/-- an array as long as the number of chars: LATIN1 -/
theorem law (l : Launch) (d : Addr) (B : Cell) : Law l yN 2 2 0 0 yB 2 (some .byte) site (P d B) E [] 0 0 := by
  refine Law.of_walk (plainFor_of_name (by decide +kernel)) (by decide +kernel) (by decide +kernel) (by decide) (fun _ _ h => by rw [h.1]; rfl) (fun _ U U' hal hh h => ⟨h.1, h.2.mv hal hh⟩) (fun r U U' V V' h1 hal h2 h => XT.PureE.mv r U U' V V' h1 hal h2 h) ?_
  intro p e s m args below meth c s₁ X0 hexec hbytes hml hret hlk hnm hown hh0 W hP
  obtain ⟨rfl, hB⟩ := hP
  have hB0 := hB.mv X0.warmed.alike hh0
  have c1 : Steps p.tables e below (s₁.setTop (entryFrame m #[.ref d, .int (Int32.ofNat B.slots.size)] 2)) (s₁.setTop (mkF m 0 #[.val (.ref d), .val (.int (Int32.ofNat B.slots.size))] [])) := entry rfl
  have c2 : Steps p.tables e below (s₁.setTop (entryFrame m #[.ref d, .int (Int32.ofNat B.slots.size)] 2)) (s₁.setTop (mkF m 2 #[.val (.ref d), .val (.int (Int32.ofNat B.slots.size))] [.ref d, .int (Int32.ofNat B.slots.size)])) := c1.trans (by
    refine XS.iloadN X0.here hexec rfl (hb hbytes d0) rfl ?_
    refine XS.aloadN X0.here hexec rfl (hb hbytes d1) rfl rfl ?_
    exact Steps.refl _)
  have c3 : Steps p.tables e below (s₁.setTop (entryFrame m #[.ref d, .int (Int32.ofNat B.slots.size)] 2)) (s₁.setTop (mkF m 8 #[.val (.ref d), .val (.int (Int32.ofNat B.slots.size))] [.int (lo8 (ushr (Int32.ofNat B.slots.size - Int32.ofNat B.slots.size) 31))])) := c2.trans (by
    refine X0.alen hexec hB0 rfl rfl (hb hbytes d2) ?_
    refine XS.isub X0.here hexec rfl (hb hbytes d3) rfl ?_
    refine bipushV X0.here hexec rfl 31 (hb hbytes d4) (by decide) ?_
    refine iushr X0.here hexec rfl (hb hbytes d6) rfl ?_
    refine i2b X0.here hexec rfl (hb hbytes d7) rfl ?_
    exact Steps.refl _)
  have e0 : lo8 (ushr (Int32.ofNat B.slots.size - Int32.ofNat B.slots.size) 31) = 0 := by rw [Int32.sub_self]; decide
  rw [e0] at c3
  exact ⟨s₁, some (.int 0), _, _, _, X0, rfl, rfl, rfl, (fun h => by cases h), ⟨rfl, hh0⟩, fun fs hl => c3.trans (X0.ireturnOut hexec hret rfl (Or.inr (Or.inr (Or.inl rfl))) (hb hbytes d8) hl)⟩
end CodL
/-- the String at a is Latin-1 over a new byte[] (the heap's one new cell): the low bytes of the len chars of A from o on; every cell but a is kept -/
def Got (a : Addr) (D : Cell) (fV fC : Field) (A : Cell) (o len : Nat) (r : Option Value) (s u : State) : Prop := r = none ∧ ∃ D' V : Cell, Blank "java/lang/String" a D' u ∧ Same D D' [fV.slot, fC.slot] ∧ D'.slots[fV.slot]? = some (.ref s.heap.size) ∧ D'.slots[fC.slot]? = some (.int 0) ∧ Arr .byte s.heap.size V u ∧ V.vm = .none ∧ u.vm.findClass "[B" = some V.cls ∧ V.slots.size = len ∧ (∀ j, j < len → V.slots[j]? = some (.int (lo8 (cv A (o + j))))) ∧ (∀ (y : Addr) (c : Cell), y ≠ a → s.heap[y]? = some c → u.heap[y]? = some c) ∧ u.heap.size = s.heap.size + 1
theorem Got.mv {a : Addr} {D A : Cell} {fV fC : Field} {o len : Nat} : ∀ r (U U' V V' : State), U'.heap = U.heap → V.vm.Alike V'.vm → V'.heap = V.heap → Got a D fV fC A o len r U V → Got a D fV fC A o len r U' V' :=
  fun r U U' V V' h1 hal h2 ⟨e0, D', X, a1, a2, a3, a4, a5, a6, a7, a8, a9, a10, a11⟩ => ⟨e0, D', X, a1.mv hal h2, a2, by rw [h1]; exact a3, a4, by rw [h1]; exact a5.mv hal h2, a6, by rw [hal.findClass]; exact a7, a8, a9, by rw [h1, h2]; exact a10, by rw [h1, h2]; exact a11⟩
namespace New4
def yN : MethodName := ⟨"java/lang/String", "<init>", "([CIILjava/lang/Void;)V"⟩
abbrev yB : ByteArray := jdk_42_method_149_code
theorem d0 : decode yB 0 = .ok (.aload_n 0, 1) := by decide +kernel
theorem d1 : decode yB 1 = .ok (.invokespecial 1, 3) := by decide +kernel
theorem d4 : decode yB 4 = .ok (.iload_n 3, 1) := by decide +kernel
theorem d5 : decode yB 5 = .ok (.ifCond (.ne) 22, 3) := by decide +kernel
theorem d27 : decode yB 27 = .ok (.getstatic 38, 3) := by decide +kernel
theorem d30 : decode yB 30 = .ok (.ifCond (.eq) 28, 3) := by decide +kernel
theorem d33 : decode yB 33 = .ok (.aload_n 1, 1) := by decide +kernel
theorem d34 : decode yB 34 = .ok (.iload_n 2, 1) := by decide +kernel
theorem d35 : decode yB 35 = .ok (.iload_n 3, 1) := by decide +kernel
theorem d36 : decode yB 36 = .ok (.invokestatic 177, 3) := by decide +kernel
theorem d39 : decode yB 39 = .ok (.astore 5, 2) := by decide +kernel
theorem d41 : decode yB 41 = .ok (.aload_n 0, 1) := by decide +kernel
theorem d42 : decode yB 42 = .ok (.aload 5, 2) := by decide +kernel
theorem d44 : decode yB 44 = .ok (.iload_n 3, 1) := by decide +kernel
theorem d45 : decode yB 45 = .ok (.invokestatic 47, 3) := by decide +kernel
theorem d48 : decode yB 48 = .ok (.putfield 15, 3) := by decide +kernel
theorem d51 : decode yB 51 = .ok (.aload_n 0, 1) := by decide +kernel
theorem d52 : decode yB 52 = .ok (.aload 5, 2) := by decide +kernel
theorem d54 : decode yB 54 = .ok (.putfield 9, 3) := by decide +kernel
theorem d57 : decode yB 57 = .ok (.return_, 1) := by decide +kernel
def site : List Cond := [.fieldLink "java/lang/String" 38 "java/lang/String" "COMPACT_STRINGS" "Z", Cmp3.tab, CodL.tab, .laysFinal "java/lang/String" "java/lang/String" "value" "[B", .fieldLink "java/lang/String" 9 "java/lang/String" "value" "[B", .laysFinal "java/lang/String" "java/lang/String" "coder" "B", .fieldLink "java/lang/String" 15 "java/lang/String" "coder" "B"] ++ objW "java/lang/String" 1 ++ staticW "java/lang/String" 177 Cmp3.yN ++ staticW "java/lang/String" 47 CodL.yN
def tab : Cond := tabOf yN yB 6 none site
def P (a : Addr) (D : Cell) (fV fC : Field) (b : Addr) (A : Cell) (z : Int32) (o len : Nat) (args : Array Value) (s : State) : Prop := args = #[.ref a, .ref b, .int (Int32.ofNat o), .int (Int32.ofNat len), .null] ∧ Blank "java/lang/String" a D s ∧ Found "java/lang/String" "value" "[B" fV s ∧ Found "java/lang/String" "coder" "B" fC s ∧ Ch b A s ∧ StaticIs s "java/lang/String" "COMPACT_STRINGS" "Z" (.int z) ∧ ¬ z = 0 ∧ 0 < len ∧ o + len ≤ A.slots.size ∧ len ≤ 536870912 ∧ ∀ i, i < len → ¬ 255 < cv A (o + i)
def E (a : Addr) (D : Cell) (fV fC : Field) (A : Cell) (o len : Nat) (r : Option Value) (s u : State) : Prop := Got a D fV fC A o len r s u
/-- len > 0, no char of the range above 255: a Latin-1 String of their low bytes -/
theorem law (l : Launch) (a : Addr) (D : Cell) (fV fC : Field) (b : Addr) (A : Cell) (z : Int32) (o len : Nat) : Law l yN 5 4 2 35 yB 6 none site (P a D fV fC b A z o len) (E a D fV fC A o len) [⟨a, fC.slot⟩, ⟨a, fV.slot⟩] 1 len := by
  refine Law.of_walk (plainFor_of_name (by decide +kernel)) (by decide +kernel) (by decide +kernel) (by decide) (fun _ _ h => by rw [h.1]; rfl) (fun _ U U' hal hh h => ⟨h.1, h.2.1.mv hal hh, h.2.2.1.al hal, h.2.2.2.1.al hal, h.2.2.2.2.1.mv hal hh, h.2.2.2.2.2.1.there hal hh, h.2.2.2.2.2.2⟩) (fun r U U' V V' h1 hal h2 h => Got.mv r U U' V V' h1 hal h2 h) ?_
  intro p e s m args below meth c s₁ X0 hexec hbytes hml hret hlk hnm hown hh0 W hP
  obtain ⟨rfl, hB, f1, f2, hA, s1, hz, l0, l1, l2, hp⟩ := hP
  have a31 := hA.1.2.2.2
  have c1 : Steps p.tables e below (s₁.setTop (entryFrame m #[.ref a, .ref b, .int (Int32.ofNat o), .int (Int32.ofNat len), .null] 6)) (s₁.setTop (mkF m 0 #[.val (.ref a), .val (.ref b), .val (.int (Int32.ofNat o)), .val (.int (Int32.ofNat len)), .val .null, .unset] [])) := entry rfl
  have c2 : Steps p.tables e below (s₁.setTop (entryFrame m #[.ref a, .ref b, .int (Int32.ofNat o), .int (Int32.ofNat len), .null] 6)) (s₁.setTop (mkF m 1 #[.val (.ref a), .val (.ref b), .val (.int (Int32.ofNat o)), .val (.int (Int32.ofNat len)), .val .null, .unset] [.ref a])) := c1.trans (by
    refine XS.aloadN X0.here hexec rfl (hb hbytes d0) rfl rfl ?_
    exact Steps.refl _)
  obtain ⟨T3, X3, q3, st3⟩ := X0.oinit hexec hown (wks W (objW "java/lang/String" 1)) (g := (mkF m 1 #[.val (.ref a), .val (.ref b), .val (.int (Int32.ofNat o)), .val (.int (Int32.ofNat len)), .val .null, .unset] [.ref a])) rfl (by rw [hml]; rfl) (rest := []) rfl (hb hbytes d1) (W := 0) (by show 2 * 0 + 0 ≤ _; decide) (Nat.le_of_ble_eq_true rfl) (Nat.le_of_ble_eq_true rfl)
  have hh3 := q3.trans hh0
  have c4 : Steps p.tables e below (s₁.setTop (entryFrame m #[.ref a, .ref b, .int (Int32.ofNat o), .int (Int32.ofNat len), .null] 6)) (T3.setTop (mkF m 27 #[.val (.ref a), .val (.ref b), .val (.int (Int32.ofNat o)), .val (.int (Int32.ofNat len)), .val .null, .unset] [])) := (c2.trans (st3 _ (Steps.refl _))).trans (by
    refine XS.iloadN X3.here hexec rfl (hb hbytes d4) rfl ?_
    refine XS.ifYes X3.here hexec rfl (pc0 := 5) rfl (hb hbytes d5) rfl (i0_ne_t (nz32 (by omega) l0)) (by decide) rfl ?_
    exact Steps.refl _)
  obtain ⟨T5, X5, q5, st5⟩ := X3.sget hexec hown (wk W (.fieldLink "java/lang/String" 38 "java/lang/String" "COMPACT_STRINGS" "Z")) s1 (fun _ _ h => by rw [hh3]; exact h) (g := (mkF m 27 #[.val (.ref a), .val (.ref b), .val (.int (Int32.ofNat o)), .val (.int (Int32.ofNat len)), .val .null, .unset] [])) rfl (hb hbytes d27)
  have hh5 := q5.trans hh3
  have c6 : Steps p.tables e below (s₁.setTop (entryFrame m #[.ref a, .ref b, .int (Int32.ofNat o), .int (Int32.ofNat len), .null] 6)) (T5.setTop (mkF m 30 #[.val (.ref a), .val (.ref b), .val (.int (Int32.ofNat o)), .val (.int (Int32.ofNat len)), .val .null, .unset] [.int z])) := c4.trans (st5 _ (Steps.refl _))
  have c7 : Steps p.tables e below (s₁.setTop (entryFrame m #[.ref a, .ref b, .int (Int32.ofNat o), .int (Int32.ofNat len), .null] 6)) (T5.setTop (mkF m 36 #[.val (.ref a), .val (.ref b), .val (.int (Int32.ofNat o)), .val (.int (Int32.ofNat len)), .val .null, .unset] [.int (Int32.ofNat len), .int (Int32.ofNat o), .ref b])) := c6.trans (by
    refine XS.ifNo X5.here hexec rfl (hb hbytes d30) rfl (i0_eq_f hz) ?_
    refine XS.aloadN X5.here hexec rfl (hb hbytes d33) rfl rfl ?_
    refine XS.iloadN X5.here hexec rfl (hb hbytes d34) rfl ?_
    refine XS.iloadN X5.here hexec rfl (hb hbytes d35) rfl ?_
    exact Steps.refl _)
  obtain ⟨v8, T8, X8, E8, g8⟩ := X5.callS hexec (Cmp3.law l b A o len) hown (wks W (staticW "java/lang/String" 177 Cmp3.yN)) (wk W Cmp3.tab) (W := 0) (Nat.le_of_ble_eq_true rfl) (Nat.le_of_ble_eq_true rfl) (Nat.le_refl _) (by show 0 + len ≤ len; omega) (g := (mkF m 36 #[.val (.ref a), .val (.ref b), .val (.int (Int32.ofNat o)), .val (.int (Int32.ofNat len)), .val .null, .unset] [.int (Int32.ofNat len), .int (Int32.ofNat o), .ref b])) rfl (by rw [hml]; rfl) c7 (argsL := [.ref b, .int (Int32.ofNat o), .int (Int32.ofNat len)]) (rest := []) rfl rfl (by show 2 * 0 + 0 ≤ _; decide) (hb hbytes d36) (⟨rfl, hA.mv X5.warmed.alike hh5, l1, l2, hp⟩)
  obtain ⟨e8, z8⟩ := E8
  obtain ⟨rfl, N, n1, n2, n3, n4, n5, n6⟩ := NewArr.mv _ T5 s _ _ hh5.symm (Vm.Alike.refl _) rfl e8
  rw [hh5] at z8
  have hB1 := hB.keep X8.warmed.alike (n6 _ _ hB.1)
  have hne : s.heap.size ≠ a := (Nat.ne_of_lt (Array.getElem?_eq_some_iff.mp hB.1).1).symm
  have c9 : Steps p.tables e below (s₁.setTop (entryFrame m #[.ref a, .ref b, .int (Int32.ofNat o), .int (Int32.ofNat len), .null] 6)) (T8.setTop (mkF m 39 #[.val (.ref a), .val (.ref b), .val (.int (Int32.ofNat o)), .val (.int (Int32.ofNat len)), .val .null, .unset] [.ref s.heap.size])) := g8
  have c10 : Steps p.tables e below (s₁.setTop (entryFrame m #[.ref a, .ref b, .int (Int32.ofNat o), .int (Int32.ofNat len), .null] 6)) (T8.setTop (mkF m 45 #[.val (.ref a), .val (.ref b), .val (.int (Int32.ofNat o)), .val (.int (Int32.ofNat len)), .val .null, .val (.ref s.heap.size)] [.int (Int32.ofNat N.slots.size), .ref s.heap.size, .ref a])) := by
    have hc : Steps p.tables e below (s₁.setTop (entryFrame m #[.ref a, .ref b, .int (Int32.ofNat o), .int (Int32.ofNat len), .null] 6)) (T8.setTop (mkF m 45 #[.val (.ref a), .val (.ref b), .val (.int (Int32.ofNat o)), .val (.int (Int32.ofNat len)), .val .null, .val (.ref s.heap.size)] [.int (Int32.ofNat len), .ref s.heap.size, .ref a])) := c9.trans (by
      refine XS.astore X8.here hexec rfl (hb hbytes d39) rfl rfl rfl ?_
      refine XS.aloadN X8.here hexec rfl (hb hbytes d41) rfl rfl ?_
      refine XS.aload X8.here hexec rfl (hb hbytes d42) rfl rfl ?_
      refine XS.iloadN X8.here hexec rfl (hb hbytes d44) rfl ?_
      exact Steps.refl _)
    rw [n4]; exact hc
  obtain ⟨v11, T11, X11, E11, g11⟩ := X8.callS hexec (CodL.law l s.heap.size N) hown (wks W (staticW "java/lang/String" 47 CodL.yN)) (wk W CodL.tab) (W := 1) (Nat.le_of_ble_eq_true rfl) (Nat.le_of_ble_eq_true rfl) (Nat.le_refl _) (by show 0 + len + 0 ≤ len; omega) (g := (mkF m 45 #[.val (.ref a), .val (.ref b), .val (.int (Int32.ofNat o)), .val (.int (Int32.ofNat len)), .val .null, .val (.ref s.heap.size)] [.int (Int32.ofNat N.slots.size), .ref s.heap.size, .ref a])) rfl (by rw [hml]; rfl) c10 (argsL := [.ref s.heap.size, .int (Int32.ofNat N.slots.size)]) (rest := [.ref a]) rfl rfl (by show 2 * 0 + (1 + 0) ≤ _; decide) (hb hbytes d45) (⟨rfl, n1⟩)
  obtain ⟨rfl, q11⟩ := E11
  have hB11 := hB1.mv (X8.warmed.alike.symm.trans X11.warmed.alike) q11
  have c12 : Steps p.tables e below (s₁.setTop (entryFrame m #[.ref a, .ref b, .int (Int32.ofNat o), .int (Int32.ofNat len), .null] 6)) (T11.setTop (mkF m 48 #[.val (.ref a), .val (.ref b), .val (.int (Int32.ofNat o)), .val (.int (Int32.ofNat len)), .val .null, .val (.ref s.heap.size)] [.int 0, .ref a])) := g11
  obtain ⟨T13, X13, p13, bl13, sl13, st13⟩ := X11.finit hexec hown (wk W (.fieldLink "java/lang/String" 15 "java/lang/String" "coder" "B")) (Or.inr ⟨_, (wk W (.laysFinal "java/lang/String" "java/lang/String" "coder" "B"))⟩) (Or.inl ⟨rfl, hnm⟩) f2 (Or.inl rfl) hB11 (t := .byte) (by decide +kernel) rfl (g := (mkF m 48 #[.val (.ref a), .val (.ref b), .val (.int (Int32.ofNat o)), .val (.int (Int32.ofNat len)), .val .null, .val (.ref s.heap.size)] [.int 0, .ref a])) rfl (rest := []) rfl (hb hbytes d48)
  have c14 : Steps p.tables e below (s₁.setTop (entryFrame m #[.ref a, .ref b, .int (Int32.ofNat o), .int (Int32.ofNat len), .null] 6)) (T13.setTop (mkF m 54 #[.val (.ref a), .val (.ref b), .val (.int (Int32.ofNat o)), .val (.int (Int32.ofNat len)), .val .null, .val (.ref s.heap.size)] [.ref s.heap.size, .ref a])) := (c12.trans (st13 _ (Steps.refl _))).trans (by
    refine XS.aloadN X13.here hexec rfl (hb hbytes d51) rfl rfl ?_
    refine XS.aload X13.here hexec rfl (hb hbytes d52) rfl rfl ?_
    exact Steps.refl _)
  obtain ⟨T15, X15, p15, bl15, sl15, st15⟩ := X13.finit hexec hown (wk W (.fieldLink "java/lang/String" 9 "java/lang/String" "value" "[B")) (Or.inr ⟨_, (wk W (.laysFinal "java/lang/String" "java/lang/String" "value" "[B"))⟩) (Or.inl ⟨rfl, hnm⟩) f1 (Or.inl rfl) bl13 (t := (.array .byte)) (by decide +kernel) rfl (g := (mkF m 54 #[.val (.ref a), .val (.ref b), .val (.int (Int32.ofNat o)), .val (.int (Int32.ofNat len)), .val .null, .val (.ref s.heap.size)] [.ref s.heap.size, .ref a])) rfl (rest := []) rfl (hb hbytes d54)
  have c16 : Steps p.tables e below (s₁.setTop (entryFrame m #[.ref a, .ref b, .int (Int32.ofNat o), .int (Int32.ofNat len), .null] 6)) (T15.setTop (mkF m 57 #[.val (.ref a), .val (.ref b), .val (.int (Int32.ofNat o)), .val (.int (Int32.ofNat len)), .val .null, .val (.ref s.heap.size)] [])) := c14.trans (st15 _ (Steps.refl _))
  have ap := apart (Or.inr ⟨_, (wk W (.laysFinal "java/lang/String" "java/lang/String" "value" "[B"))⟩) (Or.inr ⟨_, (wk W (.laysFinal "java/lang/String" "java/lang/String" "coder" "B"))⟩) f1 f2 (t₁ := .array .byte) (t₂ := .byte) (by decide +kernel) (by decide +kernel) (by decide)
  have al := X8.warmed.alike.symm.trans X15.warmed.alike
  have n7 : T11.heap[s.heap.size]? = some N := by rw [q11]; exact n1.1
  exact ⟨T15, none, _, _, _, X15, by simp, rfl, by omega, (fun _ => rfl), ⟨rfl, _, N, bl15, ((Same.refl D _).set _ (by simp)).set _ (by simp), sl15, (Cell.slots_setSlot_ne _ ap).trans sl13, n1.keep al (p15.other hne (p13.other hne n7)), n2, by rw [al.findClass]; exact n3, n4, n5, fun y c h1 h2 => p15.other h1 (p13.other h1 (by rw [q11]; exact n6 y c h2)), by rw [p15.2.2, p13.2.2, q11]; exact z8⟩, fun fs hl => c16.trans (X15.returnOut hexec hret (hb hbytes d57) hl)⟩
end New4
namespace New1
def yN : MethodName := ⟨"java/lang/String", "<init>", "([C)V"⟩
abbrev yB : ByteArray := jdk_42_method_3_code
theorem d0 : decode yB 0 = .ok (.aload_n 0, 1) := by decide +kernel
theorem d1 : decode yB 1 = .ok (.aload_n 1, 1) := by decide +kernel
theorem d2 : decode yB 2 = .ok (.iconst 0, 1) := by decide +kernel
theorem d3 : decode yB 3 = .ok (.aload_n 1, 1) := by decide +kernel
theorem d4 : decode yB 4 = .ok (.arraylength, 1) := by decide +kernel
theorem d5 : decode yB 5 = .ok (.aconst_null, 1) := by decide +kernel
theorem d6 : decode yB 6 = .ok (.invokespecial 27, 3) := by decide +kernel
theorem d9 : decode yB 9 = .ok (.return_, 1) := by decide +kernel
def site : List Cond := [New4.tab] ++ initW "java/lang/String" 27 New4.yN
def tab : Cond := tabOf yN yB 2 none site
def P (a : Addr) (D : Cell) (fV fC : Field) (b : Addr) (A : Cell) (z : Int32) (args : Array Value) (s : State) : Prop := args = #[.ref a, .ref b] ∧ Blank "java/lang/String" a D s ∧ Found "java/lang/String" "value" "[B" fV s ∧ Found "java/lang/String" "coder" "B" fC s ∧ Ch b A s ∧ StaticIs s "java/lang/String" "COMPACT_STRINGS" "Z" (.int z) ∧ ¬ z = 0 ∧ 0 < A.slots.size ∧ A.slots.size ≤ 536870912 ∧ ∀ i, i < A.slots.size → ¬ 255 < cv A i
def E (a : Addr) (D : Cell) (fV fC : Field) (A : Cell) (r : Option Value) (s u : State) : Prop := Got a D fV fC A 0 A.slots.size r s u
/-- new String(chars), not empty, no char above 255: a Latin-1 String of their low bytes -/
theorem law (l : Launch) (a : Addr) (D : Cell) (fV fC : Field) (b : Addr) (A : Cell) (z : Int32) : Law l yN 2 1 3 52 yB 2 none site (P a D fV fC b A z) (E a D fV fC A) [⟨a, fC.slot⟩, ⟨a, fV.slot⟩] 1 A.slots.size := by
  refine Law.of_walk (plainFor_of_name (by decide +kernel)) (by decide +kernel) (by decide +kernel) (by decide) (fun _ _ h => by rw [h.1]; rfl) (fun _ U U' hal hh h => ⟨h.1, h.2.1.mv hal hh, h.2.2.1.al hal, h.2.2.2.1.al hal, h.2.2.2.2.1.mv hal hh, h.2.2.2.2.2.1.there hal hh, h.2.2.2.2.2.2⟩) (fun r U U' V V' h1 hal h2 h => Got.mv r U U' V V' h1 hal h2 h) ?_
  intro p e s m args below meth c s₁ X0 hexec hbytes hml hret hlk hnm hown hh0 W hP
  obtain ⟨rfl, hB, f1, f2, hA, s1, hz, l0, l2, hp⟩ := hP
  have c1 : Steps p.tables e below (s₁.setTop (entryFrame m #[.ref a, .ref b] 2)) (s₁.setTop (mkF m 0 #[.val (.ref a), .val (.ref b)] [])) := entry rfl
  have c2 : Steps p.tables e below (s₁.setTop (entryFrame m #[.ref a, .ref b] 2)) (s₁.setTop (mkF m 6 #[.val (.ref a), .val (.ref b)] [.null, .int (Int32.ofNat A.slots.size), .int 0, .ref b, .ref a])) := c1.trans (by
    refine XS.aloadN X0.here hexec rfl (hb hbytes d0) rfl rfl ?_
    refine XS.aloadN X0.here hexec rfl (hb hbytes d1) rfl rfl ?_
    refine iconstV X0.here hexec rfl 0 (hb hbytes d2) (by decide) ?_
    refine XS.aloadN X0.here hexec rfl (hb hbytes d3) rfl rfl ?_
    refine X0.alen hexec (hA.1.mv X0.warmed.alike hh0) rfl rfl (hb hbytes d4) ?_
    refine XS.aconstNull X0.here hexec rfl (hb hbytes d5) ?_
    exact Steps.refl _)
  obtain ⟨v3, T3, X3, E3, g3⟩ := X0.callN hexec (New4.law l a D fV fC b A z 0 A.slots.size) rfl hown (wks W (initW "java/lang/String" 27 New4.yN)) (W New4.tab (by simp only [site, List.mem_cons, List.mem_append, true_or, or_true])) (W := 0) (Nat.le_of_ble_eq_true rfl) (Nat.le_of_ble_eq_true rfl) (Nat.le_refl _) (by show 0 + A.slots.size ≤ A.slots.size; omega) (g := (mkF m 6 #[.val (.ref a), .val (.ref b)] [.null, .int (Int32.ofNat A.slots.size), .int (Int32.ofNat 0), .ref b, .ref a])) rfl (by rw [hml]; rfl) c2 (argsL := [.ref b, .int (Int32.ofNat 0), .int (Int32.ofNat A.slots.size), .null]) (rest := []) rfl rfl (by show 2 * 0 + 0 ≤ _; decide) (hb hbytes d6) (⟨rfl, hB.mv X0.warmed.alike hh0, f1.al X0.warmed.alike, f2.al X0.warmed.alike, hA.mv X0.warmed.alike hh0, s1.there X0.warmed.alike hh0, hz, l0, by omega, l2, fun i hi => by rw [Nat.zero_add]; exact hp i hi⟩)
  have e0 := Got.mv _ s₁ s _ _ hh0.symm (Vm.Alike.refl _) rfl E3
  obtain rfl := e0.1
  have c4 : Steps p.tables e below (s₁.setTop (entryFrame m #[.ref a, .ref b] 2)) (T3.setTop (mkF m 9 #[.val (.ref a), .val (.ref b)] [])) := g3
  exact ⟨T3, none, _, _, _, X3, by simp, rfl, by omega, (fun _ => rfl), e0, fun fs hl => c4.trans (X3.returnOut hexec hret (hb hbytes d9) hl)⟩
theorem pays {l : Launch} {R : Room} {p : Program} {e : Env} {below : List Frame} {s : State} {sargs : Array Value} {len W : Nat} (a : Addr) (D : Cell) (fV fC : Field) (b : Addr) (A : Cell) (z : Int32) (htab : tab.before sargs s = true) (hfr : 4 ≤ R.frames) (hlo : W + 65 ≤ R.locals) :
    Back l R p e below s sargs yN len W (fun A₁ a₁ => A₁.cells + 1 ≤ R.cells ∧ A₁.slots + A.slots.size ≤ R.slots ∧ P a D fV fC b A z a₁ A₁.U) (fun A₁ _ v₁ B₁ => E a D fV fC A v₁ A₁.U B₁.U ∧ B₁.locs = A₁.locs ++ [⟨a, fC.slot⟩, ⟨a, fV.slot⟩] ∧ B₁.cells = A₁.cells + 1 ∧ B₁.slots = A₁.slots + A.slots.size) :=
  (law l a D fV fC b A z).pays htab hfr (by omega)
end New1
end StrChars
namespace StrChars.Road
open Jvm Sem ClassFile Op Lib Jvm.Stand Jvm.Free Jvm.Free.XT
open Jvm.Lib.Cold (StaticIs)
abbrev ST : String := "java/lang/String"
/-- every table word that New1's law asks, flat -/
abbrev words : List Jvm.Cond := [.code New1.yN New1.yB 2 none, .initialized ST, .methodLink ST 27 New4.yN, .instanceMethod New4.yN,
  .code New4.yN New4.yB 6 none, .fieldLink ST 38 ST "COMPACT_STRINGS" "Z", .laysFinal ST ST "value" "[B", .fieldLink ST 9 ST "value" "[B", .laysFinal ST ST "coder" "B", .fieldLink ST 15 ST "coder" "B",
  .methodLink ST 1 Lib.objectInit, .instanceMethod Lib.objectInit, .code Lib.objectInit ⟨#[0xb1]⟩ 1 none, .methodLink ST 177 Cmp3.yN, .static Cmp3.yN, .methodLink ST 47 CodL.yN, .static CodL.yN,
  .code Cmp3.yN Cmp3.yB 6 (some (.array .byte)), .initialized U16, .arrayClass .byte, .methodLink U16 115 Cmp5.yN, .static Cmp5.yN, .code Cmp5.yN Cmp5.yB 7 (some .int), .code CodL.yN CodL.yB 2 (some .byte)]
theorem tab_of {a : Array Value} {s : State} (h : ∀ w ∈ words, w.before a s = true) : New1.tab.before a s = true := by
  have h5 : Cmp5.tab.before a s = true := unparts (wk h (.code Cmp5.yN Cmp5.yB 7 (some .int))) (wks h (.initialized Cmp5.yN.cls :: Cmp5.site))
  have hc : CodL.tab.before a s = true := unparts (wk h (.code CodL.yN CodL.yB 2 (some .byte))) (wks h (.initialized CodL.yN.cls :: CodL.site))
  have q5 : ∀ w ∈ Cmp5.tab :: words, w.before a s = true := fun w hw => (List.mem_cons.mp hw).elim (fun e => e ▸ h5) (h w)
  have h3 : Cmp3.tab.before a s = true := unparts (wk q5 (.code Cmp3.yN Cmp3.yB 6 (some (.array .byte)))) (wks q5 (.initialized Cmp3.yN.cls :: Cmp3.site))
  have q3 : ∀ w ∈ Cmp3.tab :: CodL.tab :: words, w.before a s = true := fun w hw => (List.mem_cons.mp hw).elim (fun e => e ▸ h3) fun hw => (List.mem_cons.mp hw).elim (fun e => e ▸ hc) (h w)
  have h4 : New4.tab.before a s = true := unparts (wk q3 (.code New4.yN New4.yB 6 none)) (wks q3 (.initialized New4.yN.cls :: New4.site))
  have q4 : ∀ w ∈ New4.tab :: words, w.before a s = true := fun w hw => (List.mem_cons.mp hw).elim (fun e => e ▸ h4) (h w)
  exact unparts (wk q4 (.code New1.yN New1.yB 2 none)) (wks q4 (.initialized New1.yN.cls :: New1.site))
/-- the words ride from the start Z to the walk's own state -/
theorem moved {Z s : State} {a0 args : Array Value} (hZ : Z.Warmed39 s.vm) (hw : ∀ d ∈ words, d.before a0 Z = true) : ∀ d ∈ words, d.before args s = true := fun d hd => by
  have q := hw d hd
  have t : ∀ d ∈ words, d = .arrayClass .byte ∨ (d.onTables && d.keepsFace) = true := by decide +kernel
  rcases t d hd with rfl | t
  · exact RoadKit.mvA hZ q
  · exact RoadKit.mv hZ q t
/-- WHAT COMES BACK, over the tables of the start Z: h the heap at the call, h' behind it -/
def Q (Z : State) (x : Addr) (A : Cell) (h : Heap) (v : Option Value) (h' : Heap) (L : List Loc) : Prop := v = none ∧ (∀ y ∈ L, y.base = x) ∧ RoadKit.Keep h h' [x] ∧ h'.size = h.size + 1 ∧ RoadKit.Exa Z h' x ST ∧ RoadKit.Fld Z h' x ST "value" "[B" (.ref h.size) ∧ RoadKit.Fld Z h' x ST "coder" "B" (.int 0) ∧
  (∃ V : Cell, RoadKit.Arr Z h' h.size V .byte ∧ V.vm = .none ∧ Z.vm.findClass "[B" = some V.cls ∧ V.slots.size = A.slots.size ∧ ∀ j, j < A.slots.size → V.slots[j]? = some (.int (lo8 (cv A j)))) ∧
  ∀ (O n d : String) (w : Value), RoadKit.Fld Z h x O n d w → RoadKit.slotOf Z O n d ≠ RoadKit.slotOf Z ST "value" "[B" → RoadKit.slotOf Z O n d ≠ RoadKit.slotOf Z ST "coder" "B" → RoadKit.Fld Z h' x O n d w
/-- **new String(chars) AT A CALL, IN THE ROAD'S FORM**: for specialBack behind newO: x the fresh String, b the char[] with the cell A -/
theorem back {p : Program} {l : Launch} {e : Env} {R : Room} {s : State} {args : Array Value} {below : List Frame} {len W : Nat} {Z : State} {a0 : Array Value} {h : Heap} (hZ : Z.Warmed39 s.vm) (hw : ∀ d ∈ words, d.before a0 Z = true) {kI : Nat} (wi : (Jvm.Cond.instantiable ST kI).before a0 Z = true)
    {x b : Addr} {A : Cell} {z : Int32} {v0 c0 : Value} (E : RoadKit.Exa Z h x ST) (V : RoadKit.Fld Z h x ST "value" "[B" v0) (C : RoadKit.Fld Z h x ST "coder" "B" c0) (K : RoadKit.Arr Z h b A .char) (hty : Typed .char A) (S : RoadKit.Sta Z h ST "COMPACT_STRINGS" "Z" (.int z)) (hz : ¬ z = 0)
    (l0 : 0 < A.slots.size) (l2 : A.slots.size ≤ 536870912) (hp : ∀ i, i < A.slots.size → ¬ 255 < cv A i) (hfr : 4 ≤ R.frames) (hlo : W + 65 ≤ R.locals) :
    Back l R p e below s args New1.yN len W (fun P a => a = #[.ref x, .ref b] ∧ P.U.heap = h ∧ P.cells + 1 ≤ R.cells ∧ P.slots + A.slots.size ≤ R.slots)
      (fun P _ v B => ∃ L, Q Z x A h v B.U.heap L ∧ B.locs = P.locs ++ L ∧ B.cells = P.cells + 1 ∧ B.slots = P.slots + A.slots.size) := by
  intro m meth c P g ig mk a X hg hsize hdg hW hn hp'
  obtain ⟨rfl, rfl, r1, r2⟩ := hp'
  have al : Z.vm.Alike P.U.vm := hZ.alike.trans X.warmed.alike
  obtain ⟨D, cfV, kV, iV, fV, hD, gV, stV, knV, obV, asV, slV⟩ := id V
  obtain ⟨D', cfC, kC, iC, fC, hD', gC, stC, -, -, asC, slC⟩ := id C
  cases hD.symm.trans hD'
  obtain ⟨D2, kD, e1, e2, e3, e4, e5⟩ := id E
  cases hD.symm.trans e1
  obtain ⟨c2, k2, i1, i2, i3, -⟩ := Cond.instantiable_spec wi
  cases e2.symm.trans i1
  cases e3.symm.trans i2
  obtain ⟨kU, u1, u2⟩ := al.2.2 _ _ e3
  have hB : Blank ST x D P.U := ⟨hD, ⟨knV, fun q hq => by rw [hq] at obV; cases obV⟩, by rw [al.findClass]; exact e2, kU, u1, by rw [u2]; exact i3, by rw [u2]; exact e5 i3⟩
  have F1 : Found ST "value" "[B" fV P.U := ⟨SBG.found_only al ⟨cfV, kV, iV, gV⟩, stV⟩
  have F2 : Found ST "coder" "B" fC P.U := ⟨SBG.found_only al ⟨cfC, kC, iC, gC⟩, stC⟩
  have hA : Ch b A P.U := ⟨⟨K.1, State.isArrayOf_alike al K.2.1, K.2.2, by omega⟩, hty⟩
  have hS : StaticIs P.U ST "COMPACT_STRINGS" "Z" (.int z) := by
    obtain ⟨cfS, iS, kS, fS, st, cS, t1, t2, t3, t4, t5, t6, t7⟩ := S
    exact StaticIs.there (s := { Z with heap := P.U.heap }) ⟨cfS, iS, kS, fS, st, cS, t1, t2, t3, t4, t5, (fun q => by rw [q] at t6; cases t6), t7⟩ al rfl
  obtain ⟨v, B, X', ⟨⟨hv, E', V', q1, q2, q3, q4, q5, q6, q7, q8, q9, q10, q11⟩, hl, hc, hs⟩, st⟩ := New1.pays x D fV fC b A z (tab_of (moved hZ hw)) hfr hlo m meth c P g ig mk _ X hg hsize hdg hW hn ⟨r1, r2, rfl, hB, F1, F2, hA, hS, hz, l0, l2, hp⟩
  have al' : Z.vm.Alike B.U.vm := hZ.alike.trans X'.warmed.alike
  have hsz : E'.slots.size = D.slots.size := by
    obtain ⟨-, -, -, kB, w1, w2, w3⟩ := q1
    obtain ⟨kB', y1, y2⟩ := al'.2.2 _ _ e3
    rw [q2.2.1] at w1
    cases w1.symm.trans y1
    rw [w3, e5 i3, y2]
  refine ⟨v, B, X', ⟨_, ⟨hv, ?_, ⟨by omega, fun y cy hy hn' => q10 y cy (by simpa using hn') hy, fun y cy hy => ?_⟩, q11, ⟨E', _, q1.1, by rw [q2.2.1]; exact e2, by rw [q2.2.1]; exact e3, by rw [q2.1]; exact obV, fun _ => by rw [hsz]; exact e5 i3⟩,
    ⟨E', cfV, kV, iV, fV, q1.1, gV, stV, by rw [q2.1]; exact knV, by rw [q2.1]; exact obV, by rw [q2.2.1]; exact asV, q3⟩, ⟨E', cfC, kC, iC, fC, q1.1, gC, stC, by rw [q2.1]; exact knV, by rw [q2.1]; exact obV, by rw [q2.2.1]; exact asC, q4⟩,
    ⟨V', ⟨q5.1, State.isArrayOf_alike al'.symm q5.2.1, q5.2.2.1⟩, q6, by rw [← al'.findClass]; exact q7, q8, fun j hj => by have := q9 j hj; rwa [Nat.zero_add] at this⟩, fun O n d w F n1 n2 => ?_⟩, hl, hc, hs⟩, st⟩
  · intro y hy
    simp only [List.mem_cons, List.not_mem_nil, or_false] at hy
    rcases hy with rfl | rfl <;> rfl
  · by_cases q : y = x
    · subst q
      cases hD.symm.trans hy
      exact ⟨E', q1.1, q2.2.1, q2.1, hsz⟩
    · exact ⟨cy, q10 y cy q hy, rfl, rfl, rfl⟩
  · obtain ⟨D3, cf, k, i, f, g1, g2, g3, g4, g5, g6, g7⟩ := F
    cases hD.symm.trans g1
    simp only [RoadKit.slotOf, g2, gV, gC, Option.map_some, Option.getD_some] at n1 n2
    exact ⟨E', cf, k, i, f, q1.1, g2, g3, by rw [q2.1]; exact g4, by rw [q2.1]; exact g5, by rw [q2.2.1]; exact g6, by rw [q2.2.2 f.slot (by simp [n1, n2])]; exact g7⟩
end StrChars.Road
namespace StrChars.Road
open Jvm Sem ClassFile Op Lib Jvm.Stand Jvm.Free Jvm.Free.XT
/-- WHAT COMES BACK, the byte[] as a list of values -/
def QA (Z : State) (x : Addr) (zn : Int32) (cs : List Int32) (h : Heap) (v : Option Value) (h' : Heap) (L : List Loc) : Prop := v = none ∧ (∀ y ∈ L, y.base = x) ∧ RoadKit.Keep h h' [x] ∧ h'.size = h.size + 1 ∧ RoadKit.Exa Z h' x ST ∧ RoadKit.Fld Z h' x ST "value" "[B" (.ref h.size) ∧ RoadKit.Fld Z h' x ST "coder" "B" (.int 0) ∧
  (∃ kb, Z.vm.findClass "[B" = some kb ∧ RoadKit.Arv Z h' h.size kb .byte zn (cs.map fun c => .int (lo8 c)) (.int 0)) ∧
  ∀ (O n d : String) (w : Value), RoadKit.Fld Z h x O n d w → RoadKit.slotOf Z O n d ≠ RoadKit.slotOf Z ST "value" "[B" → RoadKit.slotOf Z O n d ≠ RoadKit.slotOf Z ST "coder" "B" → RoadKit.Fld Z h' x O n d w
/-- **new String(chars) AT A CALL, THE ARRAYS AS LISTS**: the char[] at b holds cs, not empty, no char above 255 -/
theorem backArv {p : Program} {l : Launch} {e : Env} {R : Room} {s : State} {args : Array Value} {below : List Frame} {len W : Nat} {Z : State} {a0 : Array Value} {h : Heap} (hZ : Z.Warmed39 s.vm) (hw : ∀ d ∈ words, d.before a0 Z = true) {kI : Nat} (wi : (Jvm.Cond.instantiable ST kI).before a0 Z = true)
    {x b : Addr} {k : ClassId} {zn z : Int32} {cs : List Int32} {dv v0 c0 : Value} (E : RoadKit.Exa Z h x ST) (V : RoadKit.Fld Z h x ST "value" "[B" v0) (C : RoadKit.Fld Z h x ST "coder" "B" c0) (K : RoadKit.Arv Z h b k .char zn (cs.map Value.int) dv) (S : RoadKit.Sta Z h ST "COMPACT_STRINGS" "Z" (.int z)) (hz : ¬ z = 0)
    (hlen : zn.toNatClampNeg = cs.length) (h0 : 0 < cs.length) (hbig : cs.length ≤ 536870912) (hall : ∀ c ∈ cs, ¬ 255 < c) (hfr : 4 ≤ R.frames) (hlo : W + 65 ≤ R.locals) :
    Back l R p e below s args New1.yN len W (fun P a => a = #[.ref x, .ref b] ∧ P.U.heap = h ∧ P.cells + 1 ≤ R.cells ∧ P.slots + cs.length ≤ R.slots)
      (fun P _ v B => ∃ L, QA Z x zn cs h v B.U.heap L ∧ B.locs = P.locs ++ L ∧ B.cells = P.cells + 1 ∧ B.slots = P.slots + cs.length) := by
  obtain ⟨A, K1, K2, K3, K4, K5, K6⟩ := K
  have e : A.slots.size = cs.length := K3.trans hlen
  have hat : ∀ (i : Nat) (hi : i < cs.length), A.slots[i]? = some (.int cs[i]) := fun i hi => by rw [K5 i (by omega)]; simp [List.getD_eq_getElem?_getD, hi]
  have hcv : ∀ (i : Nat) (hi : i < cs.length), cv A i = cs[i] := fun i hi => by unfold cv; rw [hat i hi]
  have hty : Typed .char A := fun i v hv => by
    have hi : i < A.slots.size := (Array.getElem?_eq_some_iff.mp hv).1
    have q := K5 i hi
    rw [hv] at q
    rw [Option.some.inj q]
    exact K6 i hi
  refine Back.mono (back hZ hw wi E V C K1 hty S hz (by omega) (by omega) (fun i hi => by rw [hcv i (by omega)]; exact hall _ (List.getElem_mem _)) hfr hlo) (fun P a hp => ⟨hp.1, hp.2.1, hp.2.2.1, by rw [e]; exact hp.2.2.2⟩) (fun P a v B hp hq => ?_)
  obtain ⟨L, ⟨q1, q2, q3, q4, q5, q6, q7, ⟨V', v1, v2, v3, v4, v5⟩, q9⟩, hl, hc, hs⟩ := hq
  refine ⟨L, ⟨q1, q2, q3, q4, q5, q6, q7, ⟨V'.cls, v3, V', v1, rfl, by rw [v4, e, hlen], K4, fun i hi => ?_, fun i hi => ?_⟩, q9⟩, hl, hc, by rw [hs, e]⟩
  · have hi' : i < cs.length := by omega
    rw [v5 i (by omega), hcv i hi']; simp [List.getD_eq_getElem?_getD, hi']
  · have hi' : i < cs.length := by omega
    simp only [List.getD_eq_getElem?_getD, List.getElem?_map, List.getElem?_eq_getElem hi', Option.map_some, Option.getD_some]
    exact fits_lo8 _
end StrChars.Road
namespace StrChars.Road
open Jvm Sem ClassFile Op Lib Jvm.Stand Jvm.Free Jvm.Free.XT
/-- WHAT COMES BACK, in the writer's own shape -/
def QV (Z : State) (x : Addr) (N : Int32) (bs : List Int32) (h : Heap) (n0 : Nat) (v : Option Value) (h' : Heap) (L : List Loc) : Prop := v = none ∧ RoadKit.Fr n0 L ∧ RoadKit.Keep h h' [x] ∧ RoadKit.Exa Z h' x ST ∧ RoadKit.Fld Z h' x ST "coder" "B" (.int 0) ∧
  ∃ (t : Addr) (kb : ClassId), n0 ≤ t ∧ h.size ≤ t ∧ ¬ t = x ∧ RoadKit.Fld Z h' x ST "value" "[B" (.ref t) ∧ RoadKit.Arv Z h' t kb .byte N (bs.map Value.int) (.int 0)
/-- **new String(chars) AT A CALL, FOR THE WRITER**: a char[] of n known ints, each 0 to 255 -/
theorem backV {p : Program} {l : Launch} {e : Env} {R : Room} {s : State} {args : Array Value} {below : List Frame} {len W : Nat} {Z : State} {a0 : Array Value} {h : Heap} (hZ : Z.Warmed39 s.vm) (hw : ∀ d ∈ words, d.before a0 Z = true) {kI : Nat} (wi : (Jvm.Cond.instantiable ST kI).before a0 Z = true)
    {x b : Addr} {kC : ClassId} {cs bs : List Int32} {d v0 c0 : Value} {z N : Int32} {n n0 : Nat} (hx0 : n0 ≤ x) (hh0 : n0 ≤ h.size) (E : RoadKit.Exa Z h x ST) (V : RoadKit.Fld Z h x ST "value" "[B" v0) (C : RoadKit.Fld Z h x ST "coder" "B" c0) (K : RoadKit.Arv Z h b kC .char N (cs.map Value.int) d) (S : RoadKit.Sta Z h ST "COMPACT_STRINGS" "Z" (.int z)) (hz : ¬ z = 0)
    (hn : cs.length = n) (hN : N = Int32.ofNat n) (l0 : 0 < n) (l2 : n ≤ 4000) (hp : ∀ c ∈ cs, ¬ c < 0 ∧ ¬ (255 : Int32) < c) (hb : bs = cs.map (fun c => c.toInt8.toInt32)) (hfr : 4 ≤ R.frames) (hlo : W + 65 ≤ R.locals) :
    Back l R p e below s args (⟨"java/lang/String", "<init>", "([C)V"⟩ : MethodName) len W (fun P a => a = #[.ref x, .ref b] ∧ P.U.heap = h ∧ P.cells + 1 ≤ R.cells ∧ P.slots + n ≤ R.slots)
      (fun P _ v B => ∃ L, QV Z x N bs h n0 v B.U.heap L ∧ B.locs = P.locs ++ L ∧ B.cells = P.cells + 1 ∧ B.slots = P.slots + n) := by
  subst hn hN hb
  refine Back.mono (backArv hZ hw wi E V C K S hz (n32 (by omega)) l0 (by omega) (fun c hc => (hp c hc).2) hfr hlo) (fun P a hp => hp) (fun P a v B hp hq => ?_)
  obtain ⟨L, ⟨q1, q2, q3, q4, q5, q6, q7, ⟨kb, v1, v2⟩, q9⟩, hl, hc, hs⟩ := hq
  exact ⟨L, ⟨q1, fun y hy => by rw [q2 y hy]; exact hx0, q3, q5, q7, h.size, kb, hh0, Nat.le_refl _, Nat.ne_of_gt E.lt, q6, by rw [List.map_map]; exact v2⟩, hl, hc, hs⟩
end StrChars.Road
end Jvm.Pilot.@@N@@
namespace Jvm.Pilot.@@N@@
open Jvm Jvm.ClassFile Sem Op Lib Jvm.Free Jvm.Stand Jvm.LawKit Jvm.RoadKit Bundle Jvm.Pilot.@@N@@.Jvm.D
set_option maxRecDepth 65536
set_option maxHeartbeats 40000000
abbrev kc0 : String := "java/lang/String"
abbrev kc1 : String := "com/example/roundkeeper/roundkeeper/ruleset/actionpoints/Fighter"
abbrev kc2 : String := "com/example/roundkeeper/roundkeeper/Turn"
theorem own_and255 (x : Int32) : ¬ ((x &&& (255 : Int32)).toUInt32.toUInt16.toUInt32.toInt32) < 0 ∧ ¬ (255 : Int32) < ((x &&& (255 : Int32)).toUInt32.toUInt16.toUInt32.toInt32) := by
  have t : ∀ k : Fin 256, ¬ ((Int32.ofNat k.val).toUInt32.toUInt16.toUInt32.toInt32) < 0 ∧ ¬ (255 : Int32) < ((Int32.ofNat k.val).toUInt32.toUInt16.toUInt32.toInt32) := by decide +kernel
  have h : (x &&& 255).toBitVec.toNat < 256 := by
    rw [Int32.toBitVec_and, BitVec.toNat_and]
    exact Nat.lt_succ_of_le Nat.and_le_right
  have e : (x &&& 255) = Int32.ofNat (x &&& 255).toBitVec.toNat := by
    apply Int32.toBitVec_inj.mp
    show _ = BitVec.ofNat 32 _
    rw [BitVec.ofNat_toNat]; simp
  rw [e]
  exact t ⟨_, h⟩
theorem own_lat (x : Int32) : (((((x &&& (255 : Int32)).toUInt32.toUInt16.toUInt32.toInt32).toInt8.toInt32) &&& (255 : Int32)).toUInt32.toUInt16.toUInt32.toInt32) = ((x &&& (255 : Int32)).toUInt32.toUInt16.toUInt32.toInt32) := by
  have t : ∀ k : Fin 256, (((((Int32.ofNat k.val).toUInt32.toUInt16.toUInt32.toInt32).toInt8.toInt32) &&& (255 : Int32)).toUInt32.toUInt16.toUInt32.toInt32) = ((Int32.ofNat k.val).toUInt32.toUInt16.toUInt32.toInt32) := by decide +kernel
  have h : (x &&& 255).toBitVec.toNat < 256 := by
    rw [Int32.toBitVec_and, BitVec.toNat_and]
    exact Nat.lt_succ_of_le Nat.and_le_right
  have e : (x &&& 255) = Int32.ofNat (x &&& 255).toBitVec.toNat := by
    apply Int32.toBitVec_inj.mp
    show _ = BitVec.ofNat 32 _
    rw [BitVec.ofNat_toNat]; simp
  rw [e]
  exact t ⟨_, h⟩
theorem own_hws {Z : State} {a0 : Array Value} (hw : ∀ d ∈ tables_1, d.before a0 Z = true) : ∀ d ∈ StrChars.Road.words, d.before a0 Z = true := fun d hd => hw d ((by decide +kernel : ∀ d ∈ StrChars.Road.words, d ∈ tables_1) d hd)
abbrev DC (b : ByteArray) (p : Nat) (i : Instr) (n : Nat) : Prop := ∀ {c : Code}, c.code = b → decode c.code p = .ok (i, n)
abbrev WD (w : Jvm.Cond) : Prop := ∀ {Z : State} {a0 : Array Value}, (∀ d ∈ tables_1, d.before a0 Z = true) → w.before a0 Z = true
theorem own_wd (i : Nat) {w : Jvm.Cond} (h : tables_1[i]? = some w) {Z : State} {a0 : Array Value} (hw : ∀ d ∈ tables_1, d.before a0 Z = true) : w.before a0 Z = true := hw _ (List.mem_of_getElem? h)
abbrev yn_1 : MethodName := ⟨"java/lang/String", "<init>", "([C)V"⟩
abbrev yn_7 : MethodName := ⟨"java/lang/String", "valueOf", "(C)Ljava/lang/String;"⟩
abbrev yn_8 : MethodName := ⟨"java/lang/StringLatin1", "canEncode", "(C)Z"⟩
abbrev yn_9 : MethodName := ⟨"java/lang/StringLatin1", "toBytes", "(C)[B"⟩
abbrev yn_10 : MethodName := ⟨"java/lang/String", "<init>", "([BB)V"⟩
abbrev yn_11 : MethodName := ⟨"java/util/Map", "of", "()Ljava/util/Map;"⟩
abbrev yn_12 : MethodName := ⟨"java/util/Set", "of", "()Ljava/util/Set;"⟩
abbrev yn_13 : MethodName := ⟨"com/example/roundkeeper/roundkeeper/ruleset/actionpoints/Fighter", "<init>", "(Ljava/lang/String;Ljava/lang/String;IIIIILjava/util/Map;Ljava/util/Set;)V"⟩
abbrev yn_14 : MethodName := ⟨"java/lang/Record", "<init>", "()V"⟩
abbrev yn_15 : MethodName := ⟨"java/util/Map", "copyOf", "(Ljava/util/Map;)Ljava/util/Map;"⟩
abbrev yn_16 : MethodName := ⟨"java/util/Set", "copyOf", "(Ljava/util/Collection;)Ljava/util/Set;"⟩
abbrev yn_17 : MethodName := ⟨"com/example/roundkeeper/roundkeeper/ruleset/actionpoints/Fighter", "turn", "()Lcom/example/roundkeeper/roundkeeper/Turn;"⟩
abbrev yn_18 : MethodName := ⟨"com/example/roundkeeper/roundkeeper/Turn", "<init>", "(Ljava/lang/String;Ljava/lang/String;I)V"⟩
abbrev yn_19 : MethodName := ⟨"com/example/roundkeeper/roundkeeper/Turn", "<init>", "(Ljava/lang/String;Ljava/lang/String;IZ)V"⟩
abbrev yn_20 : MethodName := ⟨"com/example/roundkeeper/roundkeeper/Turn", "name", "()Ljava/lang/String;"⟩
abbrev yn_21 : MethodName := ⟨"com/example/roundkeeper/roundkeeper/Turn", "side", "()Ljava/lang/String;"⟩
abbrev yn_22 : MethodName := ⟨"java/lang/String", "length", "()I"⟩
abbrev yn_23 : MethodName := ⟨"java/lang/String", "coder", "()B"⟩
abbrev yn_24 : MethodName := ⟨"java/lang/String", "charAt", "(I)C"⟩
abbrev yn_25 : MethodName := ⟨"java/lang/String", "isLatin1", "()Z"⟩
abbrev yn_26 : MethodName := ⟨"java/lang/StringLatin1", "charAt", "([BI)C"⟩
abbrev yn_27 : MethodName := ⟨"java/lang/String", "checkIndex", "(II)V"⟩
abbrev yn_28 : MethodName := ⟨"jdk/internal/util/Preconditions", "checkIndex", "(IILjava/util/function/BiFunction;)I"⟩
abbrev yn_29 : MethodName := ⟨"com/example/roundkeeper/roundkeeper/Turn", "initiative", "()I"⟩
abbrev yn_30 : MethodName := ⟨"com/example/roundkeeper/roundkeeper/Turn", "simultaneous", "()Z"⟩
theorem d14_0 : DC jdk_30_method_1_code 0 (.aload_n 0) 1 := fun h => hb h (by decide +kernel)
theorem d14_1 : DC jdk_30_method_1_code 1 (.invokespecial 1) 3 := fun h => hb h (by decide +kernel)
theorem d14_4 : DC jdk_30_method_1_code 4 (.return_) 1 := fun h => hb h (by decide +kernel)
theorem d28_0 : DC jdk_41_method_11_code 0 (.iload_n 0) 1 := fun h => hb h (by decide +kernel)
theorem d28_1 : DC jdk_41_method_11_code 1 (.ifCond .lt 8) 3 := fun h => hb h (by decide +kernel)
theorem d28_4 : DC jdk_41_method_11_code 4 (.iload_n 0) 1 := fun h => hb h (by decide +kernel)
theorem d28_5 : DC jdk_41_method_11_code 5 (.iload_n 1) 1 := fun h => hb h (by decide +kernel)
theorem d28_6 : DC jdk_41_method_11_code 6 (.if_icmp .lt 10) 3 := fun h => hb h (by decide +kernel)
theorem d28_16 : DC jdk_41_method_11_code 16 (.iload_n 0) 1 := fun h => hb h (by decide +kernel)
theorem d28_17 : DC jdk_41_method_11_code 17 (.ireturn) 1 := fun h => hb h (by decide +kernel)
theorem d7_0 : DC jdk_42_method_139_code 0 (.getstatic 38) 3 := fun h => hb h (by decide +kernel)
theorem d7_3 : DC jdk_42_method_139_code 3 (.ifCond .eq 23) 3 := fun h => hb h (by decide +kernel)
theorem d7_6 : DC jdk_42_method_139_code 6 (.iload_n 0) 1 := fun h => hb h (by decide +kernel)
theorem d7_7 : DC jdk_42_method_139_code 7 (.invokestatic 1015) 3 := fun h => hb h (by decide +kernel)
theorem d7_10 : DC jdk_42_method_139_code 10 (.ifCond .eq 16) 3 := fun h => hb h (by decide +kernel)
theorem d7_13 : DC jdk_42_method_139_code 13 (.new 10) 3 := fun h => hb h (by decide +kernel)
theorem d7_16 : DC jdk_42_method_139_code 16 (.dup) 1 := fun h => hb h (by decide +kernel)
theorem d7_17 : DC jdk_42_method_139_code 17 (.iload_n 0) 1 := fun h => hb h (by decide +kernel)
theorem d7_18 : DC jdk_42_method_139_code 18 (.invokestatic 1018) 3 := fun h => hb h (by decide +kernel)
theorem d7_21 : DC jdk_42_method_139_code 21 (.iconst 0) 1 := fun h => hb h (by decide +kernel)
theorem d7_22 : DC jdk_42_method_139_code 22 (.invokespecial 209) 3 := fun h => hb h (by decide +kernel)
theorem d7_25 : DC jdk_42_method_139_code 25 (.areturn) 1 := fun h => hb h (by decide +kernel)
theorem d10_0 : DC jdk_42_method_151_code 0 (.aload_n 0) 1 := fun h => hb h (by decide +kernel)
theorem d10_1 : DC jdk_42_method_151_code 1 (.invokespecial 1) 3 := fun h => hb h (by decide +kernel)
theorem d10_4 : DC jdk_42_method_151_code 4 (.aload_n 0) 1 := fun h => hb h (by decide +kernel)
theorem d10_5 : DC jdk_42_method_151_code 5 (.aload_n 1) 1 := fun h => hb h (by decide +kernel)
theorem d10_6 : DC jdk_42_method_151_code 6 (.putfield 9) 3 := fun h => hb h (by decide +kernel)
theorem d10_9 : DC jdk_42_method_151_code 9 (.aload_n 0) 1 := fun h => hb h (by decide +kernel)
theorem d10_10 : DC jdk_42_method_151_code 10 (.iload_n 2) 1 := fun h => hb h (by decide +kernel)
theorem d10_11 : DC jdk_42_method_151_code 11 (.putfield 15) 3 := fun h => hb h (by decide +kernel)
theorem d10_14 : DC jdk_42_method_151_code 14 (.return_) 1 := fun h => hb h (by decide +kernel)
theorem d23_0 : DC jdk_42_method_152_code 0 (.getstatic 38) 3 := fun h => hb h (by decide +kernel)
theorem d23_3 : DC jdk_42_method_152_code 3 (.ifCond .eq 10) 3 := fun h => hb h (by decide +kernel)
theorem d23_6 : DC jdk_42_method_152_code 6 (.aload_n 0) 1 := fun h => hb h (by decide +kernel)
theorem d23_7 : DC jdk_42_method_152_code 7 (.getfield 15) 3 := fun h => hb h (by decide +kernel)
theorem d23_10 : DC jdk_42_method_152_code 10 (.goto 4) 3 := fun h => hb h (by decide +kernel)
theorem d23_14 : DC jdk_42_method_152_code 14 (.ireturn) 1 := fun h => hb h (by decide +kernel)
theorem d25_0 : DC jdk_42_method_154_code 0 (.getstatic 38) 3 := fun h => hb h (by decide +kernel)
theorem d25_3 : DC jdk_42_method_154_code 3 (.ifCond .eq 14) 3 := fun h => hb h (by decide +kernel)
theorem d25_6 : DC jdk_42_method_154_code 6 (.aload_n 0) 1 := fun h => hb h (by decide +kernel)
theorem d25_7 : DC jdk_42_method_154_code 7 (.getfield 15) 3 := fun h => hb h (by decide +kernel)
theorem d25_10 : DC jdk_42_method_154_code 10 (.ifCond .ne 7) 3 := fun h => hb h (by decide +kernel)
theorem d25_13 : DC jdk_42_method_154_code 13 (.iconst 1) 1 := fun h => hb h (by decide +kernel)
theorem d25_14 : DC jdk_42_method_154_code 14 (.goto 4) 3 := fun h => hb h (by decide +kernel)
theorem d25_18 : DC jdk_42_method_154_code 18 (.ireturn) 1 := fun h => hb h (by decide +kernel)
theorem d27_0 : DC jdk_42_method_155_code 0 (.iload_n 0) 1 := fun h => hb h (by decide +kernel)
theorem d27_1 : DC jdk_42_method_155_code 1 (.iload_n 1) 1 := fun h => hb h (by decide +kernel)
theorem d27_2 : DC jdk_42_method_155_code 2 (.getstatic 1053) 3 := fun h => hb h (by decide +kernel)
theorem d27_5 : DC jdk_42_method_155_code 5 (.invokestatic 1059) 3 := fun h => hb h (by decide +kernel)
theorem d27_8 : DC jdk_42_method_155_code 8 (.pop) 1 := fun h => hb h (by decide +kernel)
theorem d27_9 : DC jdk_42_method_155_code 9 (.return_) 1 := fun h => hb h (by decide +kernel)
theorem d22_0 : DC jdk_42_method_54_code 0 (.aload_n 0) 1 := fun h => hb h (by decide +kernel)
theorem d22_1 : DC jdk_42_method_54_code 1 (.getfield 9) 3 := fun h => hb h (by decide +kernel)
theorem d22_4 : DC jdk_42_method_54_code 4 (.arraylength) 1 := fun h => hb h (by decide +kernel)
theorem d22_5 : DC jdk_42_method_54_code 5 (.aload_n 0) 1 := fun h => hb h (by decide +kernel)
theorem d22_6 : DC jdk_42_method_54_code 6 (.invokevirtual 335) 3 := fun h => hb h (by decide +kernel)
theorem d22_9 : DC jdk_42_method_54_code 9 (.ishr) 1 := fun h => hb h (by decide +kernel)
theorem d22_10 : DC jdk_42_method_54_code 10 (.ireturn) 1 := fun h => hb h (by decide +kernel)
theorem d24_0 : DC jdk_42_method_56_code 0 (.aload_n 0) 1 := fun h => hb h (by decide +kernel)
theorem d24_1 : DC jdk_42_method_56_code 1 (.invokevirtual 492) 3 := fun h => hb h (by decide +kernel)
theorem d24_4 : DC jdk_42_method_56_code 4 (.ifCond .eq 12) 3 := fun h => hb h (by decide +kernel)
theorem d24_7 : DC jdk_42_method_56_code 7 (.aload_n 0) 1 := fun h => hb h (by decide +kernel)
theorem d24_8 : DC jdk_42_method_56_code 8 (.getfield 9) 3 := fun h => hb h (by decide +kernel)
theorem d24_11 : DC jdk_42_method_56_code 11 (.iload_n 1) 1 := fun h => hb h (by decide +kernel)
theorem d24_12 : DC jdk_42_method_56_code 12 (.invokestatic 495) 3 := fun h => hb h (by decide +kernel)
theorem d24_15 : DC jdk_42_method_56_code 15 (.ireturn) 1 := fun h => hb h (by decide +kernel)
theorem d26_0 : DC jdk_43_method_2_code 0 (.iload_n 1) 1 := fun h => hb h (by decide +kernel)
theorem d26_1 : DC jdk_43_method_2_code 1 (.aload_n 0) 1 := fun h => hb h (by decide +kernel)
theorem d26_2 : DC jdk_43_method_2_code 2 (.arraylength) 1 := fun h => hb h (by decide +kernel)
theorem d26_3 : DC jdk_43_method_2_code 3 (.invokestatic 9) 3 := fun h => hb h (by decide +kernel)
theorem d26_6 : DC jdk_43_method_2_code 6 (.aload_n 0) 1 := fun h => hb h (by decide +kernel)
theorem d26_7 : DC jdk_43_method_2_code 7 (.iload_n 1) 1 := fun h => hb h (by decide +kernel)
theorem d26_8 : DC jdk_43_method_2_code 8 (.baload) 1 := fun h => hb h (by decide +kernel)
theorem d26_9 : DC jdk_43_method_2_code 9 (.sipush 255) 3 := fun h => hb h (by decide +kernel)
theorem d26_12 : DC jdk_43_method_2_code 12 (.iand) 1 := fun h => hb h (by decide +kernel)
theorem d26_13 : DC jdk_43_method_2_code 13 (.i2c) 1 := fun h => hb h (by decide +kernel)
theorem d26_14 : DC jdk_43_method_2_code 14 (.ireturn) 1 := fun h => hb h (by decide +kernel)
theorem d8_0 : DC jdk_43_method_3_code 0 (.iload_n 0) 1 := fun h => hb h (by decide +kernel)
theorem d8_1 : DC jdk_43_method_3_code 1 (.sipush 255) 3 := fun h => hb h (by decide +kernel)
theorem d8_4 : DC jdk_43_method_3_code 4 (.if_icmp .gt 7) 3 := fun h => hb h (by decide +kernel)
theorem d8_7 : DC jdk_43_method_3_code 7 (.iconst 1) 1 := fun h => hb h (by decide +kernel)
theorem d8_8 : DC jdk_43_method_3_code 8 (.goto 4) 3 := fun h => hb h (by decide +kernel)
theorem d8_12 : DC jdk_43_method_3_code 12 (.ireturn) 1 := fun h => hb h (by decide +kernel)
theorem d9_0 : DC jdk_43_method_46_code 0 (.iconst 1) 1 := fun h => hb h (by decide +kernel)
theorem d9_1 : DC jdk_43_method_46_code 1 (.newarray .byte) 2 := fun h => hb h (by decide +kernel)
theorem d9_3 : DC jdk_43_method_46_code 3 (.dup) 1 := fun h => hb h (by decide +kernel)
theorem d9_4 : DC jdk_43_method_46_code 4 (.iconst 0) 1 := fun h => hb h (by decide +kernel)
theorem d9_5 : DC jdk_43_method_46_code 5 (.iload_n 0) 1 := fun h => hb h (by decide +kernel)
theorem d9_6 : DC jdk_43_method_46_code 6 (.i2b) 1 := fun h => hb h (by decide +kernel)
theorem d9_7 : DC jdk_43_method_46_code 7 (.bastore) 1 := fun h => hb h (by decide +kernel)
theorem d9_8 : DC jdk_43_method_46_code 8 (.areturn) 1 := fun h => hb h (by decide +kernel)
theorem d11_0 : DC jdk_72_method_26_code 0 (.getstatic 81) 3 := fun h => hb h (by decide +kernel)
theorem d11_3 : DC jdk_72_method_26_code 3 (.areturn) 1 := fun h => hb h (by decide +kernel)
theorem d15_0 : DC jdk_72_method_39_code 0 (.aload_n 0) 1 := fun h => hb h (by decide +kernel)
theorem d15_1 : DC jdk_72_method_39_code 1 (.instanceof 101) 3 := fun h => hb h (by decide +kernel)
theorem d15_4 : DC jdk_72_method_39_code 4 (.ifCond .eq 5) 3 := fun h => hb h (by decide +kernel)
theorem d15_7 : DC jdk_72_method_39_code 7 (.aload_n 0) 1 := fun h => hb h (by decide +kernel)
theorem d15_8 : DC jdk_72_method_39_code 8 (.areturn) 1 := fun h => hb h (by decide +kernel)
theorem d12_0 : DC jdk_96_method_17_code 0 (.getstatic 9) 3 := fun h => hb h (by decide +kernel)
theorem d12_3 : DC jdk_96_method_17_code 3 (.areturn) 1 := fun h => hb h (by decide +kernel)
theorem d16_0 : DC jdk_96_method_29_code 0 (.aload_n 0) 1 := fun h => hb h (by decide +kernel)
theorem d16_1 : DC jdk_96_method_29_code 1 (.instanceof 31) 3 := fun h => hb h (by decide +kernel)
theorem d16_4 : DC jdk_96_method_29_code 4 (.ifCond .eq 8) 3 := fun h => hb h (by decide +kernel)
theorem d16_7 : DC jdk_96_method_29_code 7 (.aload_n 0) 1 := fun h => hb h (by decide +kernel)
theorem d16_8 : DC jdk_96_method_29_code 8 (.checkcast 33) 3 := fun h => hb h (by decide +kernel)
theorem d16_11 : DC jdk_96_method_29_code 11 (.areturn) 1 := fun h => hb h (by decide +kernel)
theorem d18_0 : DC prog_3_method_1_code 0 (.aload_n 0) 1 := fun h => hb h (by decide +kernel)
theorem d18_1 : DC prog_3_method_1_code 1 (.aload_n 1) 1 := fun h => hb h (by decide +kernel)
theorem d18_2 : DC prog_3_method_1_code 2 (.aload_n 2) 1 := fun h => hb h (by decide +kernel)
theorem d18_3 : DC prog_3_method_1_code 3 (.iload_n 3) 1 := fun h => hb h (by decide +kernel)
theorem d18_4 : DC prog_3_method_1_code 4 (.iconst 0) 1 := fun h => hb h (by decide +kernel)
theorem d18_5 : DC prog_3_method_1_code 5 (.invokespecial 24) 3 := fun h => hb h (by decide +kernel)
theorem d18_8 : DC prog_3_method_1_code 8 (.return_) 1 := fun h => hb h (by decide +kernel)
theorem d19_0 : DC prog_3_method_2_code 0 (.aload_n 0) 1 := fun h => hb h (by decide +kernel)
theorem d19_1 : DC prog_3_method_2_code 1 (.invokespecial 1) 3 := fun h => hb h (by decide +kernel)
theorem d19_4 : DC prog_3_method_2_code 4 (.aload_n 0) 1 := fun h => hb h (by decide +kernel)
theorem d19_5 : DC prog_3_method_2_code 5 (.aload_n 1) 1 := fun h => hb h (by decide +kernel)
theorem d19_6 : DC prog_3_method_2_code 6 (.putfield 7) 3 := fun h => hb h (by decide +kernel)
theorem d19_9 : DC prog_3_method_2_code 9 (.aload_n 0) 1 := fun h => hb h (by decide +kernel)
theorem d19_10 : DC prog_3_method_2_code 10 (.aload_n 2) 1 := fun h => hb h (by decide +kernel)
theorem d19_11 : DC prog_3_method_2_code 11 (.putfield 13) 3 := fun h => hb h (by decide +kernel)
theorem d19_14 : DC prog_3_method_2_code 14 (.aload_n 0) 1 := fun h => hb h (by decide +kernel)
theorem d19_15 : DC prog_3_method_2_code 15 (.iload_n 3) 1 := fun h => hb h (by decide +kernel)
theorem d19_16 : DC prog_3_method_2_code 16 (.putfield 16) 3 := fun h => hb h (by decide +kernel)
theorem d19_19 : DC prog_3_method_2_code 19 (.aload_n 0) 1 := fun h => hb h (by decide +kernel)
theorem d19_20 : DC prog_3_method_2_code 20 (.iload 4) 2 := fun h => hb h (by decide +kernel)
theorem d19_22 : DC prog_3_method_2_code 22 (.putfield 20) 3 := fun h => hb h (by decide +kernel)
theorem d19_25 : DC prog_3_method_2_code 25 (.return_) 1 := fun h => hb h (by decide +kernel)
theorem d20_0 : DC prog_3_method_6_code 0 (.aload_n 0) 1 := fun h => hb h (by decide +kernel)
theorem d20_1 : DC prog_3_method_6_code 1 (.getfield 7) 3 := fun h => hb h (by decide +kernel)
theorem d20_4 : DC prog_3_method_6_code 4 (.areturn) 1 := fun h => hb h (by decide +kernel)
theorem d21_0 : DC prog_3_method_7_code 0 (.aload_n 0) 1 := fun h => hb h (by decide +kernel)
theorem d21_1 : DC prog_3_method_7_code 1 (.getfield 13) 3 := fun h => hb h (by decide +kernel)
theorem d21_4 : DC prog_3_method_7_code 4 (.areturn) 1 := fun h => hb h (by decide +kernel)
theorem d29_0 : DC prog_3_method_8_code 0 (.aload_n 0) 1 := fun h => hb h (by decide +kernel)
theorem d29_1 : DC prog_3_method_8_code 1 (.getfield 16) 3 := fun h => hb h (by decide +kernel)
theorem d29_4 : DC prog_3_method_8_code 4 (.ireturn) 1 := fun h => hb h (by decide +kernel)
theorem d30_0 : DC prog_3_method_9_code 0 (.aload_n 0) 1 := fun h => hb h (by decide +kernel)
theorem d30_1 : DC prog_3_method_9_code 1 (.getfield 20) 3 := fun h => hb h (by decide +kernel)
theorem d30_4 : DC prog_3_method_9_code 4 (.ireturn) 1 := fun h => hb h (by decide +kernel)
theorem d13_0 : DC prog_6_method_1_code 0 (.aload_n 0) 1 := fun h => hb h (by decide +kernel)
theorem d13_1 : DC prog_6_method_1_code 1 (.invokespecial 1) 3 := fun h => hb h (by decide +kernel)
theorem d13_4 : DC prog_6_method_1_code 4 (.aload 8) 2 := fun h => hb h (by decide +kernel)
theorem d13_6 : DC prog_6_method_1_code 6 (.invokestatic 7) 3 := fun h => hb h (by decide +kernel)
theorem d13_9 : DC prog_6_method_1_code 9 (.astore 8) 2 := fun h => hb h (by decide +kernel)
theorem d13_11 : DC prog_6_method_1_code 11 (.aload 9) 2 := fun h => hb h (by decide +kernel)
theorem d13_13 : DC prog_6_method_1_code 13 (.invokestatic 13) 3 := fun h => hb h (by decide +kernel)
theorem d13_16 : DC prog_6_method_1_code 16 (.astore 9) 2 := fun h => hb h (by decide +kernel)
theorem d13_18 : DC prog_6_method_1_code 18 (.aload_n 0) 1 := fun h => hb h (by decide +kernel)
theorem d13_19 : DC prog_6_method_1_code 19 (.aload_n 1) 1 := fun h => hb h (by decide +kernel)
theorem d13_20 : DC prog_6_method_1_code 20 (.putfield 18) 3 := fun h => hb h (by decide +kernel)
theorem d13_23 : DC prog_6_method_1_code 23 (.aload_n 0) 1 := fun h => hb h (by decide +kernel)
theorem d13_24 : DC prog_6_method_1_code 24 (.aload_n 2) 1 := fun h => hb h (by decide +kernel)
theorem d13_25 : DC prog_6_method_1_code 25 (.putfield 24) 3 := fun h => hb h (by decide +kernel)
theorem d13_28 : DC prog_6_method_1_code 28 (.aload_n 0) 1 := fun h => hb h (by decide +kernel)
theorem d13_29 : DC prog_6_method_1_code 29 (.iload_n 3) 1 := fun h => hb h (by decide +kernel)
theorem d13_30 : DC prog_6_method_1_code 30 (.putfield 27) 3 := fun h => hb h (by decide +kernel)
theorem d13_33 : DC prog_6_method_1_code 33 (.aload_n 0) 1 := fun h => hb h (by decide +kernel)
theorem d13_34 : DC prog_6_method_1_code 34 (.iload 4) 2 := fun h => hb h (by decide +kernel)
theorem d13_36 : DC prog_6_method_1_code 36 (.putfield 31) 3 := fun h => hb h (by decide +kernel)
theorem d13_39 : DC prog_6_method_1_code 39 (.aload_n 0) 1 := fun h => hb h (by decide +kernel)
theorem d13_40 : DC prog_6_method_1_code 40 (.iload 5) 2 := fun h => hb h (by decide +kernel)
theorem d13_42 : DC prog_6_method_1_code 42 (.putfield 34) 3 := fun h => hb h (by decide +kernel)
theorem d13_45 : DC prog_6_method_1_code 45 (.aload_n 0) 1 := fun h => hb h (by decide +kernel)
theorem d13_46 : DC prog_6_method_1_code 46 (.iload 6) 2 := fun h => hb h (by decide +kernel)
theorem d13_48 : DC prog_6_method_1_code 48 (.putfield 37) 3 := fun h => hb h (by decide +kernel)
theorem d13_51 : DC prog_6_method_1_code 51 (.aload_n 0) 1 := fun h => hb h (by decide +kernel)
theorem d13_52 : DC prog_6_method_1_code 52 (.iload 7) 2 := fun h => hb h (by decide +kernel)
theorem d13_54 : DC prog_6_method_1_code 54 (.putfield 40) 3 := fun h => hb h (by decide +kernel)
theorem d13_57 : DC prog_6_method_1_code 57 (.aload_n 0) 1 := fun h => hb h (by decide +kernel)
theorem d13_58 : DC prog_6_method_1_code 58 (.aload 8) 2 := fun h => hb h (by decide +kernel)
theorem d13_60 : DC prog_6_method_1_code 60 (.putfield 43) 3 := fun h => hb h (by decide +kernel)
theorem d13_63 : DC prog_6_method_1_code 63 (.aload_n 0) 1 := fun h => hb h (by decide +kernel)
theorem d13_64 : DC prog_6_method_1_code 64 (.aload 9) 2 := fun h => hb h (by decide +kernel)
theorem d13_66 : DC prog_6_method_1_code 66 (.putfield 47) 3 := fun h => hb h (by decide +kernel)
theorem d13_69 : DC prog_6_method_1_code 69 (.return_) 1 := fun h => hb h (by decide +kernel)
theorem d17_0 : DC prog_6_method_2_code 0 (.new 51) 3 := fun h => hb h (by decide +kernel)
theorem d17_3 : DC prog_6_method_2_code 3 (.dup) 1 := fun h => hb h (by decide +kernel)
theorem d17_4 : DC prog_6_method_2_code 4 (.aload_n 0) 1 := fun h => hb h (by decide +kernel)
theorem d17_5 : DC prog_6_method_2_code 5 (.getfield 18) 3 := fun h => hb h (by decide +kernel)
theorem d17_8 : DC prog_6_method_2_code 8 (.aload_n 0) 1 := fun h => hb h (by decide +kernel)
theorem d17_9 : DC prog_6_method_2_code 9 (.getfield 24) 3 := fun h => hb h (by decide +kernel)
theorem d17_12 : DC prog_6_method_2_code 12 (.aload_n 0) 1 := fun h => hb h (by decide +kernel)
theorem d17_13 : DC prog_6_method_2_code 13 (.getfield 27) 3 := fun h => hb h (by decide +kernel)
theorem d17_16 : DC prog_6_method_2_code 16 (.invokespecial 53) 3 := fun h => hb h (by decide +kernel)
theorem d17_19 : DC prog_6_method_2_code 19 (.areturn) 1 := fun h => hb h (by decide +kernel)
theorem pn_0 : plainName "java/lang/StringLatin1" = true := by first | (simp [plainName, overriddenIn]; done) | decide +kernel
theorem pn_1 : plainName "java/lang/String" = true := by first | (simp [plainName, overriddenIn]; done) | decide +kernel
theorem pn_2 : plainName "java/util/Map" = true := by first | (simp [plainName, overriddenIn]; done) | decide +kernel
theorem pn_3 : plainName "java/util/Set" = true := by first | (simp [plainName, overriddenIn]; done) | decide +kernel
theorem pn_4 : plainName "java/lang/Record" = true := by first | (simp [plainName, overriddenIn]; done) | decide +kernel
theorem pn_5 : plainName "com/example/roundkeeper/roundkeeper/ruleset/actionpoints/Fighter" = true := by first | (simp [plainName, overriddenIn]; done) | decide +kernel
theorem pn_6 : plainName "com/example/roundkeeper/roundkeeper/Turn" = true := by first | (simp [plainName, overriddenIn]; done) | decide +kernel
theorem pn_7 : plainName "jdk/internal/util/Preconditions" = true := by first | (simp [plainName, overriddenIn]; done) | decide +kernel
theorem pn_8 : plainName "com/example/roundkeeper/roundkeeper/ruleset/actionpoints/FighterTurnPinLaw" = true := by first | (simp [plainName, overriddenIn]; done) | decide +kernel
theorem pd_0 : parseMethodDescriptor "([C)V" = some ⟨[(.array .char)], none⟩ := by decide +kernel
theorem pd_1 : parseMethodDescriptor "(C)Z" = some ⟨[.char], some .boolean⟩ := by decide +kernel
theorem pd_2 : parseMethodDescriptor "(C)[B" = some ⟨[.char], some (.array .byte)⟩ := by decide +kernel
theorem pd_3 : parseMethodDescriptor "([BB)V" = some ⟨[(.array .byte), .byte], none⟩ := by decide +kernel
theorem pd_4 : parseMethodDescriptor "(C)Ljava/lang/String;" = some ⟨[.char], some (.object "java/lang/String")⟩ := by decide +kernel
theorem pd_5 : parseMethodDescriptor "()Ljava/util/Map;" = some ⟨[], some (.object "java/util/Map")⟩ := by decide +kernel
theorem pd_6 : parseMethodDescriptor "()Ljava/util/Set;" = some ⟨[], some (.object "java/util/Set")⟩ := by decide +kernel
theorem pd_7 : parseMethodDescriptor "()V" = some ⟨[], none⟩ := by decide +kernel
theorem pd_8 : parseMethodDescriptor "(Ljava/util/Map;)Ljava/util/Map;" = some ⟨[(.object "java/util/Map")], some (.object "java/util/Map")⟩ := by decide +kernel
theorem pd_9 : parseMethodDescriptor "(Ljava/util/Collection;)Ljava/util/Set;" = some ⟨[(.object "java/util/Collection")], some (.object "java/util/Set")⟩ := by decide +kernel
theorem pd_10 : parseMethodDescriptor "(Ljava/lang/String;Ljava/lang/String;IIIIILjava/util/Map;Ljava/util/Set;)V" = some ⟨[(.object "java/lang/String"), (.object "java/lang/String"), .int, .int, .int, .int, .int, (.object "java/util/Map"), (.object "java/util/Set")], none⟩ := by decide +kernel
theorem pd_11 : parseMethodDescriptor "(Ljava/lang/String;Ljava/lang/String;IZ)V" = some ⟨[(.object "java/lang/String"), (.object "java/lang/String"), .int, .boolean], none⟩ := by decide +kernel
theorem pd_12 : parseMethodDescriptor "(Ljava/lang/String;Ljava/lang/String;I)V" = some ⟨[(.object "java/lang/String"), (.object "java/lang/String"), .int], none⟩ := by decide +kernel
theorem pd_13 : parseMethodDescriptor "()Lcom/example/roundkeeper/roundkeeper/Turn;" = some ⟨[], some (.object "com/example/roundkeeper/roundkeeper/Turn")⟩ := by decide +kernel
theorem pd_14 : parseMethodDescriptor "()Ljava/lang/String;" = some ⟨[], some (.object "java/lang/String")⟩ := by decide +kernel
theorem pd_15 : parseMethodDescriptor "()B" = some ⟨[], some .byte⟩ := by decide +kernel
theorem pd_16 : parseMethodDescriptor "()I" = some ⟨[], some .int⟩ := by decide +kernel
theorem pd_17 : parseMethodDescriptor "()Z" = some ⟨[], some .boolean⟩ := by decide +kernel
theorem pd_18 : parseMethodDescriptor "(IILjava/util/function/BiFunction;)I" = some ⟨[.int, .int, (.object "java/util/function/BiFunction")], some .int⟩ := by decide +kernel
theorem pd_19 : parseMethodDescriptor "(II)V" = some ⟨[.int, .int], none⟩ := by decide +kernel
theorem pd_20 : parseMethodDescriptor "([BI)C" = some ⟨[(.array .byte), .int], some .char⟩ := by decide +kernel
theorem pd_21 : parseMethodDescriptor "(I)C" = some ⟨[.int], some .char⟩ := by decide +kernel
theorem wd_0 : WD (Jvm.Cond.classLink "com/example/roundkeeper/roundkeeper/ruleset/actionpoints/FighterTurnPinLaw" (7 : Nat) kc0) := own_wd 0 rfl
theorem wd_1 : WD (Jvm.Cond.instantiable kc0 (4 : Nat)) := own_wd 1 rfl
theorem wd_2 : WD (Jvm.Cond.initialized kc0) := own_wd 2 rfl
theorem wd_3 : WD (Jvm.Cond.arrayClass Jvm.ClassFile.FieldType.char) := own_wd 3 rfl
theorem wd_4 : WD (Jvm.Cond.methodLink "com/example/roundkeeper/roundkeeper/ruleset/actionpoints/FighterTurnPinLaw" (9 : Nat) ({ cls := kc0, name := "<init>", desc := "([C)V" } : Jvm.MethodName)) := own_wd 4 rfl
theorem wd_5 : WD (Jvm.Cond.instanceMethod ({ cls := kc0, name := "<init>", desc := "([C)V" } : Jvm.MethodName)) := own_wd 5 rfl
theorem wd_6 : WD (Jvm.Cond.code ({ cls := kc0, name := "<init>", desc := "([C)V" } : Jvm.MethodName) jdk_42_method_3_code (2 : Nat) (Option.none : Option Jvm.ClassFile.FieldType)) := own_wd 6 rfl
theorem wd_11 : WD (Jvm.Cond.methodLink kc0 (1 : Nat) ({ cls := "java/lang/Object", name := "<init>", desc := "()V" } : Jvm.MethodName)) := own_wd 11 rfl
theorem wd_12 : WD (Jvm.Cond.instanceMethod ({ cls := "java/lang/Object", name := "<init>", desc := "()V" } : Jvm.MethodName)) := own_wd 12 rfl
theorem wd_13 : WD (Jvm.Cond.code ({ cls := "java/lang/Object", name := "<init>", desc := "()V" } : Jvm.MethodName) object_method_1_code (1 : Nat) (Option.none : Option Jvm.ClassFile.FieldType)) := own_wd 13 rfl
theorem wd_14 : WD (Jvm.Cond.fieldLink kc0 (38 : Nat) kc0 "COMPACT_STRINGS" "Z") := own_wd 14 rfl
theorem wd_19 : WD (Jvm.Cond.arrayClass Jvm.ClassFile.FieldType.byte) := own_wd 19 rfl
theorem wd_26 : WD (Jvm.Cond.fieldLink kc0 (15 : Nat) kc0 "coder" "B") := own_wd 26 rfl
theorem wd_27 : WD (Jvm.Cond.laysFinal kc0 kc0 "coder" "B") := own_wd 27 rfl
theorem wd_28 : WD (Jvm.Cond.fieldLink kc0 (9 : Nat) kc0 "value" "[B") := own_wd 28 rfl
theorem wd_29 : WD (Jvm.Cond.laysFinal kc0 kc0 "value" "[B") := own_wd 29 rfl
theorem wd_30 : WD (Jvm.Cond.methodLink "com/example/roundkeeper/roundkeeper/ruleset/actionpoints/FighterTurnPinLaw" (12 : Nat) ({ cls := kc0, name := "valueOf", desc := "(C)Ljava/lang/String;" } : Jvm.MethodName)) := own_wd 30 rfl
theorem wd_31 : WD (Jvm.Cond.static ({ cls := kc0, name := "valueOf", desc := "(C)Ljava/lang/String;" } : Jvm.MethodName)) := own_wd 31 rfl
theorem wd_32 : WD (Jvm.Cond.code ({ cls := kc0, name := "valueOf", desc := "(C)Ljava/lang/String;" } : Jvm.MethodName) jdk_42_method_139_code (1 : Nat) (Option.some (Jvm.ClassFile.FieldType.object kc0))) := own_wd 32 rfl
theorem wd_33 : WD (Jvm.Cond.methodLink kc0 (1015 : Nat) ({ cls := "java/lang/StringLatin1", name := "canEncode", desc := "(C)Z" } : Jvm.MethodName)) := own_wd 33 rfl
theorem wd_34 : WD (Jvm.Cond.static ({ cls := "java/lang/StringLatin1", name := "canEncode", desc := "(C)Z" } : Jvm.MethodName)) := own_wd 34 rfl
theorem wd_35 : WD (Jvm.Cond.initialized "java/lang/StringLatin1") := own_wd 35 rfl
theorem wd_36 : WD (Jvm.Cond.code ({ cls := "java/lang/StringLatin1", name := "canEncode", desc := "(C)Z" } : Jvm.MethodName) jdk_43_method_3_code (1 : Nat) (Option.some Jvm.ClassFile.FieldType.boolean)) := own_wd 36 rfl
theorem wd_37 : WD (Jvm.Cond.classLink kc0 (10 : Nat) kc0) := own_wd 37 rfl
theorem wd_38 : WD (Jvm.Cond.methodLink kc0 (1018 : Nat) ({ cls := "java/lang/StringLatin1", name := "toBytes", desc := "(C)[B" } : Jvm.MethodName)) := own_wd 38 rfl
theorem wd_39 : WD (Jvm.Cond.static ({ cls := "java/lang/StringLatin1", name := "toBytes", desc := "(C)[B" } : Jvm.MethodName)) := own_wd 39 rfl
theorem wd_40 : WD (Jvm.Cond.code ({ cls := "java/lang/StringLatin1", name := "toBytes", desc := "(C)[B" } : Jvm.MethodName) jdk_43_method_46_code (1 : Nat) (Option.some (Jvm.ClassFile.FieldType.array Jvm.ClassFile.FieldType.byte))) := own_wd 40 rfl
theorem wd_41 : WD (Jvm.Cond.methodLink kc0 (209 : Nat) ({ cls := kc0, name := "<init>", desc := "([BB)V" } : Jvm.MethodName)) := own_wd 41 rfl
theorem wd_42 : WD (Jvm.Cond.instanceMethod ({ cls := kc0, name := "<init>", desc := "([BB)V" } : Jvm.MethodName)) := own_wd 42 rfl
theorem wd_43 : WD (Jvm.Cond.code ({ cls := kc0, name := "<init>", desc := "([BB)V" } : Jvm.MethodName) jdk_42_method_151_code (3 : Nat) (Option.none : Option Jvm.ClassFile.FieldType)) := own_wd 43 rfl
theorem wd_44 : WD (Jvm.Cond.classLink "com/example/roundkeeper/roundkeeper/ruleset/actionpoints/FighterTurnPinLaw" (16 : Nat) kc1) := own_wd 44 rfl
theorem wd_45 : WD (Jvm.Cond.instantiable kc1 (9 : Nat)) := own_wd 45 rfl
theorem wd_46 : WD (Jvm.Cond.initialized kc1) := own_wd 46 rfl
theorem wd_47 : WD (Jvm.Cond.methodLink "com/example/roundkeeper/roundkeeper/ruleset/actionpoints/FighterTurnPinLaw" (18 : Nat) ({ cls := "java/util/Map", name := "of", desc := "()Ljava/util/Map;" } : Jvm.MethodName)) := own_wd 47 rfl
theorem wd_48 : WD (Jvm.Cond.static ({ cls := "java/util/Map", name := "of", desc := "()Ljava/util/Map;" } : Jvm.MethodName)) := own_wd 48 rfl
theorem wd_49 : WD (Jvm.Cond.initialized "java/util/Map") := own_wd 49 rfl
theorem wd_50 : WD (Jvm.Cond.code ({ cls := "java/util/Map", name := "of", desc := "()Ljava/util/Map;" } : Jvm.MethodName) jdk_72_method_26_code (0 : Nat) (Option.some (Jvm.ClassFile.FieldType.object "java/util/Map"))) := own_wd 50 rfl
theorem wd_51 : WD (Jvm.Cond.fieldLink "java/util/Map" (81 : Nat) "java/util/ImmutableCollections" "EMPTY_MAP" "Ljava/util/ImmutableCollections$MapN;") := own_wd 51 rfl
theorem wd_53 : WD (Jvm.Cond.methodLink "com/example/roundkeeper/roundkeeper/ruleset/actionpoints/FighterTurnPinLaw" (24 : Nat) ({ cls := "java/util/Set", name := "of", desc := "()Ljava/util/Set;" } : Jvm.MethodName)) := own_wd 53 rfl
theorem wd_54 : WD (Jvm.Cond.static ({ cls := "java/util/Set", name := "of", desc := "()Ljava/util/Set;" } : Jvm.MethodName)) := own_wd 54 rfl
theorem wd_55 : WD (Jvm.Cond.initialized "java/util/Set") := own_wd 55 rfl
theorem wd_56 : WD (Jvm.Cond.code ({ cls := "java/util/Set", name := "of", desc := "()Ljava/util/Set;" } : Jvm.MethodName) jdk_96_method_17_code (0 : Nat) (Option.some (Jvm.ClassFile.FieldType.object "java/util/Set"))) := own_wd 56 rfl
theorem wd_57 : WD (Jvm.Cond.fieldLink "java/util/Set" (9 : Nat) "java/util/ImmutableCollections" "EMPTY_SET" "Ljava/util/ImmutableCollections$SetN;") := own_wd 57 rfl
theorem wd_58 : WD (Jvm.Cond.methodLink "com/example/roundkeeper/roundkeeper/ruleset/actionpoints/FighterTurnPinLaw" (29 : Nat) ({ cls := kc1, name := "<init>", desc := "(Ljava/lang/String;Ljava/lang/String;IIIIILjava/util/Map;Ljava/util/Set;)V" } : Jvm.MethodName)) := own_wd 58 rfl
theorem wd_59 : WD (Jvm.Cond.instanceMethod ({ cls := kc1, name := "<init>", desc := "(Ljava/lang/String;Ljava/lang/String;IIIIILjava/util/Map;Ljava/util/Set;)V" } : Jvm.MethodName)) := own_wd 59 rfl
theorem wd_60 : WD (Jvm.Cond.code ({ cls := kc1, name := "<init>", desc := "(Ljava/lang/String;Ljava/lang/String;IIIIILjava/util/Map;Ljava/util/Set;)V" } : Jvm.MethodName) prog_6_method_1_code (10 : Nat) (Option.none : Option Jvm.ClassFile.FieldType)) := own_wd 60 rfl
theorem wd_61 : WD (Jvm.Cond.methodLink kc1 (1 : Nat) ({ cls := "java/lang/Record", name := "<init>", desc := "()V" } : Jvm.MethodName)) := own_wd 61 rfl
theorem wd_62 : WD (Jvm.Cond.instanceMethod ({ cls := "java/lang/Record", name := "<init>", desc := "()V" } : Jvm.MethodName)) := own_wd 62 rfl
theorem wd_64 : WD (Jvm.Cond.initialized "java/lang/Record") := own_wd 64 rfl
theorem wd_65 : WD (Jvm.Cond.code ({ cls := "java/lang/Record", name := "<init>", desc := "()V" } : Jvm.MethodName) jdk_30_method_1_code (1 : Nat) (Option.none : Option Jvm.ClassFile.FieldType)) := own_wd 65 rfl
theorem wd_66 : WD (Jvm.Cond.methodLink "java/lang/Record" (1 : Nat) ({ cls := "java/lang/Object", name := "<init>", desc := "()V" } : Jvm.MethodName)) := own_wd 66 rfl
theorem wd_67 : WD (Jvm.Cond.methodLink kc1 (7 : Nat) ({ cls := "java/util/Map", name := "copyOf", desc := "(Ljava/util/Map;)Ljava/util/Map;" } : Jvm.MethodName)) := own_wd 67 rfl
theorem wd_68 : WD (Jvm.Cond.static ({ cls := "java/util/Map", name := "copyOf", desc := "(Ljava/util/Map;)Ljava/util/Map;" } : Jvm.MethodName)) := own_wd 68 rfl
theorem wd_69 : WD (Jvm.Cond.code ({ cls := "java/util/Map", name := "copyOf", desc := "(Ljava/util/Map;)Ljava/util/Map;" } : Jvm.MethodName) jdk_72_method_39_code (1 : Nat) (Option.some (Jvm.ClassFile.FieldType.object "java/util/Map"))) := own_wd 69 rfl
theorem wd_70 : WD (Jvm.Cond.classLink "java/util/Map" (101 : Nat) "java/util/ImmutableCollections$AbstractImmutableMap") := own_wd 70 rfl
theorem wd_71 : WD (Jvm.Cond.castable "java/util/ImmutableCollections$MapN" "java/util/ImmutableCollections$AbstractImmutableMap") := own_wd 71 rfl
theorem wd_72 : WD (Jvm.Cond.methodLink kc1 (13 : Nat) ({ cls := "java/util/Set", name := "copyOf", desc := "(Ljava/util/Collection;)Ljava/util/Set;" } : Jvm.MethodName)) := own_wd 72 rfl
theorem wd_73 : WD (Jvm.Cond.static ({ cls := "java/util/Set", name := "copyOf", desc := "(Ljava/util/Collection;)Ljava/util/Set;" } : Jvm.MethodName)) := own_wd 73 rfl
theorem wd_74 : WD (Jvm.Cond.code ({ cls := "java/util/Set", name := "copyOf", desc := "(Ljava/util/Collection;)Ljava/util/Set;" } : Jvm.MethodName) jdk_96_method_29_code (1 : Nat) (Option.some (Jvm.ClassFile.FieldType.object "java/util/Set"))) := own_wd 74 rfl
theorem wd_75 : WD (Jvm.Cond.classLink "java/util/Set" (31 : Nat) "java/util/ImmutableCollections$AbstractImmutableSet") := own_wd 75 rfl
theorem wd_76 : WD (Jvm.Cond.castable "java/util/ImmutableCollections$SetN" "java/util/ImmutableCollections$AbstractImmutableSet") := own_wd 76 rfl
theorem wd_77 : WD (Jvm.Cond.classLink "java/util/Set" (33 : Nat) "java/util/Set") := own_wd 77 rfl
theorem wd_78 : WD (Jvm.Cond.castable "java/util/ImmutableCollections$SetN" "java/util/Set") := own_wd 78 rfl
theorem wd_79 : WD (Jvm.Cond.fieldLink kc1 (18 : Nat) kc1 "name" "Ljava/lang/String;") := own_wd 79 rfl
theorem wd_80 : WD (Jvm.Cond.laysFinal kc1 kc1 "name" "Ljava/lang/String;") := own_wd 80 rfl
theorem wd_81 : WD (Jvm.Cond.fieldLink kc1 (24 : Nat) kc1 "side" "Ljava/lang/String;") := own_wd 81 rfl
theorem wd_82 : WD (Jvm.Cond.laysFinal kc1 kc1 "side" "Ljava/lang/String;") := own_wd 82 rfl
theorem wd_83 : WD (Jvm.Cond.fieldLink kc1 (27 : Nat) kc1 "initiative" "I") := own_wd 83 rfl
theorem wd_84 : WD (Jvm.Cond.laysFinal kc1 kc1 "initiative" "I") := own_wd 84 rfl
theorem wd_85 : WD (Jvm.Cond.fieldLink kc1 (31 : Nat) kc1 "agility" "I") := own_wd 85 rfl
theorem wd_86 : WD (Jvm.Cond.laysFinal kc1 kc1 "agility" "I") := own_wd 86 rfl
theorem wd_87 : WD (Jvm.Cond.fieldLink kc1 (34 : Nat) kc1 "vitality" "I") := own_wd 87 rfl
theorem wd_88 : WD (Jvm.Cond.laysFinal kc1 kc1 "vitality" "I") := own_wd 88 rfl
theorem wd_89 : WD (Jvm.Cond.fieldLink kc1 (37 : Nat) kc1 "fortitude" "I") := own_wd 89 rfl
theorem wd_90 : WD (Jvm.Cond.laysFinal kc1 kc1 "fortitude" "I") := own_wd 90 rfl
theorem wd_91 : WD (Jvm.Cond.fieldLink kc1 (40 : Nat) kc1 "extraPoints" "I") := own_wd 91 rfl
theorem wd_92 : WD (Jvm.Cond.laysFinal kc1 kc1 "extraPoints" "I") := own_wd 92 rfl
theorem wd_93 : WD (Jvm.Cond.fieldLink kc1 (43 : Nat) kc1 "resistances" "Ljava/util/Map;") := own_wd 93 rfl
theorem wd_94 : WD (Jvm.Cond.laysFinal kc1 kc1 "resistances" "Ljava/util/Map;") := own_wd 94 rfl
theorem wd_95 : WD (Jvm.Cond.fieldLink kc1 (47 : Nat) kc1 "vulnerabilities" "Ljava/util/Set;") := own_wd 95 rfl
theorem wd_96 : WD (Jvm.Cond.laysFinal kc1 kc1 "vulnerabilities" "Ljava/util/Set;") := own_wd 96 rfl
theorem wd_97 : WD (Jvm.Cond.methodLink "com/example/roundkeeper/roundkeeper/ruleset/actionpoints/FighterTurnPinLaw" (32 : Nat) ({ cls := kc1, name := "turn", desc := "()Lcom/example/roundkeeper/roundkeeper/Turn;" } : Jvm.MethodName)) := own_wd 97 rfl
theorem wd_98 : WD (Jvm.Cond.declares ({ cls := kc1, name := "turn", desc := "()Lcom/example/roundkeeper/roundkeeper/Turn;" } : Jvm.MethodName)) := own_wd 98 rfl
theorem wd_99 : WD (Jvm.Cond.instanceMethod ({ cls := kc1, name := "turn", desc := "()Lcom/example/roundkeeper/roundkeeper/Turn;" } : Jvm.MethodName)) := own_wd 99 rfl
theorem wd_100 : WD (Jvm.Cond.selects kc1 ({ cls := kc1, name := "turn", desc := "()Lcom/example/roundkeeper/roundkeeper/Turn;" } : Jvm.MethodName) ({ cls := kc1, name := "turn", desc := "()Lcom/example/roundkeeper/roundkeeper/Turn;" } : Jvm.MethodName)) := own_wd 100 rfl
theorem wd_101 : WD (Jvm.Cond.code ({ cls := kc1, name := "turn", desc := "()Lcom/example/roundkeeper/roundkeeper/Turn;" } : Jvm.MethodName) prog_6_method_2_code (1 : Nat) (Option.some (Jvm.ClassFile.FieldType.object kc2))) := own_wd 101 rfl
theorem wd_102 : WD (Jvm.Cond.classLink kc1 (51 : Nat) kc2) := own_wd 102 rfl
theorem wd_103 : WD (Jvm.Cond.instantiable kc2 (4 : Nat)) := own_wd 103 rfl
theorem wd_104 : WD (Jvm.Cond.initialized kc2) := own_wd 104 rfl
theorem wd_105 : WD (Jvm.Cond.methodLink kc1 (53 : Nat) ({ cls := kc2, name := "<init>", desc := "(Ljava/lang/String;Ljava/lang/String;I)V" } : Jvm.MethodName)) := own_wd 105 rfl
theorem wd_106 : WD (Jvm.Cond.instanceMethod ({ cls := kc2, name := "<init>", desc := "(Ljava/lang/String;Ljava/lang/String;I)V" } : Jvm.MethodName)) := own_wd 106 rfl
theorem wd_107 : WD (Jvm.Cond.code ({ cls := kc2, name := "<init>", desc := "(Ljava/lang/String;Ljava/lang/String;I)V" } : Jvm.MethodName) prog_3_method_1_code (4 : Nat) (Option.none : Option Jvm.ClassFile.FieldType)) := own_wd 107 rfl
theorem wd_108 : WD (Jvm.Cond.methodLink kc2 (24 : Nat) ({ cls := kc2, name := "<init>", desc := "(Ljava/lang/String;Ljava/lang/String;IZ)V" } : Jvm.MethodName)) := own_wd 108 rfl
theorem wd_109 : WD (Jvm.Cond.instanceMethod ({ cls := kc2, name := "<init>", desc := "(Ljava/lang/String;Ljava/lang/String;IZ)V" } : Jvm.MethodName)) := own_wd 109 rfl
theorem wd_110 : WD (Jvm.Cond.code ({ cls := kc2, name := "<init>", desc := "(Ljava/lang/String;Ljava/lang/String;IZ)V" } : Jvm.MethodName) prog_3_method_2_code (5 : Nat) (Option.none : Option Jvm.ClassFile.FieldType)) := own_wd 110 rfl
theorem wd_111 : WD (Jvm.Cond.methodLink kc2 (1 : Nat) ({ cls := "java/lang/Record", name := "<init>", desc := "()V" } : Jvm.MethodName)) := own_wd 111 rfl
theorem wd_112 : WD (Jvm.Cond.fieldLink kc2 (7 : Nat) kc2 "name" "Ljava/lang/String;") := own_wd 112 rfl
theorem wd_113 : WD (Jvm.Cond.laysFinal kc2 kc2 "name" "Ljava/lang/String;") := own_wd 113 rfl
theorem wd_114 : WD (Jvm.Cond.fieldLink kc2 (13 : Nat) kc2 "side" "Ljava/lang/String;") := own_wd 114 rfl
theorem wd_115 : WD (Jvm.Cond.laysFinal kc2 kc2 "side" "Ljava/lang/String;") := own_wd 115 rfl
theorem wd_116 : WD (Jvm.Cond.fieldLink kc2 (16 : Nat) kc2 "initiative" "I") := own_wd 116 rfl
theorem wd_117 : WD (Jvm.Cond.laysFinal kc2 kc2 "initiative" "I") := own_wd 117 rfl
theorem wd_118 : WD (Jvm.Cond.fieldLink kc2 (20 : Nat) kc2 "simultaneous" "Z") := own_wd 118 rfl
theorem wd_119 : WD (Jvm.Cond.laysFinal kc2 kc2 "simultaneous" "Z") := own_wd 119 rfl
theorem wd_120 : WD (Jvm.Cond.methodLink "com/example/roundkeeper/roundkeeper/ruleset/actionpoints/FighterTurnPinLaw" (36 : Nat) ({ cls := kc2, name := "name", desc := "()Ljava/lang/String;" } : Jvm.MethodName)) := own_wd 120 rfl
theorem wd_121 : WD (Jvm.Cond.declares ({ cls := kc2, name := "name", desc := "()Ljava/lang/String;" } : Jvm.MethodName)) := own_wd 121 rfl
theorem wd_122 : WD (Jvm.Cond.instanceMethod ({ cls := kc2, name := "name", desc := "()Ljava/lang/String;" } : Jvm.MethodName)) := own_wd 122 rfl
theorem wd_123 : WD (Jvm.Cond.selects kc2 ({ cls := kc2, name := "name", desc := "()Ljava/lang/String;" } : Jvm.MethodName) ({ cls := kc2, name := "name", desc := "()Ljava/lang/String;" } : Jvm.MethodName)) := own_wd 123 rfl
theorem wd_124 : WD (Jvm.Cond.code ({ cls := kc2, name := "name", desc := "()Ljava/lang/String;" } : Jvm.MethodName) prog_3_method_6_code (1 : Nat) (Option.some (Jvm.ClassFile.FieldType.object kc0))) := own_wd 124 rfl
theorem wd_125 : WD (Jvm.Cond.methodLink "com/example/roundkeeper/roundkeeper/ruleset/actionpoints/FighterTurnPinLaw" (42 : Nat) ({ cls := kc2, name := "side", desc := "()Ljava/lang/String;" } : Jvm.MethodName)) := own_wd 125 rfl
theorem wd_126 : WD (Jvm.Cond.declares ({ cls := kc2, name := "side", desc := "()Ljava/lang/String;" } : Jvm.MethodName)) := own_wd 126 rfl
theorem wd_127 : WD (Jvm.Cond.instanceMethod ({ cls := kc2, name := "side", desc := "()Ljava/lang/String;" } : Jvm.MethodName)) := own_wd 127 rfl
theorem wd_128 : WD (Jvm.Cond.selects kc2 ({ cls := kc2, name := "side", desc := "()Ljava/lang/String;" } : Jvm.MethodName) ({ cls := kc2, name := "side", desc := "()Ljava/lang/String;" } : Jvm.MethodName)) := own_wd 128 rfl
theorem wd_129 : WD (Jvm.Cond.code ({ cls := kc2, name := "side", desc := "()Ljava/lang/String;" } : Jvm.MethodName) prog_3_method_7_code (1 : Nat) (Option.some (Jvm.ClassFile.FieldType.object kc0))) := own_wd 129 rfl
theorem wd_130 : WD (Jvm.Cond.methodLink "com/example/roundkeeper/roundkeeper/ruleset/actionpoints/FighterTurnPinLaw" (45 : Nat) ({ cls := kc0, name := "length", desc := "()I" } : Jvm.MethodName)) := own_wd 130 rfl
theorem wd_131 : WD (Jvm.Cond.declares ({ cls := kc0, name := "length", desc := "()I" } : Jvm.MethodName)) := own_wd 131 rfl
theorem wd_132 : WD (Jvm.Cond.instanceMethod ({ cls := kc0, name := "length", desc := "()I" } : Jvm.MethodName)) := own_wd 132 rfl
theorem wd_133 : WD (Jvm.Cond.selects kc0 ({ cls := kc0, name := "length", desc := "()I" } : Jvm.MethodName) ({ cls := kc0, name := "length", desc := "()I" } : Jvm.MethodName)) := own_wd 133 rfl
theorem wd_134 : WD (Jvm.Cond.code ({ cls := kc0, name := "length", desc := "()I" } : Jvm.MethodName) jdk_42_method_54_code (1 : Nat) (Option.some Jvm.ClassFile.FieldType.int)) := own_wd 134 rfl
theorem wd_135 : WD (Jvm.Cond.methodLink kc0 (335 : Nat) ({ cls := kc0, name := "coder", desc := "()B" } : Jvm.MethodName)) := own_wd 135 rfl
theorem wd_136 : WD (Jvm.Cond.declares ({ cls := kc0, name := "coder", desc := "()B" } : Jvm.MethodName)) := own_wd 136 rfl
theorem wd_137 : WD (Jvm.Cond.instanceMethod ({ cls := kc0, name := "coder", desc := "()B" } : Jvm.MethodName)) := own_wd 137 rfl
theorem wd_138 : WD (Jvm.Cond.selects kc0 ({ cls := kc0, name := "coder", desc := "()B" } : Jvm.MethodName) ({ cls := kc0, name := "coder", desc := "()B" } : Jvm.MethodName)) := own_wd 138 rfl
theorem wd_139 : WD (Jvm.Cond.code ({ cls := kc0, name := "coder", desc := "()B" } : Jvm.MethodName) jdk_42_method_152_code (1 : Nat) (Option.some Jvm.ClassFile.FieldType.byte)) := own_wd 139 rfl
theorem wd_140 : WD (Jvm.Cond.methodLink "com/example/roundkeeper/roundkeeper/ruleset/actionpoints/FighterTurnPinLaw" (49 : Nat) ({ cls := kc0, name := "charAt", desc := "(I)C" } : Jvm.MethodName)) := own_wd 140 rfl
theorem wd_141 : WD (Jvm.Cond.declares ({ cls := kc0, name := "charAt", desc := "(I)C" } : Jvm.MethodName)) := own_wd 141 rfl
theorem wd_142 : WD (Jvm.Cond.instanceMethod ({ cls := kc0, name := "charAt", desc := "(I)C" } : Jvm.MethodName)) := own_wd 142 rfl
theorem wd_143 : WD (Jvm.Cond.selects kc0 ({ cls := kc0, name := "charAt", desc := "(I)C" } : Jvm.MethodName) ({ cls := kc0, name := "charAt", desc := "(I)C" } : Jvm.MethodName)) := own_wd 143 rfl
theorem wd_144 : WD (Jvm.Cond.code ({ cls := kc0, name := "charAt", desc := "(I)C" } : Jvm.MethodName) jdk_42_method_56_code (2 : Nat) (Option.some Jvm.ClassFile.FieldType.char)) := own_wd 144 rfl
theorem wd_145 : WD (Jvm.Cond.methodLink kc0 (492 : Nat) ({ cls := kc0, name := "isLatin1", desc := "()Z" } : Jvm.MethodName)) := own_wd 145 rfl
theorem wd_146 : WD (Jvm.Cond.declares ({ cls := kc0, name := "isLatin1", desc := "()Z" } : Jvm.MethodName)) := own_wd 146 rfl
theorem wd_147 : WD (Jvm.Cond.instanceMethod ({ cls := kc0, name := "isLatin1", desc := "()Z" } : Jvm.MethodName)) := own_wd 147 rfl
theorem wd_148 : WD (Jvm.Cond.selects kc0 ({ cls := kc0, name := "isLatin1", desc := "()Z" } : Jvm.MethodName) ({ cls := kc0, name := "isLatin1", desc := "()Z" } : Jvm.MethodName)) := own_wd 148 rfl
theorem wd_149 : WD (Jvm.Cond.code ({ cls := kc0, name := "isLatin1", desc := "()Z" } : Jvm.MethodName) jdk_42_method_154_code (1 : Nat) (Option.some Jvm.ClassFile.FieldType.boolean)) := own_wd 149 rfl
theorem wd_150 : WD (Jvm.Cond.methodLink kc0 (495 : Nat) ({ cls := "java/lang/StringLatin1", name := "charAt", desc := "([BI)C" } : Jvm.MethodName)) := own_wd 150 rfl
theorem wd_151 : WD (Jvm.Cond.static ({ cls := "java/lang/StringLatin1", name := "charAt", desc := "([BI)C" } : Jvm.MethodName)) := own_wd 151 rfl
theorem wd_152 : WD (Jvm.Cond.code ({ cls := "java/lang/StringLatin1", name := "charAt", desc := "([BI)C" } : Jvm.MethodName) jdk_43_method_2_code (2 : Nat) (Option.some Jvm.ClassFile.FieldType.char)) := own_wd 152 rfl
theorem wd_153 : WD (Jvm.Cond.methodLink "java/lang/StringLatin1" (9 : Nat) ({ cls := kc0, name := "checkIndex", desc := "(II)V" } : Jvm.MethodName)) := own_wd 153 rfl
theorem wd_154 : WD (Jvm.Cond.static ({ cls := kc0, name := "checkIndex", desc := "(II)V" } : Jvm.MethodName)) := own_wd 154 rfl
theorem wd_155 : WD (Jvm.Cond.code ({ cls := kc0, name := "checkIndex", desc := "(II)V" } : Jvm.MethodName) jdk_42_method_155_code (2 : Nat) (Option.none : Option Jvm.ClassFile.FieldType)) := own_wd 155 rfl
theorem wd_156 : WD (Jvm.Cond.fieldLink kc0 (1053 : Nat) "jdk/internal/util/Preconditions" "SIOOBE_FORMATTER" "Ljava/util/function/BiFunction;") := own_wd 156 rfl
theorem wd_157 : WD (Jvm.Cond.initialized "jdk/internal/util/Preconditions") := own_wd 157 rfl
theorem wd_158 : WD (Jvm.Cond.methodLink kc0 (1059 : Nat) ({ cls := "jdk/internal/util/Preconditions", name := "checkIndex", desc := "(IILjava/util/function/BiFunction;)I" } : Jvm.MethodName)) := own_wd 158 rfl
theorem wd_159 : WD (Jvm.Cond.static ({ cls := "jdk/internal/util/Preconditions", name := "checkIndex", desc := "(IILjava/util/function/BiFunction;)I" } : Jvm.MethodName)) := own_wd 159 rfl
theorem wd_160 : WD (Jvm.Cond.code ({ cls := "jdk/internal/util/Preconditions", name := "checkIndex", desc := "(IILjava/util/function/BiFunction;)I" } : Jvm.MethodName) jdk_41_method_11_code (3 : Nat) (Option.some Jvm.ClassFile.FieldType.int)) := own_wd 160 rfl
theorem wd_161 : WD (Jvm.Cond.methodLink "com/example/roundkeeper/roundkeeper/ruleset/actionpoints/FighterTurnPinLaw" (53 : Nat) ({ cls := kc2, name := "initiative", desc := "()I" } : Jvm.MethodName)) := own_wd 161 rfl
theorem wd_162 : WD (Jvm.Cond.declares ({ cls := kc2, name := "initiative", desc := "()I" } : Jvm.MethodName)) := own_wd 162 rfl
theorem wd_163 : WD (Jvm.Cond.instanceMethod ({ cls := kc2, name := "initiative", desc := "()I" } : Jvm.MethodName)) := own_wd 163 rfl
theorem wd_164 : WD (Jvm.Cond.selects kc2 ({ cls := kc2, name := "initiative", desc := "()I" } : Jvm.MethodName) ({ cls := kc2, name := "initiative", desc := "()I" } : Jvm.MethodName)) := own_wd 164 rfl
theorem wd_165 : WD (Jvm.Cond.code ({ cls := kc2, name := "initiative", desc := "()I" } : Jvm.MethodName) prog_3_method_8_code (1 : Nat) (Option.some Jvm.ClassFile.FieldType.int)) := own_wd 165 rfl
theorem wd_166 : WD (Jvm.Cond.methodLink "com/example/roundkeeper/roundkeeper/ruleset/actionpoints/FighterTurnPinLaw" (56 : Nat) ({ cls := kc2, name := "simultaneous", desc := "()Z" } : Jvm.MethodName)) := own_wd 166 rfl
theorem wd_167 : WD (Jvm.Cond.declares ({ cls := kc2, name := "simultaneous", desc := "()Z" } : Jvm.MethodName)) := own_wd 167 rfl
theorem wd_168 : WD (Jvm.Cond.instanceMethod ({ cls := kc2, name := "simultaneous", desc := "()Z" } : Jvm.MethodName)) := own_wd 168 rfl
theorem wd_169 : WD (Jvm.Cond.selects kc2 ({ cls := kc2, name := "simultaneous", desc := "()Z" } : Jvm.MethodName) ({ cls := kc2, name := "simultaneous", desc := "()Z" } : Jvm.MethodName)) := own_wd 169 rfl
theorem wd_170 : WD (Jvm.Cond.code ({ cls := kc2, name := "simultaneous", desc := "()Z" } : Jvm.MethodName) prog_3_method_9_code (1 : Nat) (Option.some Jvm.ClassFile.FieldType.boolean)) := own_wd 170 rfl
theorem ef_m8_2 (m : MethodId) (p0 : Int32)  : entryFrame m #[(.int p0)] 1 = mkF m 0 #[.val (.int p0)] [] := by first | (simp [entryFrame, mkF, argsToLocals, Value.category]; done) | rfl
def Q_m8_2 (Z : State) (p0 : Int32) (h0 : Heap) (n0 : Nat) (v : Option Value) (h : Heap) (L : List Loc) : Prop := v = some (.int (1 : Int32)) ∧ Fr n0 L ∧ h = h0
theorem rm_m8_2 (l : Launch) (Z : State) (aZ : Array Value) (hw : ∀ d ∈ tables_1, d.before aZ Z = true) (ws : List Jvm.Cond) (p0 : Int32) (h0 : Heap) (n0 : Nat) (Z0 : n0 ≤ h0.size) (hP_0 : ¬ ((255 : Int32) < p0)) :
    MetN l Z yn_8 jdk_43_method_3_code 1 (some .boolean) ws ({ frames := 0, cells := 0, slots := 0, locals := 0 } : Room) #[(.int p0)] h0 (Q_m8_2 Z p0 h0 n0) := by
 refine MetN.of (plainFor_of_name pn_0) ?_
 intro p e s m below meth c s₁ hret hx hby hml hown hnm hlk hZ X0 e0
 have N0 := Fr.nil n0
 rw [ef_m8_2 m p0]
 refine w_iloadN X0 hx (d8_0 hby) rfl (pc' := 1) rfl ?_
 refine w_sipush X0 hx (d8_1 hby) (v := (255 : Int32)) rfl (pc' := 4) rfl ?_
 refine w_icN X0 hx (d8_4 hby) (flt hP_0).2.2.1 (pc' := 7) rfl ?_
 refine w_iconst X0 hx (d8_7 hby) (v := (1 : Int32)) rfl (pc' := 8) rfl ?_
 refine w_goto X0 hx (d8_8 hby) (pc' := 12) (by decide) (by decide) ?_
 exact w_done X0 hlk (v := some (.int (1 : Int32))) e0 (fun h => by rw [hret] at h; cases h) (fun fs hr => retN X0 hx (t := .boolean) hret (by simp) (d8_12 hby) hr) (by decide) (by decide) (⟨rfl, N0, rfl⟩)
theorem ef_m9_3 (m : MethodId) (p0 : Int32)  : entryFrame m #[(.int p0)] 1 = mkF m 0 #[.val (.int p0)] [] := by first | (simp [entryFrame, mkF, argsToLocals, Value.category]; done) | rfl
def Q_m9_3 (Z : State) (p0 : Int32) (h0 : Heap) (n0 : Nat) (v : Option Value) (h : Heap) (L : List Loc) : Prop := ∃ (r0 : Addr) (c0 : ClassId), v = some (.ref r0) ∧ Fr n0 L ∧ Keep h0 h [] ∧ h0.size ≤ r0 ∧ Arv Z h r0 c0 .byte (1 : Int32) [(.int (p0.toInt8.toInt32))] (.int (0 : Int32))
theorem rm_m9_3 (l : Launch) (Z : State) (aZ : Array Value) (hw : ∀ d ∈ tables_1, d.before aZ Z = true) (ws : List Jvm.Cond) (p0 : Int32) (h0 : Heap) (n0 : Nat) (Z0 : n0 ≤ h0.size) :
    MetN l Z yn_9 jdk_43_method_46_code 1 (some (.array .byte)) ws ({ frames := 0, cells := 1, slots := 1, locals := 0 } : Room) #[(.int p0)] h0 (Q_m9_3 Z p0 h0 n0) := by
 refine MetN.of (plainFor_of_name pn_0) ?_
 intro p e s m below meth c s₁ hret hx hby hml hown hnm hlk hZ X0 e0
 have N0 := Fr.nil n0
 rw [ef_m9_3 m p0]
 refine w_iconst X0 hx (d9_0 hby) (v := (1 : Int32)) rfl (pc' := 1) rfl ?_
 refine w_newP X0 hx .byte .byte 1 rfl hZ (wd_19 hw) e0 (d9_1 hby) (by decide) (by decide) (by decide) (by decide) (by decide) (pc' := 3) rfl ?_
 intro T20 h20 k20 b20 X20 e20 E20 g20 A20
 have ge21 : n0 ≤ b20 := Nat.le_trans Z0 (Nat.le_of_eq g20.symm)
 have sz22 : h0.size ≤ b20 := Nat.le_trans (Nat.le_refl _) (Nat.le_of_eq g20.symm)
 have K23 : Keep h0 h20 [] := (Keep.refl h0 []).ext E20
 have V24 : Arv Z h20 b20 k20 .byte (1 : Int32) [(.int (0 : Int32))] (.int (0 : Int32)) := (Arv.new A20 (by decide)).pad (pad_rep [] (.int (0 : Int32)) 1)
 refine w_dup X20 hx (d9_3 hby) rfl (pc' := 4) rfl ?_
 refine w_iconst X20 hx (d9_4 hby) (v := (0 : Int32)) rfl (pc' := 5) rfl ?_
 refine w_iloadN X20 hx (d9_5 hby) rfl (pc' := 6) rfl ?_
 refine w_i2b X20 hx (d9_6 hby) (pc' := 7) rfl ?_
 obtain ⟨clu25, Aru25, qu25, Su25, Nu25, Hu25, Gu25⟩ := id V24
 have hinu25 := inb_of (j := (0 : Int32)) Su25 ⟨by decide, by decide⟩
 refine w_stB X20 hx hZ e20 Aru25 hinu25 (d9_7 hby) (pc' := 8) rfl ?_
 intro T26 h26 X26 e26 W26
 have V27 : Arv Z h26 b20 k20 .byte (1 : Int32) [(.int (nar .byte (p0.toInt8.toInt32)))] (.int (0 : Int32)) := Arv.set Aru25 qu25 Su25 Nu25 Hu25 Gu25 (fits_nar_byte _) W26 0 rfl (Nat.le_of_ble_eq_true rfl)
 have V28 : Arv Z h26 b20 k20 .byte (1 : Int32) [(.int (p0.toInt8.toInt32))] (.int (0 : Int32)) := by rw [nar_b] at V27; exact V27
 have K29 : Keep h0 h26 [] := K23.wr W26 (Or.inr sz22)
 have N30 := Fr.snoc X26 N0 ge21
 exact w_done X26 hlk (v := some (.ref b20)) e26 (fun h => by rw [hret] at h; cases h) (fun fs hr => retOut X26 hx hret rfl (Or.inr (Or.inr (Or.inr (Or.inr ⟨rfl, rfl, rfl⟩)))) (d9_8 hby) hr) (by decide) (by decide) (⟨b20, k20, rfl, N30, K29, sz22, V28⟩)
theorem ef_m10_4 (m : MethodId) (a0 : Addr) (a1 : Addr)  : entryFrame m #[(.ref a0), (.ref a1), (.int (0 : Int32))] 3 = mkF m 0 #[.val (.ref a0), .val (.ref a1), .val (.int (0 : Int32))] [] := by first | (simp [entryFrame, mkF, argsToLocals, Value.category]; done) | rfl
def Q_m10_4 (Z : State) (a0 : Addr) (a1 : Addr) (h0 : Heap) (n0 : Nat) (v : Option Value) (h : Heap) (L : List Loc) : Prop := v = none ∧ Fr n0 L ∧ Keep h0 h [a0] ∧ Exa Z h a0 kc0 ∧ Fld Z h a0 kc0 "value" "[B" (.ref a1) ∧ Fld Z h a0 kc0 "coder" "B" (.int (0 : Int32))
theorem rm_m10_4 (l : Launch) (Z : State) (aZ : Array Value) (hw : ∀ d ∈ tables_1, d.before aZ Z = true) (ws : List Jvm.Cond) (a0 : Addr) (a1 : Addr) (h0 : Heap) (n0 : Nat) (Z0 : n0 ≤ h0.size) (E_a0 : Exa Z h0 a0 kc0) (zz0 : Fld Z h0 a0 kc0 "value" "[B" .null) (zz1 : n0 ≤ a0) (zz2 : Fld Z h0 a0 kc0 "coder" "B" (.int (0 : Int32))) :
    MetN l Z yn_10 jdk_42_method_151_code 3 none ws ({ frames := 1, cells := 0, slots := 0, locals := 12 } : Room) #[(.ref a0), (.ref a1), (.int (0 : Int32))] h0 (Q_m10_4 Z a0 a1 h0 n0) := by
 refine MetN.of (plainFor_of_name pn_1) ?_
 intro p e s m below meth c s₁ hret hx hby hml hown hnm hlk hZ X0 e0
 have N0 := Fr.nil n0
 rw [ef_m10_4 m a0 a1]
 refine w_aloadN X0 hx (d10_0 hby) rfl rfl (pc' := 1) rfl ?_
 refine w_initO X0 hx 0 hZ hown (wd_11 hw) (wd_12 hw) (wd_13 hw) e0 (by rw [hml]; rfl) (d10_1 hby) (by decide) (Nat.le_of_eq rfl) (by decide) (pc' := 4) rfl ?_
 intro T20 X20 e20
 refine w_aloadN X20 hx (d10_4 hby) rfl rfl (pc' := 5) rfl ?_
 refine w_aloadN X20 hx (d10_5 hby) rfl rfl (pc' := 6) rfl ?_
 refine w_putF X20 hx "" hZ hown (Or.inl (wd_28 hw)) Via.refl e20 zz0 E_a0 (Or.inr ⟨(wd_29 hw), rfl, hnm⟩) (wd_1 hw) (ty := (.array .byte)) (by decide) rfl rfl (d10_6 hby) (pc' := 9) rfl ?_
 intro T21 h21 X21 e21 W21
 have f22 : Fld Z h21 a0 kc0 "value" "[B" (.ref a1) := zz0.same W21
 have K23 : Keep h0 h21 [a0] := (Keep.refl h0 [a0]).wr W21 (Or.inl (by simp))
 have N24 := Fr.snoc X21 N0 zz1
 refine w_aloadN X21 hx (d10_9 hby) rfl rfl (pc' := 10) rfl ?_
 refine w_iloadN X21 hx (d10_10 hby) rfl (pc' := 11) rfl ?_
 have f25 : Exa Z h21 a0 kc0 := (E_a0.wr W21)
 have f26 : Fld Z h21 a0 kc0 "coder" "B" (.int (0 : Int32)) := (zz2.other W21 (Or.inr (slot_ne (Or.inr (wd_27 hw)) (Or.inr (wd_29 hw)) (by decide) (t := .byte) (t' := (.array .byte)) (by decide) (by decide))))
 refine w_putF X21 hx "" hZ hown (Or.inl (wd_26 hw)) Via.refl e21 f26 f25 (Or.inr ⟨(wd_27 hw), rfl, hnm⟩) (wd_1 hw) (ty := .byte) (by decide) rfl rfl (d10_11 hby) (pc' := 14) rfl ?_
 intro T27 h27 X27 e27 W27
 have f28 : Fld Z h27 a0 kc0 "coder" "B" (.int (0 : Int32)) := f26.same W27
 have K29 : Keep h0 h27 [a0] := K23.wr W27 (Or.inl (by simp))
 have N30 := Fr.snoc X27 N24 zz1
 have f31 : Exa Z h27 a0 kc0 := (f25.wr W27)
 have f32 : Fld Z h27 a0 kc0 "value" "[B" (.ref a1) := (f22.other W27 (Or.inr (slot_ne (Or.inr (wd_29 hw)) (Or.inr (wd_27 hw)) (by decide) (t := (.array .byte)) (t' := .byte) (by decide) (by decide))))
 exact w_done X27 hlk (v := none) e27 (fun _ => rfl) (fun fs hr => X27.returnOut hx hret (d10_14 hby) hr) (by decide) (by decide) (⟨rfl, N30, K29, f31, f32, f28⟩)
theorem ef_m7_1 (m : MethodId) (p0 : Int32)  : entryFrame m #[(.int p0)] 1 = mkF m 0 #[.val (.int p0)] [] := by first | (simp [entryFrame, mkF, argsToLocals, Value.category]; done) | rfl
def Q_m7_1 (Z : State) (p0 : Int32) (jj0 : Int32) (h0 : Heap) (n0 : Nat) (v : Option Value) (h : Heap) (L : List Loc) : Prop := ∃ (r0 : Addr) (r1 : Addr) (c0 : ClassId), v = some (.ref r0) ∧ Fr n0 L ∧ Keep h0 h [] ∧ h0.size ≤ r0 ∧ h0.size ≤ r1 ∧ Exa Z h r0 kc0 ∧ Fld Z h r0 kc0 "coder" "B" (.int (0 : Int32)) ∧ Fld Z h r0 kc0 "value" "[B" (.ref r1) ∧ Arv Z h r1 c0 .byte (1 : Int32) [(.int (p0.toInt8.toInt32))] (.int (0 : Int32))
theorem rm_m7_1 (l : Launch) (Z : State) (aZ : Array Value) (hw : ∀ d ∈ tables_1, d.before aZ Z = true) (ws : List Jvm.Cond) (p0 : Int32) (jj0 : Int32) (h0 : Heap) (n0 : Nat) (Z0 : n0 ≤ h0.size) (zz1 : Sta Z Z.heap kc0 "COMPACT_STRINGS" "Z" (.int jj0)) (O0 : Old Z n0 h0) (hP_2 : ¬ (jj0 = (0 : Int32))) (hP_3 : ¬ ((255 : Int32) < p0)) :
    MetN l Z yn_7 jdk_42_method_139_code 1 (some (.object kc0)) ws ({ frames := 2, cells := 2, slots := 5, locals := 27 } : Room) #[(.int p0)] h0 (Q_m7_1 Z p0 jj0 h0 n0) := by
 refine MetN.of (plainFor_of_name pn_1) ?_
 intro p e s m below meth c s₁ hret hx hby hml hown hnm hlk hZ X0 e0
 have N0 := Fr.nil n0
 rw [ef_m7_1 m p0]
 refine w_getS X0 hx "" hZ hown (Or.inl (wd_14 hw)) Via.refl e0 (zz1.ext O0.2) (d7_0 hby) (pc' := 3) rfl ?_
 intro T20 X20 e20
 refine w_ifN X20 hx (d7_3 hby) (feq hP_2).1 (pc' := 6) rfl ?_
 refine w_iloadN X20 hx (d7_6 hby) rfl (pc' := 7) rfl ?_
 refine w_static X20 hx (y := yn_8) hown (mvT hZ (wd_33 hw)) (mvT hZ (wd_34 hw)) (mvT hZ (wd_35 hw)) (mvT hZ (wd_36 hw)) (by decide) (backOf (W := 0) (rm_m8_2 l Z aZ hw [] p0 h0 n0 Z0 hP_3) hZ (wd_36 hw) (wd_35 hw) (by decide) (by decide)) (by rw [hml]; rfl) [(.int p0)] (lenOf pd_1 rfl) rfl (Nat.le_of_eq rfl) (d7_7 hby) (fun _ _ => ⟨rfl, e20, (by decide : 0 + 0 ≤ _), (by decide : 0 + 0 ≤ _)⟩) (pc' := 10) rfl ?_
 rintro _ _ ⟨T21, L21, k21, n21⟩ X21 ⟨Lc21, hQ21, l21, y21, z21⟩
 dsimp only [Pt.U, Pt.locs, Pt.cells, Pt.slots] at X21 l21 y21 z21 hQ21 ⊢
 subst l21 y21 z21
 obtain ⟨rfl, N21q, e21⟩ := hQ21
 have N22 := Fr.app N0 N21q
 show Runs _ _ _ _ (T21.setTop (mkF m 10 #[.val (.int p0)] [(.int (1 : Int32))]))
 refine w_ifN X21 hx (d7_10 hby) (feq (by decide : ¬ ((1 : Int32) = (0 : Int32)))).1 (pc' := 13) rfl ?_
 refine w_new X21 hx hZ hown (wd_37 hw) (wd_1 hw) (wd_2 hw) e21 (d7_13 hby) (by decide) (by decide) (pc' := 16) rfl ?_
 intro T23 h23 b23 X23 e23 E23 g23 A23 D23
 have ge24 : n0 ≤ b23 := Nat.le_trans Z0 (Nat.le_of_eq g23.symm)
 have sz25 : h0.size ≤ b23 := Nat.le_trans (Nat.le_refl _) (Nat.le_of_eq g23.symm)
 have K26 : Keep h0 h23 [] := (Keep.refl h0 []).ext E23
 have f27 : Fld Z h23 b23 kc0 "coder" "B" (.int (0 : Int32)) := D23 (Or.inr (wd_27 hw)) (ty := .byte) (by decide)
 have f28 : Fld Z h23 b23 kc0 "value" "[B" .null := D23 (Or.inr (wd_29 hw)) (ty := (.array .byte)) (by decide)
 refine w_dup X23 hx (d7_16 hby) rfl (pc' := 17) rfl ?_
 refine w_iloadN X23 hx (d7_17 hby) rfl (pc' := 18) rfl ?_
 refine w_static X23 hx (y := yn_9) hown (mvT hZ (wd_38 hw)) (mvT hZ (wd_39 hw)) (mvT hZ (wd_35 hw)) (mvT hZ (wd_40 hw)) (by decide) (backOf (W := 2) (rm_m9_3 l Z aZ hw [] p0 h23 n0 (Nat.le_trans Z0 E23.1) ) hZ (wd_40 hw) (wd_35 hw) (by decide) (by decide)) (by rw [hml]; rfl) [(.int p0)] (lenOf pd_2 rfl) rfl (Nat.le_of_eq rfl) (d7_18 hby) (fun _ _ => ⟨rfl, e23, (by decide : 1 + 1 ≤ _), (by decide : 4 + 1 ≤ _)⟩) (pc' := 21) rfl ?_
 rintro _ _ ⟨T29, L29, k29, n29⟩ X29 ⟨Lc29, hQ29, l29, y29, z29⟩
 dsimp only [Pt.U, Pt.locs, Pt.cells, Pt.slots] at X29 l29 y29 z29 hQ29 ⊢
 subst l29 y29 z29
 obtain ⟨r0_29, c0_29, rfl, N29q, K29, g29_0, g29_1⟩ := hQ29
 have N30 := Fr.app N22 N29q
 have K31 : Keep h0 T29.heap [] := K26.trans K29 (all0 (P := fun x => x ∈ [] ∨ h0.size ≤ x))
 have ge32 : n0 ≤ r0_29 := Nat.le_trans (Nat.le_trans Z0 E23.1) g29_0
 have sz33 : h0.size ≤ r0_29 := Nat.le_trans E23.1 g29_0
 show Runs _ _ _ _ (T29.setTop (mkF m 21 #[.val (.int p0)] [(.ref r0_29), (.ref b23), (.ref b23)]))
 refine w_iconst X29 hx (d7_21 hby) (v := (0 : Int32)) rfl (pc' := 22) rfl ?_
 have f34 : Exa Z T29.heap b23 kc0 := (A23.keep K29)
 have f35 : Fld Z T29.heap b23 kc0 "value" "[B" .null := (f28.keep K29 nin0)
 have f36 : Fld Z T29.heap b23 kc0 "coder" "B" (.int (0 : Int32)) := (f27.keep K29 nin0)
 have le37 : h0.size ≤ T29.heap.size := (Nat.le_trans E23.1 K29.1)
 refine w_special X29 hx (y := yn_10) rfl hown (mvT hZ (wd_41 hw)) (mvT hZ (wd_42 hw)) (mvT hZ (wd_43 hw)) (by decide) (backOf (W := 1) (rm_m10_4 l Z aZ hw [] b23 r0_29 T29.heap n0 (Nat.le_trans Z0 le37) f34 f35 ge24 f36) hZ (wd_43 hw) (wd_2 hw) (by decide) (by decide)) (by rw [hml]; rfl) [(.ref r0_29), (.int (0 : Int32))] (lenOf pd_3 rfl) rfl (Nat.le_of_eq rfl) (d7_22 hby) (fun _ _ => ⟨rfl, rfl, (by decide : 2 + 0 ≤ _), (by decide : 5 + 0 ≤ _)⟩) (pc' := 25) rfl ?_
 rintro _ _ ⟨T38, L38, k38, n38⟩ X38 ⟨Lc38, hQ38, l38, y38, z38⟩
 dsimp only [Pt.U, Pt.locs, Pt.cells, Pt.slots] at X38 l38 y38 z38 hQ38 ⊢
 subst l38 y38 z38
 obtain ⟨rfl, N38q, K38, g38_0, g38_1, g38_2⟩ := hQ38
 have N39 := Fr.app N30 N38q
 have K40 : Keep h0 T38.heap [] := K31.trans K38 (allS (Or.inr sz25) (all0 (P := fun x => x ∈ [] ∨ h0.size ≤ x)))
 show Runs _ _ _ _ (T38.setTop (mkF m 25 #[.val (.int p0)] [(.ref b23)]))
 have ne41 : b23 ≠ r0_29 := (Nat.ne_of_lt (Nat.lt_of_lt_of_le A23.lt (Nat.le_trans (Nat.le_refl _) g29_0)))
 have f42 : Arv Z T38.heap r0_29 c0_29 .byte (1 : Int32) [(.int (p0.toInt8.toInt32))] (.int (0 : Int32)) := (g29_1.keep K38 (ninS (Ne.symm ne41) nin0))
 exact w_done X38 hlk (v := some (.ref b23)) rfl (fun h => by rw [hret] at h; cases h) (fun fs hr => retOut X38 hx hret rfl (Or.inr (Or.inr (Or.inr (Or.inr ⟨rfl, rfl, rfl⟩)))) (d7_25 hby) hr) (by decide) (by decide) (⟨b23, r0_29, c0_29, rfl, N39, K40, sz25, sz33, g38_0, g38_2, g38_1, f42⟩)
theorem ef_m11_5 (m : MethodId)   : entryFrame m #[] 0 = mkF m 0 #[] [] := by first | (simp [entryFrame, mkF, argsToLocals, Value.category]; done) | rfl
def Q_m11_5 (Z : State) (jj0 : Addr) (h0 : Heap) (n0 : Nat) (v : Option Value) (h : Heap) (L : List Loc) : Prop := v = some (.ref jj0) ∧ Fr n0 L ∧ h = h0
theorem rm_m11_5 (l : Launch) (Z : State) (aZ : Array Value) (hw : ∀ d ∈ tables_1, d.before aZ Z = true) (ws : List Jvm.Cond) (jj0 : Addr) (h0 : Heap) (n0 : Nat) (Z0 : n0 ≤ h0.size) (zz1 : Sta Z Z.heap "java/util/ImmutableCollections" "EMPTY_MAP" "Ljava/util/ImmutableCollections$MapN;" (.ref jj0)) (O0 : Old Z n0 h0) :
    MetN l Z yn_11 jdk_72_method_26_code 0 (some (.object "java/util/Map")) ws ({ frames := 0, cells := 0, slots := 0, locals := 0 } : Room) #[] h0 (Q_m11_5 Z jj0 h0 n0) := by
 refine MetN.of (plainFor_of_name pn_2) ?_
 intro p e s m below meth c s₁ hret hx hby hml hown hnm hlk hZ X0 e0
 have N0 := Fr.nil n0
 rw [ef_m11_5 m ]
 refine w_getS X0 hx "" hZ hown (Or.inl (wd_51 hw)) Via.refl e0 (zz1.ext O0.2) (d11_0 hby) (pc' := 3) rfl ?_
 intro T20 X20 e20
 exact w_done X20 hlk (v := some (.ref jj0)) e20 (fun h => by rw [hret] at h; cases h) (fun fs hr => retOut X20 hx hret rfl (Or.inr (Or.inr (Or.inr (Or.inr ⟨rfl, rfl, rfl⟩)))) (d11_3 hby) hr) (by decide) (by decide) (⟨rfl, N0, rfl⟩)
theorem ef_m12_6 (m : MethodId)   : entryFrame m #[] 0 = mkF m 0 #[] [] := by first | (simp [entryFrame, mkF, argsToLocals, Value.category]; done) | rfl
def Q_m12_6 (Z : State) (jj0 : Addr) (h0 : Heap) (n0 : Nat) (v : Option Value) (h : Heap) (L : List Loc) : Prop := v = some (.ref jj0) ∧ Fr n0 L ∧ h = h0
theorem rm_m12_6 (l : Launch) (Z : State) (aZ : Array Value) (hw : ∀ d ∈ tables_1, d.before aZ Z = true) (ws : List Jvm.Cond) (jj0 : Addr) (h0 : Heap) (n0 : Nat) (Z0 : n0 ≤ h0.size) (zz1 : Sta Z Z.heap "java/util/ImmutableCollections" "EMPTY_SET" "Ljava/util/ImmutableCollections$SetN;" (.ref jj0)) (O0 : Old Z n0 h0) :
    MetN l Z yn_12 jdk_96_method_17_code 0 (some (.object "java/util/Set")) ws ({ frames := 0, cells := 0, slots := 0, locals := 0 } : Room) #[] h0 (Q_m12_6 Z jj0 h0 n0) := by
 refine MetN.of (plainFor_of_name pn_3) ?_
 intro p e s m below meth c s₁ hret hx hby hml hown hnm hlk hZ X0 e0
 have N0 := Fr.nil n0
 rw [ef_m12_6 m ]
 refine w_getS X0 hx "" hZ hown (Or.inl (wd_57 hw)) Via.refl e0 (zz1.ext O0.2) (d12_0 hby) (pc' := 3) rfl ?_
 intro T20 X20 e20
 exact w_done X20 hlk (v := some (.ref jj0)) e20 (fun h => by rw [hret] at h; cases h) (fun fs hr => retOut X20 hx hret rfl (Or.inr (Or.inr (Or.inr (Or.inr ⟨rfl, rfl, rfl⟩)))) (d12_3 hby) hr) (by decide) (by decide) (⟨rfl, N0, rfl⟩)
theorem ef_m14_8 (m : MethodId) (a0 : Addr)  : entryFrame m #[(.ref a0)] 1 = mkF m 0 #[.val (.ref a0)] [] := by first | (simp [entryFrame, mkF, argsToLocals, Value.category]; done) | rfl
def Q_m14_8 (Z : State) (a0 : Addr) (h0 : Heap) (n0 : Nat) (v : Option Value) (h : Heap) (L : List Loc) : Prop := v = none ∧ Fr n0 L ∧ h = h0
theorem rm_m14_8 (l : Launch) (Z : State) (aZ : Array Value) (hw : ∀ d ∈ tables_1, d.before aZ Z = true) (ws : List Jvm.Cond) (a0 : Addr) (h0 : Heap) (n0 : Nat) (Z0 : n0 ≤ h0.size) :
    MetN l Z yn_14 jdk_30_method_1_code 1 none ws ({ frames := 1, cells := 0, slots := 0, locals := 12 } : Room) #[(.ref a0)] h0 (Q_m14_8 Z a0 h0 n0) := by
 refine MetN.of (plainFor_of_name pn_4) ?_
 intro p e s m below meth c s₁ hret hx hby hml hown hnm hlk hZ X0 e0
 have N0 := Fr.nil n0
 rw [ef_m14_8 m a0]
 refine w_aloadN X0 hx (d14_0 hby) rfl rfl (pc' := 1) rfl ?_
 refine w_initO X0 hx 0 hZ hown (wd_66 hw) (wd_12 hw) (wd_13 hw) e0 (by rw [hml]; rfl) (d14_1 hby) (by decide) (Nat.le_of_eq rfl) (by decide) (pc' := 4) rfl ?_
 intro T20 X20 e20
 exact w_done X20 hlk (v := none) e20 (fun _ => rfl) (fun fs hr => X20.returnOut hx hret (d14_4 hby) hr) (by decide) (by decide) (⟨rfl, N0, rfl⟩)
theorem ef_m15_9 (m : MethodId) (jj0 : Addr)  : entryFrame m #[(.ref jj0)] 1 = mkF m 0 #[.val (.ref jj0)] [] := by first | (simp [entryFrame, mkF, argsToLocals, Value.category]; done) | rfl
def Q_m15_9 (Z : State) (jj0 : Addr) (h0 : Heap) (n0 : Nat) (v : Option Value) (h : Heap) (L : List Loc) : Prop := v = some (.ref jj0) ∧ Fr n0 L ∧ h = h0
theorem rm_m15_9 (l : Launch) (Z : State) (aZ : Array Value) (hw : ∀ d ∈ tables_1, d.before aZ Z = true) (ws : List Jvm.Cond) (jj0 : Addr) (h0 : Heap) (n0 : Nat) (Z0 : n0 ≤ h0.size) (zz1 : Exa Z h0 jj0 "java/util/ImmutableCollections$MapN") :
    MetN l Z yn_15 jdk_72_method_39_code 1 (some (.object "java/util/Map")) ws ({ frames := 0, cells := 0, slots := 0, locals := 0 } : Room) #[(.ref jj0)] h0 (Q_m15_9 Z jj0 h0 n0) := by
 refine MetN.of (plainFor_of_name pn_2) ?_
 intro p e s m below meth c s₁ hret hx hby hml hown hnm hlk hZ X0 e0
 have N0 := Fr.nil n0
 rw [ef_m15_9 m jj0]
 refine w_aloadN X0 hx (d15_0 hby) rfl rfl (pc' := 1) rfl ?_
 refine w_instY X0 hx hZ hown (wd_70 hw) e0 (Ins.of_exa zz1 (wd_71 hw)) (d15_1 hby) (pc' := 4) rfl ?_
 intro T20 X20 e20
 refine w_ifN X20 hx (d15_4 hby) (feq (by decide : ¬ ((1 : Int32) = (0 : Int32)))).1 (pc' := 7) rfl ?_
 refine w_aloadN X20 hx (d15_7 hby) rfl rfl (pc' := 8) rfl ?_
 exact w_done X20 hlk (v := some (.ref jj0)) e20 (fun h => by rw [hret] at h; cases h) (fun fs hr => retOut X20 hx hret rfl (Or.inr (Or.inr (Or.inr (Or.inr ⟨rfl, rfl, rfl⟩)))) (d15_8 hby) hr) (by decide) (by decide) (⟨rfl, N0, rfl⟩)
theorem ef_m16_10 (m : MethodId) (jj0 : Addr)  : entryFrame m #[(.ref jj0)] 1 = mkF m 0 #[.val (.ref jj0)] [] := by first | (simp [entryFrame, mkF, argsToLocals, Value.category]; done) | rfl
def Q_m16_10 (Z : State) (jj0 : Addr) (h0 : Heap) (n0 : Nat) (v : Option Value) (h : Heap) (L : List Loc) : Prop := v = some (.ref jj0) ∧ Fr n0 L ∧ h = h0
theorem rm_m16_10 (l : Launch) (Z : State) (aZ : Array Value) (hw : ∀ d ∈ tables_1, d.before aZ Z = true) (ws : List Jvm.Cond) (jj0 : Addr) (h0 : Heap) (n0 : Nat) (Z0 : n0 ≤ h0.size) (zz1 : Exa Z h0 jj0 "java/util/ImmutableCollections$SetN") :
    MetN l Z yn_16 jdk_96_method_29_code 1 (some (.object "java/util/Set")) ws ({ frames := 0, cells := 0, slots := 0, locals := 0 } : Room) #[(.ref jj0)] h0 (Q_m16_10 Z jj0 h0 n0) := by
 refine MetN.of (plainFor_of_name pn_3) ?_
 intro p e s m below meth c s₁ hret hx hby hml hown hnm hlk hZ X0 e0
 have N0 := Fr.nil n0
 rw [ef_m16_10 m jj0]
 refine w_aloadN X0 hx (d16_0 hby) rfl rfl (pc' := 1) rfl ?_
 refine w_instY X0 hx hZ hown (wd_75 hw) e0 (Ins.of_exa zz1 (wd_76 hw)) (d16_1 hby) (pc' := 4) rfl ?_
 intro T20 X20 e20
 refine w_ifN X20 hx (d16_4 hby) (feq (by decide : ¬ ((1 : Int32) = (0 : Int32)))).1 (pc' := 7) rfl ?_
 refine w_aloadN X20 hx (d16_7 hby) rfl rfl (pc' := 8) rfl ?_
 refine w_castY X20 hx hZ hown (wd_77 hw) e20 (Ins.of_exa zz1 (wd_78 hw)) (d16_8 hby) (pc' := 11) rfl ?_
 intro T21 X21 e21
 exact w_done X21 hlk (v := some (.ref jj0)) e21 (fun h => by rw [hret] at h; cases h) (fun fs hr => retOut X21 hx hret rfl (Or.inr (Or.inr (Or.inr (Or.inr ⟨rfl, rfl, rfl⟩)))) (d16_11 hby) hr) (by decide) (by decide) (⟨rfl, N0, rfl⟩)
theorem ef_m13_7 (m : MethodId) (a0 : Addr) (a1 : Addr) (a2 : Addr) (p3 : Int32) (p4 : Int32) (p5 : Int32) (p6 : Int32) (p7 : Int32) (jj0 : Addr) (jj1 : Addr)  : entryFrame m #[(.ref a0), (.ref a1), (.ref a2), (.int p3), (.int p4), (.int p5), (.int p6), (.int p7), (.ref jj0), (.ref jj1)] 10 = mkF m 0 #[.val (.ref a0), .val (.ref a1), .val (.ref a2), .val (.int p3), .val (.int p4), .val (.int p5), .val (.int p6), .val (.int p7), .val (.ref jj0), .val (.ref jj1)] [] := by first | (simp [entryFrame, mkF, argsToLocals, Value.category]; done) | rfl
def Q_m13_7 (Z : State) (a0 : Addr) (a1 : Addr) (a2 : Addr) (p3 : Int32) (p4 : Int32) (p5 : Int32) (p6 : Int32) (p7 : Int32) (jj0 : Addr) (jj1 : Addr) (h0 : Heap) (n0 : Nat) (v : Option Value) (h : Heap) (L : List Loc) : Prop := v = none ∧ Fr n0 L ∧ Keep h0 h [a0] ∧ Exa Z h a0 kc1 ∧ Fld Z h a0 kc1 "name" "Ljava/lang/String;" (.ref a1) ∧ Fld Z h a0 kc1 "side" "Ljava/lang/String;" (.ref a2) ∧ Fld Z h a0 kc1 "initiative" "I" (.int p3) ∧ Fld Z h a0 kc1 "agility" "I" (.int p4) ∧ Fld Z h a0 kc1 "vitality" "I" (.int p5) ∧ Fld Z h a0 kc1 "fortitude" "I" (.int p6) ∧ Fld Z h a0 kc1 "extraPoints" "I" (.int p7) ∧ Fld Z h a0 kc1 "resistances" "Ljava/util/Map;" (.ref jj0) ∧ Fld Z h a0 kc1 "vulnerabilities" "Ljava/util/Set;" (.ref jj1)
theorem rm_m13_7 (l : Launch) (Z : State) (aZ : Array Value) (hw : ∀ d ∈ tables_1, d.before aZ Z = true) (ws : List Jvm.Cond) (a0 : Addr) (a1 : Addr) (a2 : Addr) (p3 : Int32) (p4 : Int32) (p5 : Int32) (p6 : Int32) (p7 : Int32) (jj0 : Addr) (jj1 : Addr) (h0 : Heap) (n0 : Nat) (Z0 : n0 ≤ h0.size) (zz2 : Exa Z h0 jj0 "java/util/ImmutableCollections$MapN") (zz3 : Exa Z h0 jj1 "java/util/ImmutableCollections$SetN") (E_a0 : Exa Z h0 a0 kc1) (zz4 : Fld Z h0 a0 kc1 "name" "Ljava/lang/String;" .null) (zz5 : n0 ≤ a0) (zz6 : Fld Z h0 a0 kc1 "side" "Ljava/lang/String;" .null) (zz7 : Fld Z h0 a0 kc1 "initiative" "I" (.int (0 : Int32))) (zz8 : Fld Z h0 a0 kc1 "agility" "I" (.int (0 : Int32))) (zz9 : Fld Z h0 a0 kc1 "vitality" "I" (.int (0 : Int32))) (zz10 : Fld Z h0 a0 kc1 "fortitude" "I" (.int (0 : Int32))) (zz11 : Fld Z h0 a0 kc1 "extraPoints" "I" (.int (0 : Int32))) (zz12 : Fld Z h0 a0 kc1 "resistances" "Ljava/util/Map;" .null) (zz13 : Fld Z h0 a0 kc1 "vulnerabilities" "Ljava/util/Set;" .null) :
    MetN l Z yn_13 prog_6_method_1_code 10 none ws ({ frames := 2, cells := 0, slots := 0, locals := 24 } : Room) #[(.ref a0), (.ref a1), (.ref a2), (.int p3), (.int p4), (.int p5), (.int p6), (.int p7), (.ref jj0), (.ref jj1)] h0 (Q_m13_7 Z a0 a1 a2 p3 p4 p5 p6 p7 jj0 jj1 h0 n0) := by
 refine MetN.of (plainFor_of_name pn_5) ?_
 intro p e s m below meth c s₁ hret hx hby hml hown hnm hlk hZ X0 e0
 have N0 := Fr.nil n0
 rw [ef_m13_7 m a0 a1 a2 p3 p4 p5 p6 p7 jj0 jj1]
 refine w_aloadN X0 hx (d13_0 hby) rfl rfl (pc' := 1) rfl ?_
 refine w_special X0 hx (y := yn_14) rfl hown (mvT hZ (wd_61 hw)) (mvT hZ (wd_62 hw)) (mvT hZ (wd_65 hw)) (by decide) (backOf (W := 0) (rm_m14_8 l Z aZ hw [] a0 h0 n0 Z0 ) hZ (wd_65 hw) (wd_64 hw) (by decide) (by decide)) (by rw [hml]; rfl) [] (lenOf pd_7 rfl) rfl (Nat.le_of_eq rfl) (d13_1 hby) (fun _ _ => ⟨rfl, e0, (by decide : 0 + 0 ≤ _), (by decide : 0 + 0 ≤ _)⟩) (pc' := 4) rfl ?_
 rintro _ _ ⟨T20, L20, k20, n20⟩ X20 ⟨Lc20, hQ20, l20, y20, z20⟩
 dsimp only [Pt.U, Pt.locs, Pt.cells, Pt.slots] at X20 l20 y20 z20 hQ20 ⊢
 subst l20 y20 z20
 obtain ⟨rfl, N20q, e20⟩ := hQ20
 have N21 := Fr.app N0 N20q
 show Runs _ _ _ _ (T20.setTop (mkF m 4 #[.val (.ref a0), .val (.ref a1), .val (.ref a2), .val (.int p3), .val (.int p4), .val (.int p5), .val (.int p6), .val (.int p7), .val (.ref jj0), .val (.ref jj1)] []))
 refine w_aload X20 hx (d13_4 hby) rfl rfl (pc' := 6) rfl ?_
 refine w_static X20 hx (y := yn_15) hown (mvT hZ (wd_67 hw)) (mvT hZ (wd_68 hw)) (mvT hZ (wd_49 hw)) (mvT hZ (wd_69 hw)) (by decide) (backOf (W := 0) (rm_m15_9 l Z aZ hw [] jj0 h0 n0 Z0 zz2) hZ (wd_69 hw) (wd_49 hw) (by decide) (by decide)) (by rw [hml]; rfl) [(.ref jj0)] (lenOf pd_8 rfl) rfl (Nat.le_of_eq rfl) (d13_6 hby) (fun _ _ => ⟨rfl, e20, (by decide : 0 + 0 ≤ _), (by decide : 0 + 0 ≤ _)⟩) (pc' := 9) rfl ?_
 rintro _ _ ⟨T22, L22, k22, n22⟩ X22 ⟨Lc22, hQ22, l22, y22, z22⟩
 dsimp only [Pt.U, Pt.locs, Pt.cells, Pt.slots] at X22 l22 y22 z22 hQ22 ⊢
 subst l22 y22 z22
 obtain ⟨rfl, N22q, e22⟩ := hQ22
 have N23 := Fr.app N21 N22q
 show Runs _ _ _ _ (T22.setTop (mkF m 9 #[.val (.ref a0), .val (.ref a1), .val (.ref a2), .val (.int p3), .val (.int p4), .val (.int p5), .val (.int p6), .val (.int p7), .val (.ref jj0), .val (.ref jj1)] [(.ref jj0)]))
 refine w_astore X22 hx (d13_9 hby) rfl (L' := #[.val (.ref a0), .val (.ref a1), .val (.ref a2), .val (.int p3), .val (.int p4), .val (.int p5), .val (.int p6), .val (.int p7), .val (.ref jj0), .val (.ref jj1)]) rfl (pc' := 11) rfl ?_
 refine w_aload X22 hx (d13_11 hby) rfl rfl (pc' := 13) rfl ?_
 refine w_static X22 hx (y := yn_16) hown (mvT hZ (wd_72 hw)) (mvT hZ (wd_73 hw)) (mvT hZ (wd_55 hw)) (mvT hZ (wd_74 hw)) (by decide) (backOf (W := 0) (rm_m16_10 l Z aZ hw [] jj1 h0 n0 Z0 zz3) hZ (wd_74 hw) (wd_55 hw) (by decide) (by decide)) (by rw [hml]; rfl) [(.ref jj1)] (lenOf pd_9 rfl) rfl (Nat.le_of_eq rfl) (d13_13 hby) (fun _ _ => ⟨rfl, e22, (by decide : 0 + 0 ≤ _), (by decide : 0 + 0 ≤ _)⟩) (pc' := 16) rfl ?_
 rintro _ _ ⟨T24, L24, k24, n24⟩ X24 ⟨Lc24, hQ24, l24, y24, z24⟩
 dsimp only [Pt.U, Pt.locs, Pt.cells, Pt.slots] at X24 l24 y24 z24 hQ24 ⊢
 subst l24 y24 z24
 obtain ⟨rfl, N24q, e24⟩ := hQ24
 have N25 := Fr.app N23 N24q
 show Runs _ _ _ _ (T24.setTop (mkF m 16 #[.val (.ref a0), .val (.ref a1), .val (.ref a2), .val (.int p3), .val (.int p4), .val (.int p5), .val (.int p6), .val (.int p7), .val (.ref jj0), .val (.ref jj1)] [(.ref jj1)]))
 refine w_astore X24 hx (d13_16 hby) rfl (L' := #[.val (.ref a0), .val (.ref a1), .val (.ref a2), .val (.int p3), .val (.int p4), .val (.int p5), .val (.int p6), .val (.int p7), .val (.ref jj0), .val (.ref jj1)]) rfl (pc' := 18) rfl ?_
 refine w_aloadN X24 hx (d13_18 hby) rfl rfl (pc' := 19) rfl ?_
 refine w_aloadN X24 hx (d13_19 hby) rfl rfl (pc' := 20) rfl ?_
 refine w_putF X24 hx "" hZ hown (Or.inl (wd_79 hw)) Via.refl e24 zz4 E_a0 (Or.inr ⟨(wd_80 hw), rfl, hnm⟩) (wd_45 hw) (ty := (.object kc0)) (by decide) rfl rfl (d13_20 hby) (pc' := 23) rfl ?_
 intro T26 h26 X26 e26 W26
 have f27 : Fld Z h26 a0 kc1 "name" "Ljava/lang/String;" (.ref a1) := zz4.same W26
 have K28 : Keep h0 h26 [a0] := (Keep.refl h0 [a0]).wr W26 (Or.inl (by simp))
 have N29 := Fr.snoc X26 N25 zz5
 refine w_aloadN X26 hx (d13_23 hby) rfl rfl (pc' := 24) rfl ?_
 refine w_aloadN X26 hx (d13_24 hby) rfl rfl (pc' := 25) rfl ?_
 have f30 : Exa Z h26 a0 kc1 := (E_a0.wr W26)
 have f31 : Fld Z h26 a0 kc1 "side" "Ljava/lang/String;" .null := (zz6.other W26 (Or.inr (slot_ne (Or.inr (wd_82 hw)) (Or.inr (wd_80 hw)) (by decide) (t := (.object kc0)) (t' := (.object kc0)) (by decide) (by decide))))
 refine w_putF X26 hx "" hZ hown (Or.inl (wd_81 hw)) Via.refl e26 f31 f30 (Or.inr ⟨(wd_82 hw), rfl, hnm⟩) (wd_45 hw) (ty := (.object kc0)) (by decide) rfl rfl (d13_25 hby) (pc' := 28) rfl ?_
 intro T32 h32 X32 e32 W32
 have f33 : Fld Z h32 a0 kc1 "side" "Ljava/lang/String;" (.ref a2) := f31.same W32
 have K34 : Keep h0 h32 [a0] := K28.wr W32 (Or.inl (by simp))
 have N35 := Fr.snoc X32 N29 zz5
 refine w_aloadN X32 hx (d13_28 hby) rfl rfl (pc' := 29) rfl ?_
 refine w_iloadN X32 hx (d13_29 hby) rfl (pc' := 30) rfl ?_
 have f36 : Exa Z h32 a0 kc1 := (f30.wr W32)
 have f37 : Fld Z h32 a0 kc1 "initiative" "I" (.int (0 : Int32)) := ((zz7.other W26 (Or.inr (slot_ne (Or.inr (wd_84 hw)) (Or.inr (wd_80 hw)) (by decide) (t := .int) (t' := (.object kc0)) (by decide) (by decide)))).other W32 (Or.inr (slot_ne (Or.inr (wd_84 hw)) (Or.inr (wd_82 hw)) (by decide) (t := .int) (t' := (.object kc0)) (by decide) (by decide))))
 refine w_putF X32 hx "" hZ hown (Or.inl (wd_83 hw)) Via.refl e32 f37 f36 (Or.inr ⟨(wd_84 hw), rfl, hnm⟩) (wd_45 hw) (ty := .int) (by decide) rfl rfl (d13_30 hby) (pc' := 33) rfl ?_
 intro T38 h38 X38 e38 W38
 have f39 : Fld Z h38 a0 kc1 "initiative" "I" (.int p3) := f37.same W38
 have K40 : Keep h0 h38 [a0] := K34.wr W38 (Or.inl (by simp))
 have N41 := Fr.snoc X38 N35 zz5
 refine w_aloadN X38 hx (d13_33 hby) rfl rfl (pc' := 34) rfl ?_
 refine w_iload X38 hx (d13_34 hby) rfl (pc' := 36) rfl ?_
 have f42 : Exa Z h38 a0 kc1 := (f36.wr W38)
 have f43 : Fld Z h38 a0 kc1 "agility" "I" (.int (0 : Int32)) := (((zz8.other W26 (Or.inr (slot_ne (Or.inr (wd_86 hw)) (Or.inr (wd_80 hw)) (by decide) (t := .int) (t' := (.object kc0)) (by decide) (by decide)))).other W32 (Or.inr (slot_ne (Or.inr (wd_86 hw)) (Or.inr (wd_82 hw)) (by decide) (t := .int) (t' := (.object kc0)) (by decide) (by decide)))).other W38 (Or.inr (slot_ne (Or.inr (wd_86 hw)) (Or.inr (wd_84 hw)) (by decide) (t := .int) (t' := .int) (by decide) (by decide))))
 refine w_putF X38 hx "" hZ hown (Or.inl (wd_85 hw)) Via.refl e38 f43 f42 (Or.inr ⟨(wd_86 hw), rfl, hnm⟩) (wd_45 hw) (ty := .int) (by decide) rfl rfl (d13_36 hby) (pc' := 39) rfl ?_
 intro T44 h44 X44 e44 W44
 have f45 : Fld Z h44 a0 kc1 "agility" "I" (.int p4) := f43.same W44
 have K46 : Keep h0 h44 [a0] := K40.wr W44 (Or.inl (by simp))
 have N47 := Fr.snoc X44 N41 zz5
 refine w_aloadN X44 hx (d13_39 hby) rfl rfl (pc' := 40) rfl ?_
 refine w_iload X44 hx (d13_40 hby) rfl (pc' := 42) rfl ?_
 have f48 : Exa Z h44 a0 kc1 := (f42.wr W44)
 have f49 : Fld Z h44 a0 kc1 "vitality" "I" (.int (0 : Int32)) := ((((zz9.other W26 (Or.inr (slot_ne (Or.inr (wd_88 hw)) (Or.inr (wd_80 hw)) (by decide) (t := .int) (t' := (.object kc0)) (by decide) (by decide)))).other W32 (Or.inr (slot_ne (Or.inr (wd_88 hw)) (Or.inr (wd_82 hw)) (by decide) (t := .int) (t' := (.object kc0)) (by decide) (by decide)))).other W38 (Or.inr (slot_ne (Or.inr (wd_88 hw)) (Or.inr (wd_84 hw)) (by decide) (t := .int) (t' := .int) (by decide) (by decide)))).other W44 (Or.inr (slot_ne (Or.inr (wd_88 hw)) (Or.inr (wd_86 hw)) (by decide) (t := .int) (t' := .int) (by decide) (by decide))))
 refine w_putF X44 hx "" hZ hown (Or.inl (wd_87 hw)) Via.refl e44 f49 f48 (Or.inr ⟨(wd_88 hw), rfl, hnm⟩) (wd_45 hw) (ty := .int) (by decide) rfl rfl (d13_42 hby) (pc' := 45) rfl ?_
 intro T50 h50 X50 e50 W50
 have f51 : Fld Z h50 a0 kc1 "vitality" "I" (.int p5) := f49.same W50
 have K52 : Keep h0 h50 [a0] := K46.wr W50 (Or.inl (by simp))
 have N53 := Fr.snoc X50 N47 zz5
 refine w_aloadN X50 hx (d13_45 hby) rfl rfl (pc' := 46) rfl ?_
 refine w_iload X50 hx (d13_46 hby) rfl (pc' := 48) rfl ?_
 have f54 : Exa Z h50 a0 kc1 := (f48.wr W50)
 have f55 : Fld Z h50 a0 kc1 "fortitude" "I" (.int (0 : Int32)) := (((((zz10.other W26 (Or.inr (slot_ne (Or.inr (wd_90 hw)) (Or.inr (wd_80 hw)) (by decide) (t := .int) (t' := (.object kc0)) (by decide) (by decide)))).other W32 (Or.inr (slot_ne (Or.inr (wd_90 hw)) (Or.inr (wd_82 hw)) (by decide) (t := .int) (t' := (.object kc0)) (by decide) (by decide)))).other W38 (Or.inr (slot_ne (Or.inr (wd_90 hw)) (Or.inr (wd_84 hw)) (by decide) (t := .int) (t' := .int) (by decide) (by decide)))).other W44 (Or.inr (slot_ne (Or.inr (wd_90 hw)) (Or.inr (wd_86 hw)) (by decide) (t := .int) (t' := .int) (by decide) (by decide)))).other W50 (Or.inr (slot_ne (Or.inr (wd_90 hw)) (Or.inr (wd_88 hw)) (by decide) (t := .int) (t' := .int) (by decide) (by decide))))
 refine w_putF X50 hx "" hZ hown (Or.inl (wd_89 hw)) Via.refl e50 f55 f54 (Or.inr ⟨(wd_90 hw), rfl, hnm⟩) (wd_45 hw) (ty := .int) (by decide) rfl rfl (d13_48 hby) (pc' := 51) rfl ?_
 intro T56 h56 X56 e56 W56
 have f57 : Fld Z h56 a0 kc1 "fortitude" "I" (.int p6) := f55.same W56
 have K58 : Keep h0 h56 [a0] := K52.wr W56 (Or.inl (by simp))
 have N59 := Fr.snoc X56 N53 zz5
 refine w_aloadN X56 hx (d13_51 hby) rfl rfl (pc' := 52) rfl ?_
 refine w_iload X56 hx (d13_52 hby) rfl (pc' := 54) rfl ?_
 have f60 : Exa Z h56 a0 kc1 := (f54.wr W56)
 have f61 : Fld Z h56 a0 kc1 "extraPoints" "I" (.int (0 : Int32)) := ((((((zz11.other W26 (Or.inr (slot_ne (Or.inr (wd_92 hw)) (Or.inr (wd_80 hw)) (by decide) (t := .int) (t' := (.object kc0)) (by decide) (by decide)))).other W32 (Or.inr (slot_ne (Or.inr (wd_92 hw)) (Or.inr (wd_82 hw)) (by decide) (t := .int) (t' := (.object kc0)) (by decide) (by decide)))).other W38 (Or.inr (slot_ne (Or.inr (wd_92 hw)) (Or.inr (wd_84 hw)) (by decide) (t := .int) (t' := .int) (by decide) (by decide)))).other W44 (Or.inr (slot_ne (Or.inr (wd_92 hw)) (Or.inr (wd_86 hw)) (by decide) (t := .int) (t' := .int) (by decide) (by decide)))).other W50 (Or.inr (slot_ne (Or.inr (wd_92 hw)) (Or.inr (wd_88 hw)) (by decide) (t := .int) (t' := .int) (by decide) (by decide)))).other W56 (Or.inr (slot_ne (Or.inr (wd_92 hw)) (Or.inr (wd_90 hw)) (by decide) (t := .int) (t' := .int) (by decide) (by decide))))
 refine w_putF X56 hx "" hZ hown (Or.inl (wd_91 hw)) Via.refl e56 f61 f60 (Or.inr ⟨(wd_92 hw), rfl, hnm⟩) (wd_45 hw) (ty := .int) (by decide) rfl rfl (d13_54 hby) (pc' := 57) rfl ?_
 intro T62 h62 X62 e62 W62
 have f63 : Fld Z h62 a0 kc1 "extraPoints" "I" (.int p7) := f61.same W62
 have K64 : Keep h0 h62 [a0] := K58.wr W62 (Or.inl (by simp))
 have N65 := Fr.snoc X62 N59 zz5
 refine w_aloadN X62 hx (d13_57 hby) rfl rfl (pc' := 58) rfl ?_
 refine w_aload X62 hx (d13_58 hby) rfl rfl (pc' := 60) rfl ?_
 have f66 : Exa Z h62 a0 kc1 := (f60.wr W62)
 have f67 : Fld Z h62 a0 kc1 "resistances" "Ljava/util/Map;" .null := (((((((zz12.other W26 (Or.inr (slot_ne (Or.inr (wd_94 hw)) (Or.inr (wd_80 hw)) (by decide) (t := (.object "java/util/Map")) (t' := (.object kc0)) (by decide) (by decide)))).other W32 (Or.inr (slot_ne (Or.inr (wd_94 hw)) (Or.inr (wd_82 hw)) (by decide) (t := (.object "java/util/Map")) (t' := (.object kc0)) (by decide) (by decide)))).other W38 (Or.inr (slot_ne (Or.inr (wd_94 hw)) (Or.inr (wd_84 hw)) (by decide) (t := (.object "java/util/Map")) (t' := .int) (by decide) (by decide)))).other W44 (Or.inr (slot_ne (Or.inr (wd_94 hw)) (Or.inr (wd_86 hw)) (by decide) (t := (.object "java/util/Map")) (t' := .int) (by decide) (by decide)))).other W50 (Or.inr (slot_ne (Or.inr (wd_94 hw)) (Or.inr (wd_88 hw)) (by decide) (t := (.object "java/util/Map")) (t' := .int) (by decide) (by decide)))).other W56 (Or.inr (slot_ne (Or.inr (wd_94 hw)) (Or.inr (wd_90 hw)) (by decide) (t := (.object "java/util/Map")) (t' := .int) (by decide) (by decide)))).other W62 (Or.inr (slot_ne (Or.inr (wd_94 hw)) (Or.inr (wd_92 hw)) (by decide) (t := (.object "java/util/Map")) (t' := .int) (by decide) (by decide))))
 refine w_putF X62 hx "" hZ hown (Or.inl (wd_93 hw)) Via.refl e62 f67 f66 (Or.inr ⟨(wd_94 hw), rfl, hnm⟩) (wd_45 hw) (ty := (.object "java/util/Map")) (by decide) rfl rfl (d13_60 hby) (pc' := 63) rfl ?_
 intro T68 h68 X68 e68 W68
 have f69 : Fld Z h68 a0 kc1 "resistances" "Ljava/util/Map;" (.ref jj0) := f67.same W68
 have K70 : Keep h0 h68 [a0] := K64.wr W68 (Or.inl (by simp))
 have N71 := Fr.snoc X68 N65 zz5
 refine w_aloadN X68 hx (d13_63 hby) rfl rfl (pc' := 64) rfl ?_
 refine w_aload X68 hx (d13_64 hby) rfl rfl (pc' := 66) rfl ?_
 have f72 : Exa Z h68 a0 kc1 := (f66.wr W68)
 have f73 : Fld Z h68 a0 kc1 "vulnerabilities" "Ljava/util/Set;" .null := ((((((((zz13.other W26 (Or.inr (slot_ne (Or.inr (wd_96 hw)) (Or.inr (wd_80 hw)) (by decide) (t := (.object "java/util/Set")) (t' := (.object kc0)) (by decide) (by decide)))).other W32 (Or.inr (slot_ne (Or.inr (wd_96 hw)) (Or.inr (wd_82 hw)) (by decide) (t := (.object "java/util/Set")) (t' := (.object kc0)) (by decide) (by decide)))).other W38 (Or.inr (slot_ne (Or.inr (wd_96 hw)) (Or.inr (wd_84 hw)) (by decide) (t := (.object "java/util/Set")) (t' := .int) (by decide) (by decide)))).other W44 (Or.inr (slot_ne (Or.inr (wd_96 hw)) (Or.inr (wd_86 hw)) (by decide) (t := (.object "java/util/Set")) (t' := .int) (by decide) (by decide)))).other W50 (Or.inr (slot_ne (Or.inr (wd_96 hw)) (Or.inr (wd_88 hw)) (by decide) (t := (.object "java/util/Set")) (t' := .int) (by decide) (by decide)))).other W56 (Or.inr (slot_ne (Or.inr (wd_96 hw)) (Or.inr (wd_90 hw)) (by decide) (t := (.object "java/util/Set")) (t' := .int) (by decide) (by decide)))).other W62 (Or.inr (slot_ne (Or.inr (wd_96 hw)) (Or.inr (wd_92 hw)) (by decide) (t := (.object "java/util/Set")) (t' := .int) (by decide) (by decide)))).other W68 (Or.inr (slot_ne (Or.inr (wd_96 hw)) (Or.inr (wd_94 hw)) (by decide) (t := (.object "java/util/Set")) (t' := (.object "java/util/Map")) (by decide) (by decide))))
 refine w_putF X68 hx "" hZ hown (Or.inl (wd_95 hw)) Via.refl e68 f73 f72 (Or.inr ⟨(wd_96 hw), rfl, hnm⟩) (wd_45 hw) (ty := (.object "java/util/Set")) (by decide) rfl rfl (d13_66 hby) (pc' := 69) rfl ?_
 intro T74 h74 X74 e74 W74
 have f75 : Fld Z h74 a0 kc1 "vulnerabilities" "Ljava/util/Set;" (.ref jj1) := f73.same W74
 have K76 : Keep h0 h74 [a0] := K70.wr W74 (Or.inl (by simp))
 have N77 := Fr.snoc X74 N71 zz5
 have f78 : Exa Z h74 a0 kc1 := (f72.wr W74)
 have f79 : Fld Z h74 a0 kc1 "name" "Ljava/lang/String;" (.ref a1) := ((((((((f27.other W32 (Or.inr (slot_ne (Or.inr (wd_80 hw)) (Or.inr (wd_82 hw)) (by decide) (t := (.object kc0)) (t' := (.object kc0)) (by decide) (by decide)))).other W38 (Or.inr (slot_ne (Or.inr (wd_80 hw)) (Or.inr (wd_84 hw)) (by decide) (t := (.object kc0)) (t' := .int) (by decide) (by decide)))).other W44 (Or.inr (slot_ne (Or.inr (wd_80 hw)) (Or.inr (wd_86 hw)) (by decide) (t := (.object kc0)) (t' := .int) (by decide) (by decide)))).other W50 (Or.inr (slot_ne (Or.inr (wd_80 hw)) (Or.inr (wd_88 hw)) (by decide) (t := (.object kc0)) (t' := .int) (by decide) (by decide)))).other W56 (Or.inr (slot_ne (Or.inr (wd_80 hw)) (Or.inr (wd_90 hw)) (by decide) (t := (.object kc0)) (t' := .int) (by decide) (by decide)))).other W62 (Or.inr (slot_ne (Or.inr (wd_80 hw)) (Or.inr (wd_92 hw)) (by decide) (t := (.object kc0)) (t' := .int) (by decide) (by decide)))).other W68 (Or.inr (slot_ne (Or.inr (wd_80 hw)) (Or.inr (wd_94 hw)) (by decide) (t := (.object kc0)) (t' := (.object "java/util/Map")) (by decide) (by decide)))).other W74 (Or.inr (slot_ne (Or.inr (wd_80 hw)) (Or.inr (wd_96 hw)) (by decide) (t := (.object kc0)) (t' := (.object "java/util/Set")) (by decide) (by decide))))
 have f80 : Fld Z h74 a0 kc1 "side" "Ljava/lang/String;" (.ref a2) := (((((((f33.other W38 (Or.inr (slot_ne (Or.inr (wd_82 hw)) (Or.inr (wd_84 hw)) (by decide) (t := (.object kc0)) (t' := .int) (by decide) (by decide)))).other W44 (Or.inr (slot_ne (Or.inr (wd_82 hw)) (Or.inr (wd_86 hw)) (by decide) (t := (.object kc0)) (t' := .int) (by decide) (by decide)))).other W50 (Or.inr (slot_ne (Or.inr (wd_82 hw)) (Or.inr (wd_88 hw)) (by decide) (t := (.object kc0)) (t' := .int) (by decide) (by decide)))).other W56 (Or.inr (slot_ne (Or.inr (wd_82 hw)) (Or.inr (wd_90 hw)) (by decide) (t := (.object kc0)) (t' := .int) (by decide) (by decide)))).other W62 (Or.inr (slot_ne (Or.inr (wd_82 hw)) (Or.inr (wd_92 hw)) (by decide) (t := (.object kc0)) (t' := .int) (by decide) (by decide)))).other W68 (Or.inr (slot_ne (Or.inr (wd_82 hw)) (Or.inr (wd_94 hw)) (by decide) (t := (.object kc0)) (t' := (.object "java/util/Map")) (by decide) (by decide)))).other W74 (Or.inr (slot_ne (Or.inr (wd_82 hw)) (Or.inr (wd_96 hw)) (by decide) (t := (.object kc0)) (t' := (.object "java/util/Set")) (by decide) (by decide))))
 have f81 : Fld Z h74 a0 kc1 "initiative" "I" (.int p3) := ((((((f39.other W44 (Or.inr (slot_ne (Or.inr (wd_84 hw)) (Or.inr (wd_86 hw)) (by decide) (t := .int) (t' := .int) (by decide) (by decide)))).other W50 (Or.inr (slot_ne (Or.inr (wd_84 hw)) (Or.inr (wd_88 hw)) (by decide) (t := .int) (t' := .int) (by decide) (by decide)))).other W56 (Or.inr (slot_ne (Or.inr (wd_84 hw)) (Or.inr (wd_90 hw)) (by decide) (t := .int) (t' := .int) (by decide) (by decide)))).other W62 (Or.inr (slot_ne (Or.inr (wd_84 hw)) (Or.inr (wd_92 hw)) (by decide) (t := .int) (t' := .int) (by decide) (by decide)))).other W68 (Or.inr (slot_ne (Or.inr (wd_84 hw)) (Or.inr (wd_94 hw)) (by decide) (t := .int) (t' := (.object "java/util/Map")) (by decide) (by decide)))).other W74 (Or.inr (slot_ne (Or.inr (wd_84 hw)) (Or.inr (wd_96 hw)) (by decide) (t := .int) (t' := (.object "java/util/Set")) (by decide) (by decide))))
 have f82 : Fld Z h74 a0 kc1 "agility" "I" (.int p4) := (((((f45.other W50 (Or.inr (slot_ne (Or.inr (wd_86 hw)) (Or.inr (wd_88 hw)) (by decide) (t := .int) (t' := .int) (by decide) (by decide)))).other W56 (Or.inr (slot_ne (Or.inr (wd_86 hw)) (Or.inr (wd_90 hw)) (by decide) (t := .int) (t' := .int) (by decide) (by decide)))).other W62 (Or.inr (slot_ne (Or.inr (wd_86 hw)) (Or.inr (wd_92 hw)) (by decide) (t := .int) (t' := .int) (by decide) (by decide)))).other W68 (Or.inr (slot_ne (Or.inr (wd_86 hw)) (Or.inr (wd_94 hw)) (by decide) (t := .int) (t' := (.object "java/util/Map")) (by decide) (by decide)))).other W74 (Or.inr (slot_ne (Or.inr (wd_86 hw)) (Or.inr (wd_96 hw)) (by decide) (t := .int) (t' := (.object "java/util/Set")) (by decide) (by decide))))
 have f83 : Fld Z h74 a0 kc1 "vitality" "I" (.int p5) := ((((f51.other W56 (Or.inr (slot_ne (Or.inr (wd_88 hw)) (Or.inr (wd_90 hw)) (by decide) (t := .int) (t' := .int) (by decide) (by decide)))).other W62 (Or.inr (slot_ne (Or.inr (wd_88 hw)) (Or.inr (wd_92 hw)) (by decide) (t := .int) (t' := .int) (by decide) (by decide)))).other W68 (Or.inr (slot_ne (Or.inr (wd_88 hw)) (Or.inr (wd_94 hw)) (by decide) (t := .int) (t' := (.object "java/util/Map")) (by decide) (by decide)))).other W74 (Or.inr (slot_ne (Or.inr (wd_88 hw)) (Or.inr (wd_96 hw)) (by decide) (t := .int) (t' := (.object "java/util/Set")) (by decide) (by decide))))
 have f84 : Fld Z h74 a0 kc1 "fortitude" "I" (.int p6) := (((f57.other W62 (Or.inr (slot_ne (Or.inr (wd_90 hw)) (Or.inr (wd_92 hw)) (by decide) (t := .int) (t' := .int) (by decide) (by decide)))).other W68 (Or.inr (slot_ne (Or.inr (wd_90 hw)) (Or.inr (wd_94 hw)) (by decide) (t := .int) (t' := (.object "java/util/Map")) (by decide) (by decide)))).other W74 (Or.inr (slot_ne (Or.inr (wd_90 hw)) (Or.inr (wd_96 hw)) (by decide) (t := .int) (t' := (.object "java/util/Set")) (by decide) (by decide))))
 have f85 : Fld Z h74 a0 kc1 "extraPoints" "I" (.int p7) := ((f63.other W68 (Or.inr (slot_ne (Or.inr (wd_92 hw)) (Or.inr (wd_94 hw)) (by decide) (t := .int) (t' := (.object "java/util/Map")) (by decide) (by decide)))).other W74 (Or.inr (slot_ne (Or.inr (wd_92 hw)) (Or.inr (wd_96 hw)) (by decide) (t := .int) (t' := (.object "java/util/Set")) (by decide) (by decide))))
 have f86 : Fld Z h74 a0 kc1 "resistances" "Ljava/util/Map;" (.ref jj0) := (f69.other W74 (Or.inr (slot_ne (Or.inr (wd_94 hw)) (Or.inr (wd_96 hw)) (by decide) (t := (.object "java/util/Map")) (t' := (.object "java/util/Set")) (by decide) (by decide))))
 exact w_done X74 hlk (v := none) e74 (fun _ => rfl) (fun fs hr => X74.returnOut hx hret (d13_69 hby) hr) (by decide) (by decide) (⟨rfl, N77, K76, f78, f79, f80, f81, f82, f83, f84, f85, f86, f75⟩)
theorem ef_m19_13 (m : MethodId) (a0 : Addr) (a1 : Addr) (a2 : Addr) (p3 : Int32)  : entryFrame m #[(.ref a0), (.ref a1), (.ref a2), (.int p3), (.int (0 : Int32))] 5 = mkF m 0 #[.val (.ref a0), .val (.ref a1), .val (.ref a2), .val (.int p3), .val (.int (0 : Int32))] [] := by first | (simp [entryFrame, mkF, argsToLocals, Value.category]; done) | rfl
def Q_m19_13 (Z : State) (a0 : Addr) (a1 : Addr) (a2 : Addr) (p3 : Int32) (h0 : Heap) (n0 : Nat) (v : Option Value) (h : Heap) (L : List Loc) : Prop := v = none ∧ Fr n0 L ∧ Keep h0 h [a0] ∧ Exa Z h a0 kc2 ∧ Fld Z h a0 kc2 "name" "Ljava/lang/String;" (.ref a1) ∧ Fld Z h a0 kc2 "side" "Ljava/lang/String;" (.ref a2) ∧ Fld Z h a0 kc2 "initiative" "I" (.int p3) ∧ Fld Z h a0 kc2 "simultaneous" "Z" (.int (0 : Int32))
theorem rm_m19_13 (l : Launch) (Z : State) (aZ : Array Value) (hw : ∀ d ∈ tables_1, d.before aZ Z = true) (ws : List Jvm.Cond) (a0 : Addr) (a1 : Addr) (a2 : Addr) (p3 : Int32) (h0 : Heap) (n0 : Nat) (Z0 : n0 ≤ h0.size) (E_a0 : Exa Z h0 a0 kc2) (zz0 : Fld Z h0 a0 kc2 "name" "Ljava/lang/String;" .null) (zz1 : n0 ≤ a0) (zz2 : Fld Z h0 a0 kc2 "side" "Ljava/lang/String;" .null) (zz3 : Fld Z h0 a0 kc2 "initiative" "I" (.int (0 : Int32))) (zz4 : Fld Z h0 a0 kc2 "simultaneous" "Z" (.int (0 : Int32))) :
    MetN l Z yn_19 prog_3_method_2_code 5 none ws ({ frames := 2, cells := 0, slots := 0, locals := 24 } : Room) #[(.ref a0), (.ref a1), (.ref a2), (.int p3), (.int (0 : Int32))] h0 (Q_m19_13 Z a0 a1 a2 p3 h0 n0) := by
 refine MetN.of (plainFor_of_name pn_6) ?_
 intro p e s m below meth c s₁ hret hx hby hml hown hnm hlk hZ X0 e0
 have N0 := Fr.nil n0
 rw [ef_m19_13 m a0 a1 a2 p3]
 refine w_aloadN X0 hx (d19_0 hby) rfl rfl (pc' := 1) rfl ?_
 refine w_special X0 hx (y := yn_14) rfl hown (mvT hZ (wd_111 hw)) (mvT hZ (wd_62 hw)) (mvT hZ (wd_65 hw)) (by decide) (backOf (W := 0) (rm_m14_8 l Z aZ hw [] a0 h0 n0 Z0 ) hZ (wd_65 hw) (wd_64 hw) (by decide) (by decide)) (by rw [hml]; rfl) [] (lenOf pd_7 rfl) rfl (Nat.le_of_eq rfl) (d19_1 hby) (fun _ _ => ⟨rfl, e0, (by decide : 0 + 0 ≤ _), (by decide : 0 + 0 ≤ _)⟩) (pc' := 4) rfl ?_
 rintro _ _ ⟨T20, L20, k20, n20⟩ X20 ⟨Lc20, hQ20, l20, y20, z20⟩
 dsimp only [Pt.U, Pt.locs, Pt.cells, Pt.slots] at X20 l20 y20 z20 hQ20 ⊢
 subst l20 y20 z20
 obtain ⟨rfl, N20q, e20⟩ := hQ20
 have N21 := Fr.app N0 N20q
 show Runs _ _ _ _ (T20.setTop (mkF m 4 #[.val (.ref a0), .val (.ref a1), .val (.ref a2), .val (.int p3), .val (.int (0 : Int32))] []))
 refine w_aloadN X20 hx (d19_4 hby) rfl rfl (pc' := 5) rfl ?_
 refine w_aloadN X20 hx (d19_5 hby) rfl rfl (pc' := 6) rfl ?_
 refine w_putF X20 hx "" hZ hown (Or.inl (wd_112 hw)) Via.refl e20 zz0 E_a0 (Or.inr ⟨(wd_113 hw), rfl, hnm⟩) (wd_103 hw) (ty := (.object kc0)) (by decide) rfl rfl (d19_6 hby) (pc' := 9) rfl ?_
 intro T22 h22 X22 e22 W22
 have f23 : Fld Z h22 a0 kc2 "name" "Ljava/lang/String;" (.ref a1) := zz0.same W22
 have K24 : Keep h0 h22 [a0] := (Keep.refl h0 [a0]).wr W22 (Or.inl (by simp))
 have N25 := Fr.snoc X22 N21 zz1
 refine w_aloadN X22 hx (d19_9 hby) rfl rfl (pc' := 10) rfl ?_
 refine w_aloadN X22 hx (d19_10 hby) rfl rfl (pc' := 11) rfl ?_
 have f26 : Exa Z h22 a0 kc2 := (E_a0.wr W22)
 have f27 : Fld Z h22 a0 kc2 "side" "Ljava/lang/String;" .null := (zz2.other W22 (Or.inr (slot_ne (Or.inr (wd_115 hw)) (Or.inr (wd_113 hw)) (by decide) (t := (.object kc0)) (t' := (.object kc0)) (by decide) (by decide))))
 refine w_putF X22 hx "" hZ hown (Or.inl (wd_114 hw)) Via.refl e22 f27 f26 (Or.inr ⟨(wd_115 hw), rfl, hnm⟩) (wd_103 hw) (ty := (.object kc0)) (by decide) rfl rfl (d19_11 hby) (pc' := 14) rfl ?_
 intro T28 h28 X28 e28 W28
 have f29 : Fld Z h28 a0 kc2 "side" "Ljava/lang/String;" (.ref a2) := f27.same W28
 have K30 : Keep h0 h28 [a0] := K24.wr W28 (Or.inl (by simp))
 have N31 := Fr.snoc X28 N25 zz1
 refine w_aloadN X28 hx (d19_14 hby) rfl rfl (pc' := 15) rfl ?_
 refine w_iloadN X28 hx (d19_15 hby) rfl (pc' := 16) rfl ?_
 have f32 : Exa Z h28 a0 kc2 := (f26.wr W28)
 have f33 : Fld Z h28 a0 kc2 "initiative" "I" (.int (0 : Int32)) := ((zz3.other W22 (Or.inr (slot_ne (Or.inr (wd_117 hw)) (Or.inr (wd_113 hw)) (by decide) (t := .int) (t' := (.object kc0)) (by decide) (by decide)))).other W28 (Or.inr (slot_ne (Or.inr (wd_117 hw)) (Or.inr (wd_115 hw)) (by decide) (t := .int) (t' := (.object kc0)) (by decide) (by decide))))
 refine w_putF X28 hx "" hZ hown (Or.inl (wd_116 hw)) Via.refl e28 f33 f32 (Or.inr ⟨(wd_117 hw), rfl, hnm⟩) (wd_103 hw) (ty := .int) (by decide) rfl rfl (d19_16 hby) (pc' := 19) rfl ?_
 intro T34 h34 X34 e34 W34
 have f35 : Fld Z h34 a0 kc2 "initiative" "I" (.int p3) := f33.same W34
 have K36 : Keep h0 h34 [a0] := K30.wr W34 (Or.inl (by simp))
 have N37 := Fr.snoc X34 N31 zz1
 refine w_aloadN X34 hx (d19_19 hby) rfl rfl (pc' := 20) rfl ?_
 refine w_iload X34 hx (d19_20 hby) rfl (pc' := 22) rfl ?_
 have f38 : Exa Z h34 a0 kc2 := (f32.wr W34)
 have f39 : Fld Z h34 a0 kc2 "simultaneous" "Z" (.int (0 : Int32)) := (((zz4.other W22 (Or.inr (slot_ne (Or.inr (wd_119 hw)) (Or.inr (wd_113 hw)) (by decide) (t := .boolean) (t' := (.object kc0)) (by decide) (by decide)))).other W28 (Or.inr (slot_ne (Or.inr (wd_119 hw)) (Or.inr (wd_115 hw)) (by decide) (t := .boolean) (t' := (.object kc0)) (by decide) (by decide)))).other W34 (Or.inr (slot_ne (Or.inr (wd_119 hw)) (Or.inr (wd_117 hw)) (by decide) (t := .boolean) (t' := .int) (by decide) (by decide))))
 refine w_putF X34 hx "" hZ hown (Or.inl (wd_118 hw)) Via.refl e34 f39 f38 (Or.inr ⟨(wd_119 hw), rfl, hnm⟩) (wd_103 hw) (ty := .boolean) (by decide) rfl rfl (d19_22 hby) (pc' := 25) rfl ?_
 intro T40 h40 X40 e40 W40
 have f41 : Fld Z h40 a0 kc2 "simultaneous" "Z" (.int (0 : Int32)) := f39.same W40
 have K42 : Keep h0 h40 [a0] := K36.wr W40 (Or.inl (by simp))
 have N43 := Fr.snoc X40 N37 zz1
 have f44 : Exa Z h40 a0 kc2 := (f38.wr W40)
 have f45 : Fld Z h40 a0 kc2 "name" "Ljava/lang/String;" (.ref a1) := (((f23.other W28 (Or.inr (slot_ne (Or.inr (wd_113 hw)) (Or.inr (wd_115 hw)) (by decide) (t := (.object kc0)) (t' := (.object kc0)) (by decide) (by decide)))).other W34 (Or.inr (slot_ne (Or.inr (wd_113 hw)) (Or.inr (wd_117 hw)) (by decide) (t := (.object kc0)) (t' := .int) (by decide) (by decide)))).other W40 (Or.inr (slot_ne (Or.inr (wd_113 hw)) (Or.inr (wd_119 hw)) (by decide) (t := (.object kc0)) (t' := .boolean) (by decide) (by decide))))
 have f46 : Fld Z h40 a0 kc2 "side" "Ljava/lang/String;" (.ref a2) := ((f29.other W34 (Or.inr (slot_ne (Or.inr (wd_115 hw)) (Or.inr (wd_117 hw)) (by decide) (t := (.object kc0)) (t' := .int) (by decide) (by decide)))).other W40 (Or.inr (slot_ne (Or.inr (wd_115 hw)) (Or.inr (wd_119 hw)) (by decide) (t := (.object kc0)) (t' := .boolean) (by decide) (by decide))))
 have f47 : Fld Z h40 a0 kc2 "initiative" "I" (.int p3) := (f35.other W40 (Or.inr (slot_ne (Or.inr (wd_117 hw)) (Or.inr (wd_119 hw)) (by decide) (t := .int) (t' := .boolean) (by decide) (by decide))))
 exact w_done X40 hlk (v := none) e40 (fun _ => rfl) (fun fs hr => X40.returnOut hx hret (d19_25 hby) hr) (by decide) (by decide) (⟨rfl, N43, K42, f44, f45, f46, f47, f41⟩)
theorem ef_m18_12 (m : MethodId) (a0 : Addr) (a1 : Addr) (a2 : Addr) (p3 : Int32)  : entryFrame m #[(.ref a0), (.ref a1), (.ref a2), (.int p3)] 4 = mkF m 0 #[.val (.ref a0), .val (.ref a1), .val (.ref a2), .val (.int p3)] [] := by first | (simp [entryFrame, mkF, argsToLocals, Value.category]; done) | rfl
def Q_m18_12 (Z : State) (a0 : Addr) (a1 : Addr) (a2 : Addr) (p3 : Int32) (h0 : Heap) (n0 : Nat) (v : Option Value) (h : Heap) (L : List Loc) : Prop := v = none ∧ Fr n0 L ∧ Keep h0 h [a0] ∧ Exa Z h a0 kc2 ∧ Fld Z h a0 kc2 "name" "Ljava/lang/String;" (.ref a1) ∧ Fld Z h a0 kc2 "side" "Ljava/lang/String;" (.ref a2) ∧ Fld Z h a0 kc2 "initiative" "I" (.int p3) ∧ Fld Z h a0 kc2 "simultaneous" "Z" (.int (0 : Int32))
theorem rm_m18_12 (l : Launch) (Z : State) (aZ : Array Value) (hw : ∀ d ∈ tables_1, d.before aZ Z = true) (ws : List Jvm.Cond) (a0 : Addr) (a1 : Addr) (a2 : Addr) (p3 : Int32) (h0 : Heap) (n0 : Nat) (Z0 : n0 ≤ h0.size) (E_a0 : Exa Z h0 a0 kc2) (zz0 : Fld Z h0 a0 kc2 "name" "Ljava/lang/String;" .null) (zz1 : Fld Z h0 a0 kc2 "side" "Ljava/lang/String;" .null) (zz2 : Fld Z h0 a0 kc2 "initiative" "I" (.int (0 : Int32))) (zz3 : Fld Z h0 a0 kc2 "simultaneous" "Z" (.int (0 : Int32))) (zz4 : n0 ≤ a0) :
    MetN l Z yn_18 prog_3_method_1_code 4 none ws ({ frames := 3, cells := 0, slots := 0, locals := 40 } : Room) #[(.ref a0), (.ref a1), (.ref a2), (.int p3)] h0 (Q_m18_12 Z a0 a1 a2 p3 h0 n0) := by
 refine MetN.of (plainFor_of_name pn_6) ?_
 intro p e s m below meth c s₁ hret hx hby hml hown hnm hlk hZ X0 e0
 have N0 := Fr.nil n0
 rw [ef_m18_12 m a0 a1 a2 p3]
 refine w_aloadN X0 hx (d18_0 hby) rfl rfl (pc' := 1) rfl ?_
 refine w_aloadN X0 hx (d18_1 hby) rfl rfl (pc' := 2) rfl ?_
 refine w_aloadN X0 hx (d18_2 hby) rfl rfl (pc' := 3) rfl ?_
 refine w_iloadN X0 hx (d18_3 hby) rfl (pc' := 4) rfl ?_
 refine w_iconst X0 hx (d18_4 hby) (v := (0 : Int32)) rfl (pc' := 5) rfl ?_
 refine w_special X0 hx (y := yn_19) rfl hown (mvT hZ (wd_108 hw)) (mvT hZ (wd_109 hw)) (mvT hZ (wd_110 hw)) (by decide) (backOf (W := 0) (rm_m19_13 l Z aZ hw [] a0 a1 a2 p3 h0 n0 Z0 E_a0 zz0 zz4 zz1 zz2 zz3) hZ (wd_110 hw) (wd_104 hw) (by decide) (by decide)) (by rw [hml]; rfl) [(.ref a1), (.ref a2), (.int p3), (.int (0 : Int32))] (lenOf pd_11 rfl) rfl (Nat.le_of_eq rfl) (d18_5 hby) (fun _ _ => ⟨rfl, e0, (by decide : 0 + 0 ≤ _), (by decide : 0 + 0 ≤ _)⟩) (pc' := 8) rfl ?_
 rintro _ _ ⟨T20, L20, k20, n20⟩ X20 ⟨Lc20, hQ20, l20, y20, z20⟩
 dsimp only [Pt.U, Pt.locs, Pt.cells, Pt.slots] at X20 l20 y20 z20 hQ20 ⊢
 subst l20 y20 z20
 obtain ⟨rfl, N20q, K20, g20_0, g20_1, g20_2, g20_3, g20_4⟩ := hQ20
 have N21 := Fr.app N0 N20q
 have K22 : Keep h0 T20.heap [a0] := (Keep.refl h0 [a0]).trans K20 (allS (Or.inl (by simp)) (all0 (P := fun x => x ∈ [a0] ∨ h0.size ≤ x)))
 show Runs _ _ _ _ (T20.setTop (mkF m 8 #[.val (.ref a0), .val (.ref a1), .val (.ref a2), .val (.int p3)] []))
 exact w_done X20 hlk (v := none) rfl (fun _ => rfl) (fun fs hr => X20.returnOut hx hret (d18_8 hby) hr) (by decide) (by decide) (⟨rfl, N21, K22, g20_0, g20_1, g20_2, g20_3, g20_4⟩)
theorem ef_m17_11 (m : MethodId) (a0 : Addr)  : entryFrame m #[(.ref a0)] 1 = mkF m 0 #[.val (.ref a0)] [] := by first | (simp [entryFrame, mkF, argsToLocals, Value.category]; done) | rfl
def Q_m17_11 (Z : State) (a0 : Addr) (jj0 : Addr) (jj1 : Addr) (jj2 : Int32) (h0 : Heap) (n0 : Nat) (v : Option Value) (h : Heap) (L : List Loc) : Prop := ∃ (r0 : Addr), v = some (.ref r0) ∧ Fr n0 L ∧ Keep h0 h [] ∧ h0.size ≤ r0 ∧ Exa Z h r0 kc2 ∧ Fld Z h r0 kc2 "name" "Ljava/lang/String;" (.ref jj0) ∧ Fld Z h r0 kc2 "side" "Ljava/lang/String;" (.ref jj1) ∧ Fld Z h r0 kc2 "initiative" "I" (.int jj2) ∧ Fld Z h r0 kc2 "simultaneous" "Z" (.int (0 : Int32))
theorem rm_m17_11 (l : Launch) (Z : State) (aZ : Array Value) (hw : ∀ d ∈ tables_1, d.before aZ Z = true) (ws : List Jvm.Cond) (a0 : Addr) (jj0 : Addr) (jj1 : Addr) (jj2 : Int32) (h0 : Heap) (n0 : Nat) (Z0 : n0 ≤ h0.size) (zz3 : Fld Z h0 a0 kc1 "name" "Ljava/lang/String;" (.ref jj0)) (zz4 : Fld Z h0 a0 kc1 "side" "Ljava/lang/String;" (.ref jj1)) (zz5 : Fld Z h0 a0 kc1 "initiative" "I" (.int jj2)) :
    MetN l Z yn_17 prog_6_method_2_code 1 (some (.object kc2)) ws ({ frames := 4, cells := 1, slots := 4, locals := 56 } : Room) #[(.ref a0)] h0 (Q_m17_11 Z a0 jj0 jj1 jj2 h0 n0) := by
 refine MetN.of (plainFor_of_name pn_5) ?_
 intro p e s m below meth c s₁ hret hx hby hml hown hnm hlk hZ X0 e0
 have N0 := Fr.nil n0
 rw [ef_m17_11 m a0]
 refine w_new X0 hx hZ hown (wd_102 hw) (wd_103 hw) (wd_104 hw) e0 (d17_0 hby) (by decide) (by decide) (pc' := 3) rfl ?_
 intro T20 h20 b20 X20 e20 E20 g20 A20 D20
 have ge21 : n0 ≤ b20 := Nat.le_trans Z0 (Nat.le_of_eq g20.symm)
 have sz22 : h0.size ≤ b20 := Nat.le_trans (Nat.le_refl _) (Nat.le_of_eq g20.symm)
 have K23 : Keep h0 h20 [] := (Keep.refl h0 []).ext E20
 have f24 : Fld Z h20 b20 kc2 "name" "Ljava/lang/String;" .null := D20 (Or.inr (wd_113 hw)) (ty := (.object kc0)) (by decide)
 have f25 : Fld Z h20 b20 kc2 "side" "Ljava/lang/String;" .null := D20 (Or.inr (wd_115 hw)) (ty := (.object kc0)) (by decide)
 have f26 : Fld Z h20 b20 kc2 "initiative" "I" (.int (0 : Int32)) := D20 (Or.inr (wd_117 hw)) (ty := .int) (by decide)
 have f27 : Fld Z h20 b20 kc2 "simultaneous" "Z" (.int (0 : Int32)) := D20 (Or.inr (wd_119 hw)) (ty := .boolean) (by decide)
 refine w_dup X20 hx (d17_3 hby) rfl (pc' := 4) rfl ?_
 refine w_aloadN X20 hx (d17_4 hby) rfl rfl (pc' := 5) rfl ?_
 have f28 : Fld Z h20 a0 kc1 "name" "Ljava/lang/String;" (.ref jj0) := (zz3.ext E20)
 refine w_getF X20 hx "" hZ hown (Or.inl (wd_79 hw)) Via.refl e20 f28 (d17_5 hby) (pc' := 8) rfl ?_
 intro T29 X29 e29
 refine w_aloadN X29 hx (d17_8 hby) rfl rfl (pc' := 9) rfl ?_
 have f30 : Fld Z h20 a0 kc1 "side" "Ljava/lang/String;" (.ref jj1) := (zz4.ext E20)
 refine w_getF X29 hx "" hZ hown (Or.inl (wd_81 hw)) Via.refl e29 f30 (d17_9 hby) (pc' := 12) rfl ?_
 intro T31 X31 e31
 refine w_aloadN X31 hx (d17_12 hby) rfl rfl (pc' := 13) rfl ?_
 have f32 : Fld Z h20 a0 kc1 "initiative" "I" (.int jj2) := (zz5.ext E20)
 refine w_getF X31 hx "" hZ hown (Or.inl (wd_83 hw)) Via.refl e31 f32 (d17_13 hby) (pc' := 16) rfl ?_
 intro T33 X33 e33
 refine w_special X33 hx (y := yn_18) rfl hown (mvT hZ (wd_105 hw)) (mvT hZ (wd_106 hw)) (mvT hZ (wd_107 hw)) (by decide) (backOf (W := 1) (rm_m18_12 l Z aZ hw [] b20 jj0 jj1 jj2 h20 n0 (Nat.le_trans Z0 E20.1) A20 f24 f25 f26 f27 ge21) hZ (wd_107 hw) (wd_104 hw) (by decide) (by decide)) (by rw [hml]; rfl) [(.ref jj0), (.ref jj1), (.int jj2)] (lenOf pd_12 rfl) rfl (Nat.le_of_eq rfl) (d17_16 hby) (fun _ _ => ⟨rfl, e33, (by decide : 1 + 0 ≤ _), (by decide : 4 + 0 ≤ _)⟩) (pc' := 19) rfl ?_
 rintro _ _ ⟨T34, L34, k34, n34⟩ X34 ⟨Lc34, hQ34, l34, y34, z34⟩
 dsimp only [Pt.U, Pt.locs, Pt.cells, Pt.slots] at X34 l34 y34 z34 hQ34 ⊢
 subst l34 y34 z34
 obtain ⟨rfl, N34q, K34, g34_0, g34_1, g34_2, g34_3, g34_4⟩ := hQ34
 have N35 := Fr.app N0 N34q
 have K36 : Keep h0 T34.heap [] := K23.trans K34 (allS (Or.inr sz22) (all0 (P := fun x => x ∈ [] ∨ h0.size ≤ x)))
 show Runs _ _ _ _ (T34.setTop (mkF m 19 #[.val (.ref a0)] [(.ref b20)]))
 exact w_done X34 hlk (v := some (.ref b20)) rfl (fun h => by rw [hret] at h; cases h) (fun fs hr => retOut X34 hx hret rfl (Or.inr (Or.inr (Or.inr (Or.inr ⟨rfl, rfl, rfl⟩)))) (d17_19 hby) hr) (by decide) (by decide) (⟨b20, rfl, N35, K36, sz22, g34_0, g34_1, g34_2, g34_3, g34_4⟩)
theorem ef_m20_14 (m : MethodId) (a0 : Addr)  : entryFrame m #[(.ref a0)] 1 = mkF m 0 #[.val (.ref a0)] [] := by first | (simp [entryFrame, mkF, argsToLocals, Value.category]; done) | rfl
def Q_m20_14 (Z : State) (a0 : Addr) (jj0 : Addr) (h0 : Heap) (n0 : Nat) (v : Option Value) (h : Heap) (L : List Loc) : Prop := v = some (.ref jj0) ∧ Fr n0 L ∧ h = h0
theorem rm_m20_14 (l : Launch) (Z : State) (aZ : Array Value) (hw : ∀ d ∈ tables_1, d.before aZ Z = true) (ws : List Jvm.Cond) (a0 : Addr) (jj0 : Addr) (h0 : Heap) (n0 : Nat) (Z0 : n0 ≤ h0.size) (zz1 : Fld Z h0 a0 kc2 "name" "Ljava/lang/String;" (.ref jj0)) :
    MetN l Z yn_20 prog_3_method_6_code 1 (some (.object kc0)) ws ({ frames := 0, cells := 0, slots := 0, locals := 0 } : Room) #[(.ref a0)] h0 (Q_m20_14 Z a0 jj0 h0 n0) := by
 refine MetN.of (plainFor_of_name pn_6) ?_
 intro p e s m below meth c s₁ hret hx hby hml hown hnm hlk hZ X0 e0
 have N0 := Fr.nil n0
 rw [ef_m20_14 m a0]
 refine w_aloadN X0 hx (d20_0 hby) rfl rfl (pc' := 1) rfl ?_
 refine w_getF X0 hx "" hZ hown (Or.inl (wd_112 hw)) Via.refl e0 zz1 (d20_1 hby) (pc' := 4) rfl ?_
 intro T20 X20 e20
 exact w_done X20 hlk (v := some (.ref jj0)) e20 (fun h => by rw [hret] at h; cases h) (fun fs hr => retOut X20 hx hret rfl (Or.inr (Or.inr (Or.inr (Or.inr ⟨rfl, rfl, rfl⟩)))) (d20_4 hby) hr) (by decide) (by decide) (⟨rfl, N0, rfl⟩)
theorem ef_m21_15 (m : MethodId) (a0 : Addr)  : entryFrame m #[(.ref a0)] 1 = mkF m 0 #[.val (.ref a0)] [] := by first | (simp [entryFrame, mkF, argsToLocals, Value.category]; done) | rfl
def Q_m21_15 (Z : State) (a0 : Addr) (jj0 : Addr) (h0 : Heap) (n0 : Nat) (v : Option Value) (h : Heap) (L : List Loc) : Prop := v = some (.ref jj0) ∧ Fr n0 L ∧ h = h0
theorem rm_m21_15 (l : Launch) (Z : State) (aZ : Array Value) (hw : ∀ d ∈ tables_1, d.before aZ Z = true) (ws : List Jvm.Cond) (a0 : Addr) (jj0 : Addr) (h0 : Heap) (n0 : Nat) (Z0 : n0 ≤ h0.size) (zz1 : Fld Z h0 a0 kc2 "side" "Ljava/lang/String;" (.ref jj0)) :
    MetN l Z yn_21 prog_3_method_7_code 1 (some (.object kc0)) ws ({ frames := 0, cells := 0, slots := 0, locals := 0 } : Room) #[(.ref a0)] h0 (Q_m21_15 Z a0 jj0 h0 n0) := by
 refine MetN.of (plainFor_of_name pn_6) ?_
 intro p e s m below meth c s₁ hret hx hby hml hown hnm hlk hZ X0 e0
 have N0 := Fr.nil n0
 rw [ef_m21_15 m a0]
 refine w_aloadN X0 hx (d21_0 hby) rfl rfl (pc' := 1) rfl ?_
 refine w_getF X0 hx "" hZ hown (Or.inl (wd_114 hw)) Via.refl e0 zz1 (d21_1 hby) (pc' := 4) rfl ?_
 intro T20 X20 e20
 exact w_done X20 hlk (v := some (.ref jj0)) e20 (fun h => by rw [hret] at h; cases h) (fun fs hr => retOut X20 hx hret rfl (Or.inr (Or.inr (Or.inr (Or.inr ⟨rfl, rfl, rfl⟩)))) (d21_4 hby) hr) (by decide) (by decide) (⟨rfl, N0, rfl⟩)
theorem ef_m23_17 (m : MethodId) (a0 : Addr)  : entryFrame m #[(.ref a0)] 1 = mkF m 0 #[.val (.ref a0)] [] := by first | (simp [entryFrame, mkF, argsToLocals, Value.category]; done) | rfl
def Q_m23_17 (Z : State) (a0 : Addr) (jj0 : Int32) (h0 : Heap) (n0 : Nat) (v : Option Value) (h : Heap) (L : List Loc) : Prop := v = some (.int (0 : Int32)) ∧ Fr n0 L ∧ h = h0
theorem rm_m23_17 (l : Launch) (Z : State) (aZ : Array Value) (hw : ∀ d ∈ tables_1, d.before aZ Z = true) (ws : List Jvm.Cond) (a0 : Addr) (jj0 : Int32) (h0 : Heap) (n0 : Nat) (Z0 : n0 ≤ h0.size) (zz1 : Sta Z Z.heap kc0 "COMPACT_STRINGS" "Z" (.int jj0)) (O0 : Old Z n0 h0) (hP_2 : ¬ (jj0 = (0 : Int32))) (zz2 : Fld Z h0 a0 kc0 "coder" "B" (.int (0 : Int32))) :
    MetN l Z yn_23 jdk_42_method_152_code 1 (some .byte) ws ({ frames := 0, cells := 0, slots := 0, locals := 0 } : Room) #[(.ref a0)] h0 (Q_m23_17 Z a0 jj0 h0 n0) := by
 refine MetN.of (plainFor_of_name pn_1) ?_
 intro p e s m below meth c s₁ hret hx hby hml hown hnm hlk hZ X0 e0
 have N0 := Fr.nil n0
 rw [ef_m23_17 m a0]
 refine w_getS X0 hx "" hZ hown (Or.inl (wd_14 hw)) Via.refl e0 (zz1.ext O0.2) (d23_0 hby) (pc' := 3) rfl ?_
 intro T20 X20 e20
 refine w_ifN X20 hx (d23_3 hby) (feq hP_2).1 (pc' := 6) rfl ?_
 refine w_aloadN X20 hx (d23_6 hby) rfl rfl (pc' := 7) rfl ?_
 refine w_getF X20 hx "" hZ hown (Or.inl (wd_26 hw)) Via.refl e20 zz2 (d23_7 hby) (pc' := 10) rfl ?_
 intro T21 X21 e21
 refine w_goto X21 hx (d23_10 hby) (pc' := 14) (by decide) (by decide) ?_
 exact w_done X21 hlk (v := some (.int (0 : Int32))) e21 (fun h => by rw [hret] at h; cases h) (fun fs hr => retN X21 hx (t := .byte) hret (by simp) (d23_14 hby) hr) (by decide) (by decide) (⟨rfl, N0, rfl⟩)
theorem ef_m22_16 (m : MethodId) (a0 : Addr)  : entryFrame m #[(.ref a0)] 1 = mkF m 0 #[.val (.ref a0)] [] := by first | (simp [entryFrame, mkF, argsToLocals, Value.category]; done) | rfl
def Q_m22_16 (Z : State) (a0 : Addr) (jj0 : Addr) (jj1 : ClassId) (jj2 : Int32) (jj3 : Int32) (jj4 : Int32) (h0 : Heap) (n0 : Nat) (v : Option Value) (h : Heap) (L : List Loc) : Prop := v = some (.int (2 : Int32)) ∧ Fr n0 L ∧ h = h0
theorem rm_m22_16 (l : Launch) (Z : State) (aZ : Array Value) (hw : ∀ d ∈ tables_1, d.before aZ Z = true) (ws : List Jvm.Cond) (a0 : Addr) (jj0 : Addr) (jj1 : ClassId) (jj2 : Int32) (jj3 : Int32) (jj4 : Int32) (h0 : Heap) (n0 : Nat) (Z0 : n0 ≤ h0.size) (zz5 : Fld Z h0 a0 kc0 "value" "[B" (.ref jj0)) (zz6 : Arv Z h0 jj0 jj1 .byte (2 : Int32) [(.int jj2), (.int jj3)] (.int (0 : Int32))) (E_a0 : Exa Z h0 a0 kc0) (hP_3 : ¬ (jj4 = (0 : Int32))) (zz7 : Fld Z h0 a0 kc0 "coder" "B" (.int (0 : Int32))) (zz8 : Sta Z Z.heap kc0 "COMPACT_STRINGS" "Z" (.int jj4)) (O0 : Old Z n0 h0) :
    MetN l Z yn_22 jdk_42_method_54_code 1 (some .int) ws ({ frames := 1, cells := 0, slots := 0, locals := 13 } : Room) #[(.ref a0)] h0 (Q_m22_16 Z a0 jj0 jj1 jj2 jj3 jj4 h0 n0) := by
 refine MetN.of (plainFor_of_name pn_1) ?_
 intro p e s m below meth c s₁ hret hx hby hml hown hnm hlk hZ X0 e0
 have N0 := Fr.nil n0
 rw [ef_m22_16 m a0]
 refine w_aloadN X0 hx (d22_0 hby) rfl rfl (pc' := 1) rfl ?_
 refine w_getF X0 hx "" hZ hown (Or.inl (wd_28 hw)) Via.refl e0 zz5 (d22_1 hby) (pc' := 4) rfl ?_
 intro T20 X20 e20
 refine w_alen X20 hx hZ e20 zz6 (d22_4 hby) (pc' := 5) rfl ?_
 refine w_aloadN X20 hx (d22_5 hby) rfl rfl (pc' := 6) rfl ?_
 obtain ⟨cq21, kq21, q21a, q21b, q21c⟩ := isOf hZ e20 E_a0
 refine w_virtual X20 hx (y := yn_23) (z := yn_23) hown (mvT hZ (wd_135 hw)) (mvT hZ (wd_136 hw)) (notFace_of_selects (args := #[]) (mvT hZ (wd_138 hw))) (mvT hZ (wd_138 hw)) (mvT hZ (wd_137 hw)) (by decide) (backOf (W := 1) (rm_m23_17 l Z aZ hw [] a0 jj4 h0 n0 Z0 zz8 O0 hP_3 zz7) hZ (wd_139 hw) (wd_2 hw) (by decide) (by decide)) q21a q21c (by rw [hml]; rfl) [] (lenOf pd_15 rfl) rfl (Nat.le_of_eq rfl) (d22_6 hby) (fun _ _ => ⟨rfl, e20, (by decide : 0 + 0 ≤ _), (by decide : 0 + 0 ≤ _)⟩) (pc' := 9) rfl ?_
 rintro _ _ ⟨T21, L21, k21, n21⟩ X21 ⟨Lc21, hQ21, l21, y21, z21⟩
 dsimp only [Pt.U, Pt.locs, Pt.cells, Pt.slots] at X21 l21 y21 z21 hQ21 ⊢
 subst l21 y21 z21
 obtain ⟨rfl, N21q, e21⟩ := hQ21
 have N22 := Fr.app N0 N21q
 show Runs _ _ _ _ (T21.setTop (mkF m 9 #[.val (.ref a0)] [(.int (0 : Int32)), (.int (2 : Int32))]))
 refine w_ishr X21 hx (d22_9 hby) (pc' := 10) rfl ?_
 rw [show ((2 : Int32) >>> ((0 : Int32) &&& 31)) = (2 : Int32) from by decide]
 exact w_done X21 hlk (v := some (.int (2 : Int32))) e21 (fun h => by rw [hret] at h; cases h) (fun fs hr => retI X21 hx hret (d22_10 hby) hr) (by decide) (by decide) (⟨rfl, N22, rfl⟩)
theorem ef_m25_19 (m : MethodId) (a0 : Addr)  : entryFrame m #[(.ref a0)] 1 = mkF m 0 #[.val (.ref a0)] [] := by first | (simp [entryFrame, mkF, argsToLocals, Value.category]; done) | rfl
def Q_m25_19 (Z : State) (a0 : Addr) (jj0 : Int32) (h0 : Heap) (n0 : Nat) (v : Option Value) (h : Heap) (L : List Loc) : Prop := v = some (.int (1 : Int32)) ∧ Fr n0 L ∧ h = h0
theorem rm_m25_19 (l : Launch) (Z : State) (aZ : Array Value) (hw : ∀ d ∈ tables_1, d.before aZ Z = true) (ws : List Jvm.Cond) (a0 : Addr) (jj0 : Int32) (h0 : Heap) (n0 : Nat) (Z0 : n0 ≤ h0.size) (zz1 : Sta Z Z.heap kc0 "COMPACT_STRINGS" "Z" (.int jj0)) (O0 : Old Z n0 h0) (hP_2 : ¬ (jj0 = (0 : Int32))) (zz2 : Fld Z h0 a0 kc0 "coder" "B" (.int (0 : Int32))) :
    MetN l Z yn_25 jdk_42_method_154_code 1 (some .boolean) ws ({ frames := 0, cells := 0, slots := 0, locals := 0 } : Room) #[(.ref a0)] h0 (Q_m25_19 Z a0 jj0 h0 n0) := by
 refine MetN.of (plainFor_of_name pn_1) ?_
 intro p e s m below meth c s₁ hret hx hby hml hown hnm hlk hZ X0 e0
 have N0 := Fr.nil n0
 rw [ef_m25_19 m a0]
 refine w_getS X0 hx "" hZ hown (Or.inl (wd_14 hw)) Via.refl e0 (zz1.ext O0.2) (d25_0 hby) (pc' := 3) rfl ?_
 intro T20 X20 e20
 refine w_ifN X20 hx (d25_3 hby) (feq hP_2).1 (pc' := 6) rfl ?_
 refine w_aloadN X20 hx (d25_6 hby) rfl rfl (pc' := 7) rfl ?_
 refine w_getF X20 hx "" hZ hown (Or.inl (wd_26 hw)) Via.refl e20 zz2 (d25_7 hby) (pc' := 10) rfl ?_
 intro T21 X21 e21
 refine w_ifN X21 hx (d25_10 hby) (teq (by decide : (0 : Int32) = (0 : Int32))).2 (pc' := 13) rfl ?_
 refine w_iconst X21 hx (d25_13 hby) (v := (1 : Int32)) rfl (pc' := 14) rfl ?_
 refine w_goto X21 hx (d25_14 hby) (pc' := 18) (by decide) (by decide) ?_
 exact w_done X21 hlk (v := some (.int (1 : Int32))) e21 (fun h => by rw [hret] at h; cases h) (fun fs hr => retN X21 hx (t := .boolean) hret (by simp) (d25_18 hby) hr) (by decide) (by decide) (⟨rfl, N0, rfl⟩)
theorem ef_m28_22 (m : MethodId) (v2 : Value) (r_v2 : v2.isRef = true) : entryFrame m #[(.int (0 : Int32)), (.int (2 : Int32)), v2] 3 = mkF m 0 #[.val (.int (0 : Int32)), .val (.int (2 : Int32)), .val v2] [] := by
  rcases XT.refc r_v2 with rfl | ⟨z_v2, rfl⟩ <;> first | (simp [entryFrame, mkF, argsToLocals, Value.category]; done) | rfl
def Q_m28_22 (Z : State) (v2 : Value) (h0 : Heap) (n0 : Nat) (v : Option Value) (h : Heap) (L : List Loc) : Prop := v = some (.int (0 : Int32)) ∧ Fr n0 L ∧ h = h0
theorem rm_m28_22 (l : Launch) (Z : State) (aZ : Array Value) (hw : ∀ d ∈ tables_1, d.before aZ Z = true) (ws : List Jvm.Cond) (v2 : Value) (h0 : Heap) (n0 : Nat) (Z0 : n0 ≤ h0.size) (r_v2 : v2.isRef = true) :
    MetN l Z yn_28 jdk_41_method_11_code 3 (some .int) ws ({ frames := 0, cells := 0, slots := 0, locals := 0 } : Room) #[(.int (0 : Int32)), (.int (2 : Int32)), v2] h0 (Q_m28_22 Z v2 h0 n0) := by
 refine MetN.of (plainFor_of_name pn_7) ?_
 intro p e s m below meth c s₁ hret hx hby hml hown hnm hlk hZ X0 e0
 have N0 := Fr.nil n0
 rw [ef_m28_22 m v2 r_v2]
 refine w_iloadN X0 hx (d28_0 hby) rfl (pc' := 1) rfl ?_
 refine w_ifN X0 hx (d28_1 hby) (flt (by decide : ¬ ((0 : Int32) < (0 : Int32)))).1 (pc' := 4) rfl ?_
 refine w_iloadN X0 hx (d28_4 hby) rfl (pc' := 5) rfl ?_
 refine w_iloadN X0 hx (d28_5 hby) rfl (pc' := 6) rfl ?_
 refine w_icY X0 hx (d28_6 hby) (tlt (by decide : (0 : Int32) < (2 : Int32))).1 (pc' := 16) (by decide) (by decide) ?_
 refine w_iloadN X0 hx (d28_16 hby) rfl (pc' := 17) rfl ?_
 exact w_done X0 hlk (v := some (.int (0 : Int32))) e0 (fun h => by rw [hret] at h; cases h) (fun fs hr => retI X0 hx hret (d28_17 hby) hr) (by decide) (by decide) (⟨rfl, N0, rfl⟩)
theorem ef_m27_21 (m : MethodId)   : entryFrame m #[(.int (0 : Int32)), (.int (2 : Int32))] 2 = mkF m 0 #[.val (.int (0 : Int32)), .val (.int (2 : Int32))] [] := by first | (simp [entryFrame, mkF, argsToLocals, Value.category]; done) | rfl
def Q_m27_21 (Z : State) (jj0 : Value) (h0 : Heap) (n0 : Nat) (v : Option Value) (h : Heap) (L : List Loc) : Prop := v = none ∧ Fr n0 L ∧ h = h0
theorem rm_m27_21 (l : Launch) (Z : State) (aZ : Array Value) (hw : ∀ d ∈ tables_1, d.before aZ Z = true) (ws : List Jvm.Cond) (jj0 : Value) (h0 : Heap) (n0 : Nat) (Z0 : n0 ≤ h0.size) (zz1 : jj0.isRef = true) (zz2 : Sta Z Z.heap "jdk/internal/util/Preconditions" "SIOOBE_FORMATTER" "Ljava/util/function/BiFunction;" jj0) (O0 : Old Z n0 h0) :
    MetN l Z yn_27 jdk_42_method_155_code 2 none ws ({ frames := 1, cells := 0, slots := 0, locals := 14 } : Room) #[(.int (0 : Int32)), (.int (2 : Int32))] h0 (Q_m27_21 Z jj0 h0 n0) := by
 refine MetN.of (plainFor_of_name pn_1) ?_
 intro p e s m below meth c s₁ hret hx hby hml hown hnm hlk hZ X0 e0
 have N0 := Fr.nil n0
 rw [ef_m27_21 m ]
 refine w_iloadN X0 hx (d27_0 hby) rfl (pc' := 1) rfl ?_
 refine w_iloadN X0 hx (d27_1 hby) rfl (pc' := 2) rfl ?_
 refine w_getS X0 hx "" hZ hown (Or.inl (wd_156 hw)) Via.refl e0 (zz2.ext O0.2) (d27_2 hby) (pc' := 5) rfl ?_
 intro T20 X20 e20
 refine w_static X20 hx (y := yn_28) hown (mvT hZ (wd_158 hw)) (mvT hZ (wd_159 hw)) (mvT hZ (wd_157 hw)) (mvT hZ (wd_160 hw)) (by decide) (backOf (W := 0) (rm_m28_22 l Z aZ hw [] jj0 h0 n0 Z0 zz1) hZ (wd_160 hw) (wd_157 hw) (by decide) (by decide)) (by rw [hml]; rfl) [(.int (0 : Int32)), (.int (2 : Int32)), jj0] (lenOf pd_18 rfl) rfl (Nat.le_of_eq rfl) (d27_5 hby) (fun _ _ => ⟨rfl, e20, (by decide : 0 + 0 ≤ _), (by decide : 0 + 0 ≤ _)⟩) (pc' := 8) rfl ?_
 rintro _ _ ⟨T21, L21, k21, n21⟩ X21 ⟨Lc21, hQ21, l21, y21, z21⟩
 dsimp only [Pt.U, Pt.locs, Pt.cells, Pt.slots] at X21 l21 y21 z21 hQ21 ⊢
 subst l21 y21 z21
 obtain ⟨rfl, N21q, e21⟩ := hQ21
 have N22 := Fr.app N0 N21q
 show Runs _ _ _ _ (T21.setTop (mkF m 8 #[.val (.int (0 : Int32)), .val (.int (2 : Int32))] [(.int (0 : Int32))]))
 refine w_pop X21 hx (d27_8 hby) rfl (pc' := 9) rfl ?_
 exact w_done X21 hlk (v := none) e21 (fun _ => rfl) (fun fs hr => X21.returnOut hx hret (d27_9 hby) hr) (by decide) (by decide) (⟨rfl, N22, rfl⟩)
theorem ef_m26_20 (m : MethodId) (a0 : Addr)  : entryFrame m #[(.ref a0), (.int (0 : Int32))] 2 = mkF m 0 #[.val (.ref a0), .val (.int (0 : Int32))] [] := by first | (simp [entryFrame, mkF, argsToLocals, Value.category]; done) | rfl
def Q_m26_20 (Z : State) (a0 : Addr) (k_a0 : ClassId) (jj0 : Int32) (jj1 : Int32) (jj2 : Value) (h0 : Heap) (n0 : Nat) (v : Option Value) (h : Heap) (L : List Loc) : Prop := v = some (.int ((jj0 &&& (255 : Int32)).toUInt32.toUInt16.toUInt32.toInt32)) ∧ Fr n0 L ∧ h = h0
theorem rm_m26_20 (l : Launch) (Z : State) (aZ : Array Value) (hw : ∀ d ∈ tables_1, d.before aZ Z = true) (ws : List Jvm.Cond) (a0 : Addr) (k_a0 : ClassId) (jj0 : Int32) (jj1 : Int32) (jj2 : Value) (h0 : Heap) (n0 : Nat) (Z0 : n0 ≤ h0.size) (V_a0 : Arv Z h0 a0 k_a0 .byte (2 : Int32) [(.int jj0), (.int jj1)] (.int (0 : Int32))) (zz3 : jj2.isRef = true) (zz4 : Sta Z Z.heap "jdk/internal/util/Preconditions" "SIOOBE_FORMATTER" "Ljava/util/function/BiFunction;" jj2) (O0 : Old Z n0 h0) :
    MetN l Z yn_26 jdk_43_method_2_code 2 (some .char) ws ({ frames := 2, cells := 0, slots := 0, locals := 27 } : Room) #[(.ref a0), (.int (0 : Int32))] h0 (Q_m26_20 Z a0 k_a0 jj0 jj1 jj2 h0 n0) := by
 refine MetN.of (plainFor_of_name pn_0) ?_
 intro p e s m below meth c s₁ hret hx hby hml hown hnm hlk hZ X0 e0
 have N0 := Fr.nil n0
 rw [ef_m26_20 m a0]
 refine w_iloadN X0 hx (d26_0 hby) rfl (pc' := 1) rfl ?_
 refine w_aloadN X0 hx (d26_1 hby) rfl rfl (pc' := 2) rfl ?_
 refine w_alen X0 hx hZ e0 V_a0 (d26_2 hby) (pc' := 3) rfl ?_
 refine w_static X0 hx (y := yn_27) hown (mvT hZ (wd_153 hw)) (mvT hZ (wd_154 hw)) (mvT hZ (wd_2 hw)) (mvT hZ (wd_155 hw)) (by decide) (backOf (W := 0) (rm_m27_21 l Z aZ hw [] jj2 h0 n0 Z0 zz3 zz4 O0) hZ (wd_155 hw) (wd_2 hw) (by decide) (by decide)) (by rw [hml]; rfl) [(.int (0 : Int32)), (.int (2 : Int32))] (lenOf pd_19 rfl) rfl (Nat.le_of_eq rfl) (d26_3 hby) (fun _ _ => ⟨rfl, e0, (by decide : 0 + 0 ≤ _), (by decide : 0 + 0 ≤ _)⟩) (pc' := 6) rfl ?_
 rintro _ _ ⟨T20, L20, k20, n20⟩ X20 ⟨Lc20, hQ20, l20, y20, z20⟩
 dsimp only [Pt.U, Pt.locs, Pt.cells, Pt.slots] at X20 l20 y20 z20 hQ20 ⊢
 subst l20 y20 z20
 obtain ⟨rfl, N20q, e20⟩ := hQ20
 have N21 := Fr.app N0 N20q
 show Runs _ _ _ _ (T20.setTop (mkF m 6 #[.val (.ref a0), .val (.int (0 : Int32))] []))
 refine w_aloadN X20 hx (d26_6 hby) rfl rfl (pc' := 7) rfl ?_
 refine w_iloadN X20 hx (d26_7 hby) rfl (pc' := 8) rfl ?_
 obtain ⟨clu22, Aru22, qu22, Su22, Nu22, Hu22, Gu22⟩ := id V_a0
 have hinu22 := inb_of (j := (0 : Int32)) Su22 ⟨by decide, by decide⟩
 refine w_baload X20 hx hZ e20 Aru22 hinu22 (Hu22.at hinu22 rfl) (d26_8 hby) (pc' := 9) rfl ?_
 refine w_sipush X20 hx (d26_9 hby) (v := (255 : Int32)) rfl (pc' := 12) rfl ?_
 refine w_iand X20 hx (d26_12 hby) (pc' := 13) rfl ?_
 refine w_i2c X20 hx (d26_13 hby) (pc' := 14) rfl ?_
 exact w_done X20 hlk (v := some (.int ((jj0 &&& (255 : Int32)).toUInt32.toUInt16.toUInt32.toInt32))) e20 (fun h => by rw [hret] at h; cases h) (fun fs hr => retOut X20 hx hret (t := .char) (XT.narrow_c _) (Or.inl ⟨rfl, by simp, _, rfl⟩) (d26_14 hby) hr) (by decide) (by decide) (⟨rfl, N21, rfl⟩)
theorem ef_m24_18 (m : MethodId) (a0 : Addr)  : entryFrame m #[(.ref a0), (.int (0 : Int32))] 2 = mkF m 0 #[.val (.ref a0), .val (.int (0 : Int32))] [] := by first | (simp [entryFrame, mkF, argsToLocals, Value.category]; done) | rfl
def Q_m24_18 (Z : State) (a0 : Addr) (jj0 : Int32) (jj1 : Addr) (jj2 : ClassId) (jj3 : Int32) (jj4 : Int32) (jj5 : Value) (h0 : Heap) (n0 : Nat) (v : Option Value) (h : Heap) (L : List Loc) : Prop := v = some (.int ((jj3 &&& (255 : Int32)).toUInt32.toUInt16.toUInt32.toInt32)) ∧ Fr n0 L ∧ h = h0
theorem rm_m24_18 (l : Launch) (Z : State) (aZ : Array Value) (hw : ∀ d ∈ tables_1, d.before aZ Z = true) (ws : List Jvm.Cond) (a0 : Addr) (jj0 : Int32) (jj1 : Addr) (jj2 : ClassId) (jj3 : Int32) (jj4 : Int32) (jj5 : Value) (h0 : Heap) (n0 : Nat) (Z0 : n0 ≤ h0.size) (E_a0 : Exa Z h0 a0 kc0) (hP_1 : ¬ (jj0 = (0 : Int32))) (zz6 : Fld Z h0 a0 kc0 "coder" "B" (.int (0 : Int32))) (zz7 : Sta Z Z.heap kc0 "COMPACT_STRINGS" "Z" (.int jj0)) (O0 : Old Z n0 h0) (zz8 : Fld Z h0 a0 kc0 "value" "[B" (.ref jj1)) (zz9 : Arv Z h0 jj1 jj2 .byte (2 : Int32) [(.int jj3), (.int jj4)] (.int (0 : Int32))) (zz10 : jj5.isRef = true) (zz11 : Sta Z Z.heap "jdk/internal/util/Preconditions" "SIOOBE_FORMATTER" "Ljava/util/function/BiFunction;" jj5) :
    MetN l Z yn_24 jdk_42_method_56_code 2 (some .char) ws ({ frames := 3, cells := 0, slots := 0, locals := 40 } : Room) #[(.ref a0), (.int (0 : Int32))] h0 (Q_m24_18 Z a0 jj0 jj1 jj2 jj3 jj4 jj5 h0 n0) := by
 refine MetN.of (plainFor_of_name pn_1) ?_
 intro p e s m below meth c s₁ hret hx hby hml hown hnm hlk hZ X0 e0
 have N0 := Fr.nil n0
 rw [ef_m24_18 m a0]
 refine w_aloadN X0 hx (d24_0 hby) rfl rfl (pc' := 1) rfl ?_
 obtain ⟨cq20, kq20, q20a, q20b, q20c⟩ := isOf hZ e0 E_a0
 refine w_virtual X0 hx (y := yn_25) (z := yn_25) hown (mvT hZ (wd_145 hw)) (mvT hZ (wd_146 hw)) (notFace_of_selects (args := #[]) (mvT hZ (wd_148 hw))) (mvT hZ (wd_148 hw)) (mvT hZ (wd_147 hw)) (by decide) (backOf (W := 0) (rm_m25_19 l Z aZ hw [] a0 jj0 h0 n0 Z0 zz7 O0 hP_1 zz6) hZ (wd_149 hw) (wd_2 hw) (by decide) (by decide)) q20a q20c (by rw [hml]; rfl) [] (lenOf pd_17 rfl) rfl (Nat.le_of_eq rfl) (d24_1 hby) (fun _ _ => ⟨rfl, e0, (by decide : 0 + 0 ≤ _), (by decide : 0 + 0 ≤ _)⟩) (pc' := 4) rfl ?_
 rintro _ _ ⟨T20, L20, k20, n20⟩ X20 ⟨Lc20, hQ20, l20, y20, z20⟩
 dsimp only [Pt.U, Pt.locs, Pt.cells, Pt.slots] at X20 l20 y20 z20 hQ20 ⊢
 subst l20 y20 z20
 obtain ⟨rfl, N20q, e20⟩ := hQ20
 have N21 := Fr.app N0 N20q
 show Runs _ _ _ _ (T20.setTop (mkF m 4 #[.val (.ref a0), .val (.int (0 : Int32))] [(.int (1 : Int32))]))
 refine w_ifN X20 hx (d24_4 hby) (feq (by decide : ¬ ((1 : Int32) = (0 : Int32)))).1 (pc' := 7) rfl ?_
 refine w_aloadN X20 hx (d24_7 hby) rfl rfl (pc' := 8) rfl ?_
 refine w_getF X20 hx "" hZ hown (Or.inl (wd_28 hw)) Via.refl e20 zz8 (d24_8 hby) (pc' := 11) rfl ?_
 intro T22 X22 e22
 refine w_iloadN X22 hx (d24_11 hby) rfl (pc' := 12) rfl ?_
 refine w_static X22 hx (y := yn_26) hown (mvT hZ (wd_150 hw)) (mvT hZ (wd_151 hw)) (mvT hZ (wd_35 hw)) (mvT hZ (wd_152 hw)) (by decide) (backOf (W := 0) (rm_m26_20 l Z aZ hw [] jj1 jj2 jj3 jj4 jj5 h0 n0 Z0 zz9 zz10 zz11 O0) hZ (wd_152 hw) (wd_35 hw) (by decide) (by decide)) (by rw [hml]; rfl) [(.ref jj1), (.int (0 : Int32))] (lenOf pd_20 rfl) rfl (Nat.le_of_eq rfl) (d24_12 hby) (fun _ _ => ⟨rfl, e22, (by decide : 0 + 0 ≤ _), (by decide : 0 + 0 ≤ _)⟩) (pc' := 15) rfl ?_
 rintro _ _ ⟨T23, L23, k23, n23⟩ X23 ⟨Lc23, hQ23, l23, y23, z23⟩
 dsimp only [Pt.U, Pt.locs, Pt.cells, Pt.slots] at X23 l23 y23 z23 hQ23 ⊢
 subst l23 y23 z23
 obtain ⟨rfl, N23q, e23⟩ := hQ23
 have N24 := Fr.app N21 N23q
 show Runs _ _ _ _ (T23.setTop (mkF m 15 #[.val (.ref a0), .val (.int (0 : Int32))] [(.int ((jj3 &&& (255 : Int32)).toUInt32.toUInt16.toUInt32.toInt32))]))
 exact w_done X23 hlk (v := some (.int ((jj3 &&& (255 : Int32)).toUInt32.toUInt16.toUInt32.toInt32))) e23 (fun h => by rw [hret] at h; cases h) (fun fs hr => retOut X23 hx hret (t := .char) (XT.narrow_c _) (Or.inl ⟨rfl, by simp, _, rfl⟩) (d24_15 hby) hr) (by decide) (by decide) (⟨rfl, N24, rfl⟩)
theorem ef_m28_26 (m : MethodId) (v2 : Value) (r_v2 : v2.isRef = true) : entryFrame m #[(.int (1 : Int32)), (.int (2 : Int32)), v2] 3 = mkF m 0 #[.val (.int (1 : Int32)), .val (.int (2 : Int32)), .val v2] [] := by
  rcases XT.refc r_v2 with rfl | ⟨z_v2, rfl⟩ <;> first | (simp [entryFrame, mkF, argsToLocals, Value.category]; done) | rfl
def Q_m28_26 (Z : State) (v2 : Value) (h0 : Heap) (n0 : Nat) (v : Option Value) (h : Heap) (L : List Loc) : Prop := v = some (.int (1 : Int32)) ∧ Fr n0 L ∧ h = h0
theorem rm_m28_26 (l : Launch) (Z : State) (aZ : Array Value) (hw : ∀ d ∈ tables_1, d.before aZ Z = true) (ws : List Jvm.Cond) (v2 : Value) (h0 : Heap) (n0 : Nat) (Z0 : n0 ≤ h0.size) (r_v2 : v2.isRef = true) :
    MetN l Z yn_28 jdk_41_method_11_code 3 (some .int) ws ({ frames := 0, cells := 0, slots := 0, locals := 0 } : Room) #[(.int (1 : Int32)), (.int (2 : Int32)), v2] h0 (Q_m28_26 Z v2 h0 n0) := by
 refine MetN.of (plainFor_of_name pn_7) ?_
 intro p e s m below meth c s₁ hret hx hby hml hown hnm hlk hZ X0 e0
 have N0 := Fr.nil n0
 rw [ef_m28_26 m v2 r_v2]
 refine w_iloadN X0 hx (d28_0 hby) rfl (pc' := 1) rfl ?_
 refine w_ifN X0 hx (d28_1 hby) (flt (by decide : ¬ ((1 : Int32) < (0 : Int32)))).1 (pc' := 4) rfl ?_
 refine w_iloadN X0 hx (d28_4 hby) rfl (pc' := 5) rfl ?_
 refine w_iloadN X0 hx (d28_5 hby) rfl (pc' := 6) rfl ?_
 refine w_icY X0 hx (d28_6 hby) (tlt (by decide : (1 : Int32) < (2 : Int32))).1 (pc' := 16) (by decide) (by decide) ?_
 refine w_iloadN X0 hx (d28_16 hby) rfl (pc' := 17) rfl ?_
 exact w_done X0 hlk (v := some (.int (1 : Int32))) e0 (fun h => by rw [hret] at h; cases h) (fun fs hr => retI X0 hx hret (d28_17 hby) hr) (by decide) (by decide) (⟨rfl, N0, rfl⟩)
theorem ef_m27_25 (m : MethodId)   : entryFrame m #[(.int (1 : Int32)), (.int (2 : Int32))] 2 = mkF m 0 #[.val (.int (1 : Int32)), .val (.int (2 : Int32))] [] := by first | (simp [entryFrame, mkF, argsToLocals, Value.category]; done) | rfl
def Q_m27_25 (Z : State) (jj0 : Value) (h0 : Heap) (n0 : Nat) (v : Option Value) (h : Heap) (L : List Loc) : Prop := v = none ∧ Fr n0 L ∧ h = h0
theorem rm_m27_25 (l : Launch) (Z : State) (aZ : Array Value) (hw : ∀ d ∈ tables_1, d.before aZ Z = true) (ws : List Jvm.Cond) (jj0 : Value) (h0 : Heap) (n0 : Nat) (Z0 : n0 ≤ h0.size) (zz1 : jj0.isRef = true) (zz2 : Sta Z Z.heap "jdk/internal/util/Preconditions" "SIOOBE_FORMATTER" "Ljava/util/function/BiFunction;" jj0) (O0 : Old Z n0 h0) :
    MetN l Z yn_27 jdk_42_method_155_code 2 none ws ({ frames := 1, cells := 0, slots := 0, locals := 14 } : Room) #[(.int (1 : Int32)), (.int (2 : Int32))] h0 (Q_m27_25 Z jj0 h0 n0) := by
 refine MetN.of (plainFor_of_name pn_1) ?_
 intro p e s m below meth c s₁ hret hx hby hml hown hnm hlk hZ X0 e0
 have N0 := Fr.nil n0
 rw [ef_m27_25 m ]
 refine w_iloadN X0 hx (d27_0 hby) rfl (pc' := 1) rfl ?_
 refine w_iloadN X0 hx (d27_1 hby) rfl (pc' := 2) rfl ?_
 refine w_getS X0 hx "" hZ hown (Or.inl (wd_156 hw)) Via.refl e0 (zz2.ext O0.2) (d27_2 hby) (pc' := 5) rfl ?_
 intro T20 X20 e20
 refine w_static X20 hx (y := yn_28) hown (mvT hZ (wd_158 hw)) (mvT hZ (wd_159 hw)) (mvT hZ (wd_157 hw)) (mvT hZ (wd_160 hw)) (by decide) (backOf (W := 0) (rm_m28_26 l Z aZ hw [] jj0 h0 n0 Z0 zz1) hZ (wd_160 hw) (wd_157 hw) (by decide) (by decide)) (by rw [hml]; rfl) [(.int (1 : Int32)), (.int (2 : Int32)), jj0] (lenOf pd_18 rfl) rfl (Nat.le_of_eq rfl) (d27_5 hby) (fun _ _ => ⟨rfl, e20, (by decide : 0 + 0 ≤ _), (by decide : 0 + 0 ≤ _)⟩) (pc' := 8) rfl ?_
 rintro _ _ ⟨T21, L21, k21, n21⟩ X21 ⟨Lc21, hQ21, l21, y21, z21⟩
 dsimp only [Pt.U, Pt.locs, Pt.cells, Pt.slots] at X21 l21 y21 z21 hQ21 ⊢
 subst l21 y21 z21
 obtain ⟨rfl, N21q, e21⟩ := hQ21
 have N22 := Fr.app N0 N21q
 show Runs _ _ _ _ (T21.setTop (mkF m 8 #[.val (.int (1 : Int32)), .val (.int (2 : Int32))] [(.int (1 : Int32))]))
 refine w_pop X21 hx (d27_8 hby) rfl (pc' := 9) rfl ?_
 exact w_done X21 hlk (v := none) e21 (fun _ => rfl) (fun fs hr => X21.returnOut hx hret (d27_9 hby) hr) (by decide) (by decide) (⟨rfl, N22, rfl⟩)
theorem ef_m26_24 (m : MethodId) (a0 : Addr)  : entryFrame m #[(.ref a0), (.int (1 : Int32))] 2 = mkF m 0 #[.val (.ref a0), .val (.int (1 : Int32))] [] := by first | (simp [entryFrame, mkF, argsToLocals, Value.category]; done) | rfl
def Q_m26_24 (Z : State) (a0 : Addr) (k_a0 : ClassId) (jj0 : Int32) (jj1 : Int32) (jj2 : Value) (h0 : Heap) (n0 : Nat) (v : Option Value) (h : Heap) (L : List Loc) : Prop := v = some (.int ((jj1 &&& (255 : Int32)).toUInt32.toUInt16.toUInt32.toInt32)) ∧ Fr n0 L ∧ h = h0
theorem rm_m26_24 (l : Launch) (Z : State) (aZ : Array Value) (hw : ∀ d ∈ tables_1, d.before aZ Z = true) (ws : List Jvm.Cond) (a0 : Addr) (k_a0 : ClassId) (jj0 : Int32) (jj1 : Int32) (jj2 : Value) (h0 : Heap) (n0 : Nat) (Z0 : n0 ≤ h0.size) (V_a0 : Arv Z h0 a0 k_a0 .byte (2 : Int32) [(.int jj0), (.int jj1)] (.int (0 : Int32))) (zz3 : jj2.isRef = true) (zz4 : Sta Z Z.heap "jdk/internal/util/Preconditions" "SIOOBE_FORMATTER" "Ljava/util/function/BiFunction;" jj2) (O0 : Old Z n0 h0) :
    MetN l Z yn_26 jdk_43_method_2_code 2 (some .char) ws ({ frames := 2, cells := 0, slots := 0, locals := 27 } : Room) #[(.ref a0), (.int (1 : Int32))] h0 (Q_m26_24 Z a0 k_a0 jj0 jj1 jj2 h0 n0) := by
 refine MetN.of (plainFor_of_name pn_0) ?_
 intro p e s m below meth c s₁ hret hx hby hml hown hnm hlk hZ X0 e0
 have N0 := Fr.nil n0
 rw [ef_m26_24 m a0]
 refine w_iloadN X0 hx (d26_0 hby) rfl (pc' := 1) rfl ?_
 refine w_aloadN X0 hx (d26_1 hby) rfl rfl (pc' := 2) rfl ?_
 refine w_alen X0 hx hZ e0 V_a0 (d26_2 hby) (pc' := 3) rfl ?_
 refine w_static X0 hx (y := yn_27) hown (mvT hZ (wd_153 hw)) (mvT hZ (wd_154 hw)) (mvT hZ (wd_2 hw)) (mvT hZ (wd_155 hw)) (by decide) (backOf (W := 0) (rm_m27_25 l Z aZ hw [] jj2 h0 n0 Z0 zz3 zz4 O0) hZ (wd_155 hw) (wd_2 hw) (by decide) (by decide)) (by rw [hml]; rfl) [(.int (1 : Int32)), (.int (2 : Int32))] (lenOf pd_19 rfl) rfl (Nat.le_of_eq rfl) (d26_3 hby) (fun _ _ => ⟨rfl, e0, (by decide : 0 + 0 ≤ _), (by decide : 0 + 0 ≤ _)⟩) (pc' := 6) rfl ?_
 rintro _ _ ⟨T20, L20, k20, n20⟩ X20 ⟨Lc20, hQ20, l20, y20, z20⟩
 dsimp only [Pt.U, Pt.locs, Pt.cells, Pt.slots] at X20 l20 y20 z20 hQ20 ⊢
 subst l20 y20 z20
 obtain ⟨rfl, N20q, e20⟩ := hQ20
 have N21 := Fr.app N0 N20q
 show Runs _ _ _ _ (T20.setTop (mkF m 6 #[.val (.ref a0), .val (.int (1 : Int32))] []))
 refine w_aloadN X20 hx (d26_6 hby) rfl rfl (pc' := 7) rfl ?_
 refine w_iloadN X20 hx (d26_7 hby) rfl (pc' := 8) rfl ?_
 obtain ⟨clu22, Aru22, qu22, Su22, Nu22, Hu22, Gu22⟩ := id V_a0
 have hinu22 := inb_of (j := (1 : Int32)) Su22 ⟨by decide, by decide⟩
 refine w_baload X20 hx hZ e20 Aru22 hinu22 (Hu22.at hinu22 rfl) (d26_8 hby) (pc' := 9) rfl ?_
 refine w_sipush X20 hx (d26_9 hby) (v := (255 : Int32)) rfl (pc' := 12) rfl ?_
 refine w_iand X20 hx (d26_12 hby) (pc' := 13) rfl ?_
 refine w_i2c X20 hx (d26_13 hby) (pc' := 14) rfl ?_
 exact w_done X20 hlk (v := some (.int ((jj1 &&& (255 : Int32)).toUInt32.toUInt16.toUInt32.toInt32))) e20 (fun h => by rw [hret] at h; cases h) (fun fs hr => retOut X20 hx hret (t := .char) (XT.narrow_c _) (Or.inl ⟨rfl, by simp, _, rfl⟩) (d26_14 hby) hr) (by decide) (by decide) (⟨rfl, N21, rfl⟩)
theorem ef_m24_23 (m : MethodId) (a0 : Addr)  : entryFrame m #[(.ref a0), (.int (1 : Int32))] 2 = mkF m 0 #[.val (.ref a0), .val (.int (1 : Int32))] [] := by first | (simp [entryFrame, mkF, argsToLocals, Value.category]; done) | rfl
def Q_m24_23 (Z : State) (a0 : Addr) (jj0 : Int32) (jj1 : Addr) (jj2 : ClassId) (jj3 : Int32) (jj4 : Int32) (jj5 : Value) (h0 : Heap) (n0 : Nat) (v : Option Value) (h : Heap) (L : List Loc) : Prop := v = some (.int ((jj4 &&& (255 : Int32)).toUInt32.toUInt16.toUInt32.toInt32)) ∧ Fr n0 L ∧ h = h0
theorem rm_m24_23 (l : Launch) (Z : State) (aZ : Array Value) (hw : ∀ d ∈ tables_1, d.before aZ Z = true) (ws : List Jvm.Cond) (a0 : Addr) (jj0 : Int32) (jj1 : Addr) (jj2 : ClassId) (jj3 : Int32) (jj4 : Int32) (jj5 : Value) (h0 : Heap) (n0 : Nat) (Z0 : n0 ≤ h0.size) (E_a0 : Exa Z h0 a0 kc0) (zz6 : Sta Z Z.heap kc0 "COMPACT_STRINGS" "Z" (.int jj0)) (O0 : Old Z n0 h0) (zz7 : Fld Z h0 a0 kc0 "coder" "B" (.int (0 : Int32))) (hP_4 : ¬ (jj0 = (0 : Int32))) (zz8 : Fld Z h0 a0 kc0 "value" "[B" (.ref jj1)) (zz9 : Arv Z h0 jj1 jj2 .byte (2 : Int32) [(.int jj3), (.int jj4)] (.int (0 : Int32))) (zz10 : jj5.isRef = true) (zz11 : Sta Z Z.heap "jdk/internal/util/Preconditions" "SIOOBE_FORMATTER" "Ljava/util/function/BiFunction;" jj5) :
    MetN l Z yn_24 jdk_42_method_56_code 2 (some .char) ws ({ frames := 3, cells := 0, slots := 0, locals := 40 } : Room) #[(.ref a0), (.int (1 : Int32))] h0 (Q_m24_23 Z a0 jj0 jj1 jj2 jj3 jj4 jj5 h0 n0) := by
 refine MetN.of (plainFor_of_name pn_1) ?_
 intro p e s m below meth c s₁ hret hx hby hml hown hnm hlk hZ X0 e0
 have N0 := Fr.nil n0
 rw [ef_m24_23 m a0]
 refine w_aloadN X0 hx (d24_0 hby) rfl rfl (pc' := 1) rfl ?_
 obtain ⟨cq20, kq20, q20a, q20b, q20c⟩ := isOf hZ e0 E_a0
 refine w_virtual X0 hx (y := yn_25) (z := yn_25) hown (mvT hZ (wd_145 hw)) (mvT hZ (wd_146 hw)) (notFace_of_selects (args := #[]) (mvT hZ (wd_148 hw))) (mvT hZ (wd_148 hw)) (mvT hZ (wd_147 hw)) (by decide) (backOf (W := 0) (rm_m25_19 l Z aZ hw [] a0 jj0 h0 n0 Z0 zz6 O0 hP_4 zz7) hZ (wd_149 hw) (wd_2 hw) (by decide) (by decide)) q20a q20c (by rw [hml]; rfl) [] (lenOf pd_17 rfl) rfl (Nat.le_of_eq rfl) (d24_1 hby) (fun _ _ => ⟨rfl, e0, (by decide : 0 + 0 ≤ _), (by decide : 0 + 0 ≤ _)⟩) (pc' := 4) rfl ?_
 rintro _ _ ⟨T20, L20, k20, n20⟩ X20 ⟨Lc20, hQ20, l20, y20, z20⟩
 dsimp only [Pt.U, Pt.locs, Pt.cells, Pt.slots] at X20 l20 y20 z20 hQ20 ⊢
 subst l20 y20 z20
 obtain ⟨rfl, N20q, e20⟩ := hQ20
 have N21 := Fr.app N0 N20q
 show Runs _ _ _ _ (T20.setTop (mkF m 4 #[.val (.ref a0), .val (.int (1 : Int32))] [(.int (1 : Int32))]))
 refine w_ifN X20 hx (d24_4 hby) (feq (by decide : ¬ ((1 : Int32) = (0 : Int32)))).1 (pc' := 7) rfl ?_
 refine w_aloadN X20 hx (d24_7 hby) rfl rfl (pc' := 8) rfl ?_
 refine w_getF X20 hx "" hZ hown (Or.inl (wd_28 hw)) Via.refl e20 zz8 (d24_8 hby) (pc' := 11) rfl ?_
 intro T22 X22 e22
 refine w_iloadN X22 hx (d24_11 hby) rfl (pc' := 12) rfl ?_
 refine w_static X22 hx (y := yn_26) hown (mvT hZ (wd_150 hw)) (mvT hZ (wd_151 hw)) (mvT hZ (wd_35 hw)) (mvT hZ (wd_152 hw)) (by decide) (backOf (W := 0) (rm_m26_24 l Z aZ hw [] jj1 jj2 jj3 jj4 jj5 h0 n0 Z0 zz9 zz10 zz11 O0) hZ (wd_152 hw) (wd_35 hw) (by decide) (by decide)) (by rw [hml]; rfl) [(.ref jj1), (.int (1 : Int32))] (lenOf pd_20 rfl) rfl (Nat.le_of_eq rfl) (d24_12 hby) (fun _ _ => ⟨rfl, e22, (by decide : 0 + 0 ≤ _), (by decide : 0 + 0 ≤ _)⟩) (pc' := 15) rfl ?_
 rintro _ _ ⟨T23, L23, k23, n23⟩ X23 ⟨Lc23, hQ23, l23, y23, z23⟩
 dsimp only [Pt.U, Pt.locs, Pt.cells, Pt.slots] at X23 l23 y23 z23 hQ23 ⊢
 subst l23 y23 z23
 obtain ⟨rfl, N23q, e23⟩ := hQ23
 have N24 := Fr.app N21 N23q
 show Runs _ _ _ _ (T23.setTop (mkF m 15 #[.val (.ref a0), .val (.int (1 : Int32))] [(.int ((jj4 &&& (255 : Int32)).toUInt32.toUInt16.toUInt32.toInt32))]))
 exact w_done X23 hlk (v := some (.int ((jj4 &&& (255 : Int32)).toUInt32.toUInt16.toUInt32.toInt32))) e23 (fun h => by rw [hret] at h; cases h) (fun fs hr => retOut X23 hx hret (t := .char) (XT.narrow_c _) (Or.inl ⟨rfl, by simp, _, rfl⟩) (d24_15 hby) hr) (by decide) (by decide) (⟨rfl, N24, rfl⟩)
theorem ef_m22_27 (m : MethodId) (a0 : Addr)  : entryFrame m #[(.ref a0)] 1 = mkF m 0 #[.val (.ref a0)] [] := by first | (simp [entryFrame, mkF, argsToLocals, Value.category]; done) | rfl
def Q_m22_27 (Z : State) (a0 : Addr) (jj0 : Addr) (jj1 : ClassId) (jj2 : Int32) (jj3 : Int32) (h0 : Heap) (n0 : Nat) (v : Option Value) (h : Heap) (L : List Loc) : Prop := v = some (.int (1 : Int32)) ∧ Fr n0 L ∧ h = h0
theorem rm_m22_27 (l : Launch) (Z : State) (aZ : Array Value) (hw : ∀ d ∈ tables_1, d.before aZ Z = true) (ws : List Jvm.Cond) (a0 : Addr) (jj0 : Addr) (jj1 : ClassId) (jj2 : Int32) (jj3 : Int32) (h0 : Heap) (n0 : Nat) (Z0 : n0 ≤ h0.size) (zz4 : Fld Z h0 a0 kc0 "value" "[B" (.ref jj0)) (zz5 : Arv Z h0 jj0 jj1 .byte (1 : Int32) [(.int jj2)] (.int (0 : Int32))) (E_a0 : Exa Z h0 a0 kc0) (zz6 : Sta Z Z.heap kc0 "COMPACT_STRINGS" "Z" (.int jj3)) (O0 : Old Z n0 h0) (zz7 : Fld Z h0 a0 kc0 "coder" "B" (.int (0 : Int32))) (hP_6 : ¬ (jj3 = (0 : Int32))) :
    MetN l Z yn_22 jdk_42_method_54_code 1 (some .int) ws ({ frames := 1, cells := 0, slots := 0, locals := 13 } : Room) #[(.ref a0)] h0 (Q_m22_27 Z a0 jj0 jj1 jj2 jj3 h0 n0) := by
 refine MetN.of (plainFor_of_name pn_1) ?_
 intro p e s m below meth c s₁ hret hx hby hml hown hnm hlk hZ X0 e0
 have N0 := Fr.nil n0
 rw [ef_m22_27 m a0]
 refine w_aloadN X0 hx (d22_0 hby) rfl rfl (pc' := 1) rfl ?_
 refine w_getF X0 hx "" hZ hown (Or.inl (wd_28 hw)) Via.refl e0 zz4 (d22_1 hby) (pc' := 4) rfl ?_
 intro T20 X20 e20
 refine w_alen X20 hx hZ e20 zz5 (d22_4 hby) (pc' := 5) rfl ?_
 refine w_aloadN X20 hx (d22_5 hby) rfl rfl (pc' := 6) rfl ?_
 obtain ⟨cq21, kq21, q21a, q21b, q21c⟩ := isOf hZ e20 E_a0
 refine w_virtual X20 hx (y := yn_23) (z := yn_23) hown (mvT hZ (wd_135 hw)) (mvT hZ (wd_136 hw)) (notFace_of_selects (args := #[]) (mvT hZ (wd_138 hw))) (mvT hZ (wd_138 hw)) (mvT hZ (wd_137 hw)) (by decide) (backOf (W := 1) (rm_m23_17 l Z aZ hw [] a0 jj3 h0 n0 Z0 zz6 O0 hP_6 zz7) hZ (wd_139 hw) (wd_2 hw) (by decide) (by decide)) q21a q21c (by rw [hml]; rfl) [] (lenOf pd_15 rfl) rfl (Nat.le_of_eq rfl) (d22_6 hby) (fun _ _ => ⟨rfl, e20, (by decide : 0 + 0 ≤ _), (by decide : 0 + 0 ≤ _)⟩) (pc' := 9) rfl ?_
 rintro _ _ ⟨T21, L21, k21, n21⟩ X21 ⟨Lc21, hQ21, l21, y21, z21⟩
 dsimp only [Pt.U, Pt.locs, Pt.cells, Pt.slots] at X21 l21 y21 z21 hQ21 ⊢
 subst l21 y21 z21
 obtain ⟨rfl, N21q, e21⟩ := hQ21
 have N22 := Fr.app N0 N21q
 show Runs _ _ _ _ (T21.setTop (mkF m 9 #[.val (.ref a0)] [(.int (0 : Int32)), (.int (1 : Int32))]))
 refine w_ishr X21 hx (d22_9 hby) (pc' := 10) rfl ?_
 rw [show ((1 : Int32) >>> ((0 : Int32) &&& 31)) = (1 : Int32) from by decide]
 exact w_done X21 hlk (v := some (.int (1 : Int32))) e21 (fun h => by rw [hret] at h; cases h) (fun fs hr => retI X21 hx hret (d22_10 hby) hr) (by decide) (by decide) (⟨rfl, N22, rfl⟩)
theorem ef_m28_31 (m : MethodId) (v2 : Value) (r_v2 : v2.isRef = true) : entryFrame m #[(.int (0 : Int32)), (.int (1 : Int32)), v2] 3 = mkF m 0 #[.val (.int (0 : Int32)), .val (.int (1 : Int32)), .val v2] [] := by
  rcases XT.refc r_v2 with rfl | ⟨z_v2, rfl⟩ <;> first | (simp [entryFrame, mkF, argsToLocals, Value.category]; done) | rfl
def Q_m28_31 (Z : State) (v2 : Value) (h0 : Heap) (n0 : Nat) (v : Option Value) (h : Heap) (L : List Loc) : Prop := v = some (.int (0 : Int32)) ∧ Fr n0 L ∧ h = h0
theorem rm_m28_31 (l : Launch) (Z : State) (aZ : Array Value) (hw : ∀ d ∈ tables_1, d.before aZ Z = true) (ws : List Jvm.Cond) (v2 : Value) (h0 : Heap) (n0 : Nat) (Z0 : n0 ≤ h0.size) (r_v2 : v2.isRef = true) :
    MetN l Z yn_28 jdk_41_method_11_code 3 (some .int) ws ({ frames := 0, cells := 0, slots := 0, locals := 0 } : Room) #[(.int (0 : Int32)), (.int (1 : Int32)), v2] h0 (Q_m28_31 Z v2 h0 n0) := by
 refine MetN.of (plainFor_of_name pn_7) ?_
 intro p e s m below meth c s₁ hret hx hby hml hown hnm hlk hZ X0 e0
 have N0 := Fr.nil n0
 rw [ef_m28_31 m v2 r_v2]
 refine w_iloadN X0 hx (d28_0 hby) rfl (pc' := 1) rfl ?_
 refine w_ifN X0 hx (d28_1 hby) (flt (by decide : ¬ ((0 : Int32) < (0 : Int32)))).1 (pc' := 4) rfl ?_
 refine w_iloadN X0 hx (d28_4 hby) rfl (pc' := 5) rfl ?_
 refine w_iloadN X0 hx (d28_5 hby) rfl (pc' := 6) rfl ?_
 refine w_icY X0 hx (d28_6 hby) (tlt (by decide : (0 : Int32) < (1 : Int32))).1 (pc' := 16) (by decide) (by decide) ?_
 refine w_iloadN X0 hx (d28_16 hby) rfl (pc' := 17) rfl ?_
 exact w_done X0 hlk (v := some (.int (0 : Int32))) e0 (fun h => by rw [hret] at h; cases h) (fun fs hr => retI X0 hx hret (d28_17 hby) hr) (by decide) (by decide) (⟨rfl, N0, rfl⟩)
theorem ef_m27_30 (m : MethodId)   : entryFrame m #[(.int (0 : Int32)), (.int (1 : Int32))] 2 = mkF m 0 #[.val (.int (0 : Int32)), .val (.int (1 : Int32))] [] := by first | (simp [entryFrame, mkF, argsToLocals, Value.category]; done) | rfl
def Q_m27_30 (Z : State) (jj0 : Value) (h0 : Heap) (n0 : Nat) (v : Option Value) (h : Heap) (L : List Loc) : Prop := v = none ∧ Fr n0 L ∧ h = h0
theorem rm_m27_30 (l : Launch) (Z : State) (aZ : Array Value) (hw : ∀ d ∈ tables_1, d.before aZ Z = true) (ws : List Jvm.Cond) (jj0 : Value) (h0 : Heap) (n0 : Nat) (Z0 : n0 ≤ h0.size) (zz1 : jj0.isRef = true) (zz2 : Sta Z Z.heap "jdk/internal/util/Preconditions" "SIOOBE_FORMATTER" "Ljava/util/function/BiFunction;" jj0) (O0 : Old Z n0 h0) :
    MetN l Z yn_27 jdk_42_method_155_code 2 none ws ({ frames := 1, cells := 0, slots := 0, locals := 14 } : Room) #[(.int (0 : Int32)), (.int (1 : Int32))] h0 (Q_m27_30 Z jj0 h0 n0) := by
 refine MetN.of (plainFor_of_name pn_1) ?_
 intro p e s m below meth c s₁ hret hx hby hml hown hnm hlk hZ X0 e0
 have N0 := Fr.nil n0
 rw [ef_m27_30 m ]
 refine w_iloadN X0 hx (d27_0 hby) rfl (pc' := 1) rfl ?_
 refine w_iloadN X0 hx (d27_1 hby) rfl (pc' := 2) rfl ?_
 refine w_getS X0 hx "" hZ hown (Or.inl (wd_156 hw)) Via.refl e0 (zz2.ext O0.2) (d27_2 hby) (pc' := 5) rfl ?_
 intro T20 X20 e20
 refine w_static X20 hx (y := yn_28) hown (mvT hZ (wd_158 hw)) (mvT hZ (wd_159 hw)) (mvT hZ (wd_157 hw)) (mvT hZ (wd_160 hw)) (by decide) (backOf (W := 0) (rm_m28_31 l Z aZ hw [] jj0 h0 n0 Z0 zz1) hZ (wd_160 hw) (wd_157 hw) (by decide) (by decide)) (by rw [hml]; rfl) [(.int (0 : Int32)), (.int (1 : Int32)), jj0] (lenOf pd_18 rfl) rfl (Nat.le_of_eq rfl) (d27_5 hby) (fun _ _ => ⟨rfl, e20, (by decide : 0 + 0 ≤ _), (by decide : 0 + 0 ≤ _)⟩) (pc' := 8) rfl ?_
 rintro _ _ ⟨T21, L21, k21, n21⟩ X21 ⟨Lc21, hQ21, l21, y21, z21⟩
 dsimp only [Pt.U, Pt.locs, Pt.cells, Pt.slots] at X21 l21 y21 z21 hQ21 ⊢
 subst l21 y21 z21
 obtain ⟨rfl, N21q, e21⟩ := hQ21
 have N22 := Fr.app N0 N21q
 show Runs _ _ _ _ (T21.setTop (mkF m 8 #[.val (.int (0 : Int32)), .val (.int (1 : Int32))] [(.int (0 : Int32))]))
 refine w_pop X21 hx (d27_8 hby) rfl (pc' := 9) rfl ?_
 exact w_done X21 hlk (v := none) e21 (fun _ => rfl) (fun fs hr => X21.returnOut hx hret (d27_9 hby) hr) (by decide) (by decide) (⟨rfl, N22, rfl⟩)
theorem ef_m26_29 (m : MethodId) (a0 : Addr)  : entryFrame m #[(.ref a0), (.int (0 : Int32))] 2 = mkF m 0 #[.val (.ref a0), .val (.int (0 : Int32))] [] := by first | (simp [entryFrame, mkF, argsToLocals, Value.category]; done) | rfl
def Q_m26_29 (Z : State) (a0 : Addr) (k_a0 : ClassId) (jj0 : Int32) (jj1 : Value) (h0 : Heap) (n0 : Nat) (v : Option Value) (h : Heap) (L : List Loc) : Prop := v = some (.int ((jj0 &&& (255 : Int32)).toUInt32.toUInt16.toUInt32.toInt32)) ∧ Fr n0 L ∧ h = h0
theorem rm_m26_29 (l : Launch) (Z : State) (aZ : Array Value) (hw : ∀ d ∈ tables_1, d.before aZ Z = true) (ws : List Jvm.Cond) (a0 : Addr) (k_a0 : ClassId) (jj0 : Int32) (jj1 : Value) (h0 : Heap) (n0 : Nat) (Z0 : n0 ≤ h0.size) (V_a0 : Arv Z h0 a0 k_a0 .byte (1 : Int32) [(.int jj0)] (.int (0 : Int32))) (zz2 : jj1.isRef = true) (zz3 : Sta Z Z.heap "jdk/internal/util/Preconditions" "SIOOBE_FORMATTER" "Ljava/util/function/BiFunction;" jj1) (O0 : Old Z n0 h0) :
    MetN l Z yn_26 jdk_43_method_2_code 2 (some .char) ws ({ frames := 2, cells := 0, slots := 0, locals := 27 } : Room) #[(.ref a0), (.int (0 : Int32))] h0 (Q_m26_29 Z a0 k_a0 jj0 jj1 h0 n0) := by
 refine MetN.of (plainFor_of_name pn_0) ?_
 intro p e s m below meth c s₁ hret hx hby hml hown hnm hlk hZ X0 e0
 have N0 := Fr.nil n0
 rw [ef_m26_29 m a0]
 refine w_iloadN X0 hx (d26_0 hby) rfl (pc' := 1) rfl ?_
 refine w_aloadN X0 hx (d26_1 hby) rfl rfl (pc' := 2) rfl ?_
 refine w_alen X0 hx hZ e0 V_a0 (d26_2 hby) (pc' := 3) rfl ?_
 refine w_static X0 hx (y := yn_27) hown (mvT hZ (wd_153 hw)) (mvT hZ (wd_154 hw)) (mvT hZ (wd_2 hw)) (mvT hZ (wd_155 hw)) (by decide) (backOf (W := 0) (rm_m27_30 l Z aZ hw [] jj1 h0 n0 Z0 zz2 zz3 O0) hZ (wd_155 hw) (wd_2 hw) (by decide) (by decide)) (by rw [hml]; rfl) [(.int (0 : Int32)), (.int (1 : Int32))] (lenOf pd_19 rfl) rfl (Nat.le_of_eq rfl) (d26_3 hby) (fun _ _ => ⟨rfl, e0, (by decide : 0 + 0 ≤ _), (by decide : 0 + 0 ≤ _)⟩) (pc' := 6) rfl ?_
 rintro _ _ ⟨T20, L20, k20, n20⟩ X20 ⟨Lc20, hQ20, l20, y20, z20⟩
 dsimp only [Pt.U, Pt.locs, Pt.cells, Pt.slots] at X20 l20 y20 z20 hQ20 ⊢
 subst l20 y20 z20
 obtain ⟨rfl, N20q, e20⟩ := hQ20
 have N21 := Fr.app N0 N20q
 show Runs _ _ _ _ (T20.setTop (mkF m 6 #[.val (.ref a0), .val (.int (0 : Int32))] []))
 refine w_aloadN X20 hx (d26_6 hby) rfl rfl (pc' := 7) rfl ?_
 refine w_iloadN X20 hx (d26_7 hby) rfl (pc' := 8) rfl ?_
 obtain ⟨clu22, Aru22, qu22, Su22, Nu22, Hu22, Gu22⟩ := id V_a0
 have hinu22 := inb_of (j := (0 : Int32)) Su22 ⟨by decide, by decide⟩
 refine w_baload X20 hx hZ e20 Aru22 hinu22 (Hu22.at hinu22 rfl) (d26_8 hby) (pc' := 9) rfl ?_
 refine w_sipush X20 hx (d26_9 hby) (v := (255 : Int32)) rfl (pc' := 12) rfl ?_
 refine w_iand X20 hx (d26_12 hby) (pc' := 13) rfl ?_
 refine w_i2c X20 hx (d26_13 hby) (pc' := 14) rfl ?_
 exact w_done X20 hlk (v := some (.int ((jj0 &&& (255 : Int32)).toUInt32.toUInt16.toUInt32.toInt32))) e20 (fun h => by rw [hret] at h; cases h) (fun fs hr => retOut X20 hx hret (t := .char) (XT.narrow_c _) (Or.inl ⟨rfl, by simp, _, rfl⟩) (d26_14 hby) hr) (by decide) (by decide) (⟨rfl, N21, rfl⟩)
theorem ef_m24_28 (m : MethodId) (a0 : Addr)  : entryFrame m #[(.ref a0), (.int (0 : Int32))] 2 = mkF m 0 #[.val (.ref a0), .val (.int (0 : Int32))] [] := by first | (simp [entryFrame, mkF, argsToLocals, Value.category]; done) | rfl
def Q_m24_28 (Z : State) (a0 : Addr) (jj0 : Int32) (jj1 : Addr) (jj2 : ClassId) (jj3 : Int32) (jj4 : Value) (h0 : Heap) (n0 : Nat) (v : Option Value) (h : Heap) (L : List Loc) : Prop := v = some (.int ((jj3 &&& (255 : Int32)).toUInt32.toUInt16.toUInt32.toInt32)) ∧ Fr n0 L ∧ h = h0
theorem rm_m24_28 (l : Launch) (Z : State) (aZ : Array Value) (hw : ∀ d ∈ tables_1, d.before aZ Z = true) (ws : List Jvm.Cond) (a0 : Addr) (jj0 : Int32) (jj1 : Addr) (jj2 : ClassId) (jj3 : Int32) (jj4 : Value) (h0 : Heap) (n0 : Nat) (Z0 : n0 ≤ h0.size) (E_a0 : Exa Z h0 a0 kc0) (zz5 : Sta Z Z.heap kc0 "COMPACT_STRINGS" "Z" (.int jj0)) (O0 : Old Z n0 h0) (zz6 : Fld Z h0 a0 kc0 "coder" "B" (.int (0 : Int32))) (hP_4 : ¬ (jj0 = (0 : Int32))) (zz7 : Fld Z h0 a0 kc0 "value" "[B" (.ref jj1)) (zz8 : Arv Z h0 jj1 jj2 .byte (1 : Int32) [(.int jj3)] (.int (0 : Int32))) (zz9 : jj4.isRef = true) (zz10 : Sta Z Z.heap "jdk/internal/util/Preconditions" "SIOOBE_FORMATTER" "Ljava/util/function/BiFunction;" jj4) :
    MetN l Z yn_24 jdk_42_method_56_code 2 (some .char) ws ({ frames := 3, cells := 0, slots := 0, locals := 40 } : Room) #[(.ref a0), (.int (0 : Int32))] h0 (Q_m24_28 Z a0 jj0 jj1 jj2 jj3 jj4 h0 n0) := by
 refine MetN.of (plainFor_of_name pn_1) ?_
 intro p e s m below meth c s₁ hret hx hby hml hown hnm hlk hZ X0 e0
 have N0 := Fr.nil n0
 rw [ef_m24_28 m a0]
 refine w_aloadN X0 hx (d24_0 hby) rfl rfl (pc' := 1) rfl ?_
 obtain ⟨cq20, kq20, q20a, q20b, q20c⟩ := isOf hZ e0 E_a0
 refine w_virtual X0 hx (y := yn_25) (z := yn_25) hown (mvT hZ (wd_145 hw)) (mvT hZ (wd_146 hw)) (notFace_of_selects (args := #[]) (mvT hZ (wd_148 hw))) (mvT hZ (wd_148 hw)) (mvT hZ (wd_147 hw)) (by decide) (backOf (W := 0) (rm_m25_19 l Z aZ hw [] a0 jj0 h0 n0 Z0 zz5 O0 hP_4 zz6) hZ (wd_149 hw) (wd_2 hw) (by decide) (by decide)) q20a q20c (by rw [hml]; rfl) [] (lenOf pd_17 rfl) rfl (Nat.le_of_eq rfl) (d24_1 hby) (fun _ _ => ⟨rfl, e0, (by decide : 0 + 0 ≤ _), (by decide : 0 + 0 ≤ _)⟩) (pc' := 4) rfl ?_
 rintro _ _ ⟨T20, L20, k20, n20⟩ X20 ⟨Lc20, hQ20, l20, y20, z20⟩
 dsimp only [Pt.U, Pt.locs, Pt.cells, Pt.slots] at X20 l20 y20 z20 hQ20 ⊢
 subst l20 y20 z20
 obtain ⟨rfl, N20q, e20⟩ := hQ20
 have N21 := Fr.app N0 N20q
 show Runs _ _ _ _ (T20.setTop (mkF m 4 #[.val (.ref a0), .val (.int (0 : Int32))] [(.int (1 : Int32))]))
 refine w_ifN X20 hx (d24_4 hby) (feq (by decide : ¬ ((1 : Int32) = (0 : Int32)))).1 (pc' := 7) rfl ?_
 refine w_aloadN X20 hx (d24_7 hby) rfl rfl (pc' := 8) rfl ?_
 refine w_getF X20 hx "" hZ hown (Or.inl (wd_28 hw)) Via.refl e20 zz7 (d24_8 hby) (pc' := 11) rfl ?_
 intro T22 X22 e22
 refine w_iloadN X22 hx (d24_11 hby) rfl (pc' := 12) rfl ?_
 refine w_static X22 hx (y := yn_26) hown (mvT hZ (wd_150 hw)) (mvT hZ (wd_151 hw)) (mvT hZ (wd_35 hw)) (mvT hZ (wd_152 hw)) (by decide) (backOf (W := 0) (rm_m26_29 l Z aZ hw [] jj1 jj2 jj3 jj4 h0 n0 Z0 zz8 zz9 zz10 O0) hZ (wd_152 hw) (wd_35 hw) (by decide) (by decide)) (by rw [hml]; rfl) [(.ref jj1), (.int (0 : Int32))] (lenOf pd_20 rfl) rfl (Nat.le_of_eq rfl) (d24_12 hby) (fun _ _ => ⟨rfl, e22, (by decide : 0 + 0 ≤ _), (by decide : 0 + 0 ≤ _)⟩) (pc' := 15) rfl ?_
 rintro _ _ ⟨T23, L23, k23, n23⟩ X23 ⟨Lc23, hQ23, l23, y23, z23⟩
 dsimp only [Pt.U, Pt.locs, Pt.cells, Pt.slots] at X23 l23 y23 z23 hQ23 ⊢
 subst l23 y23 z23
 obtain ⟨rfl, N23q, e23⟩ := hQ23
 have N24 := Fr.app N21 N23q
 show Runs _ _ _ _ (T23.setTop (mkF m 15 #[.val (.ref a0), .val (.int (0 : Int32))] [(.int ((jj3 &&& (255 : Int32)).toUInt32.toUInt16.toUInt32.toInt32))]))
 exact w_done X23 hlk (v := some (.int ((jj3 &&& (255 : Int32)).toUInt32.toUInt16.toUInt32.toInt32))) e23 (fun h => by rw [hret] at h; cases h) (fun fs hr => retOut X23 hx hret (t := .char) (XT.narrow_c _) (Or.inl ⟨rfl, by simp, _, rfl⟩) (d24_15 hby) hr) (by decide) (by decide) (⟨rfl, N24, rfl⟩)
theorem ef_m29_32 (m : MethodId) (a0 : Addr)  : entryFrame m #[(.ref a0)] 1 = mkF m 0 #[.val (.ref a0)] [] := by first | (simp [entryFrame, mkF, argsToLocals, Value.category]; done) | rfl
def Q_m29_32 (Z : State) (a0 : Addr) (jj0 : Int32) (h0 : Heap) (n0 : Nat) (v : Option Value) (h : Heap) (L : List Loc) : Prop := v = some (.int jj0) ∧ Fr n0 L ∧ h = h0
theorem rm_m29_32 (l : Launch) (Z : State) (aZ : Array Value) (hw : ∀ d ∈ tables_1, d.before aZ Z = true) (ws : List Jvm.Cond) (a0 : Addr) (jj0 : Int32) (h0 : Heap) (n0 : Nat) (Z0 : n0 ≤ h0.size) (zz1 : Fld Z h0 a0 kc2 "initiative" "I" (.int jj0)) :
    MetN l Z yn_29 prog_3_method_8_code 1 (some .int) ws ({ frames := 0, cells := 0, slots := 0, locals := 0 } : Room) #[(.ref a0)] h0 (Q_m29_32 Z a0 jj0 h0 n0) := by
 refine MetN.of (plainFor_of_name pn_6) ?_
 intro p e s m below meth c s₁ hret hx hby hml hown hnm hlk hZ X0 e0
 have N0 := Fr.nil n0
 rw [ef_m29_32 m a0]
 refine w_aloadN X0 hx (d29_0 hby) rfl rfl (pc' := 1) rfl ?_
 refine w_getF X0 hx "" hZ hown (Or.inl (wd_116 hw)) Via.refl e0 zz1 (d29_1 hby) (pc' := 4) rfl ?_
 intro T20 X20 e20
 exact w_done X20 hlk (v := some (.int jj0)) e20 (fun h => by rw [hret] at h; cases h) (fun fs hr => retI X20 hx hret (d29_4 hby) hr) (by decide) (by decide) (⟨rfl, N0, rfl⟩)
theorem ef_m30_33 (m : MethodId) (a0 : Addr)  : entryFrame m #[(.ref a0)] 1 = mkF m 0 #[.val (.ref a0)] [] := by first | (simp [entryFrame, mkF, argsToLocals, Value.category]; done) | rfl
def Q_m30_33 (Z : State) (a0 : Addr) (h0 : Heap) (n0 : Nat) (v : Option Value) (h : Heap) (L : List Loc) : Prop := v = some (.int (0 : Int32)) ∧ Fr n0 L ∧ h = h0
theorem rm_m30_33 (l : Launch) (Z : State) (aZ : Array Value) (hw : ∀ d ∈ tables_1, d.before aZ Z = true) (ws : List Jvm.Cond) (a0 : Addr) (h0 : Heap) (n0 : Nat) (Z0 : n0 ≤ h0.size) (zz0 : Fld Z h0 a0 kc2 "simultaneous" "Z" (.int (0 : Int32))) :
    MetN l Z yn_30 prog_3_method_9_code 1 (some .boolean) ws ({ frames := 0, cells := 0, slots := 0, locals := 0 } : Room) #[(.ref a0)] h0 (Q_m30_33 Z a0 h0 n0) := by
 refine MetN.of (plainFor_of_name pn_6) ?_
 intro p e s m below meth c s₁ hret hx hby hml hown hnm hlk hZ X0 e0
 have N0 := Fr.nil n0
 rw [ef_m30_33 m a0]
 refine w_aloadN X0 hx (d30_0 hby) rfl rfl (pc' := 1) rfl ?_
 refine w_getF X0 hx "" hZ hown (Or.inl (wd_118 hw)) Via.refl e0 zz0 (d30_1 hby) (pc' := 4) rfl ?_
 intro T20 X20 e20
 exact w_done X20 hlk (v := some (.int (0 : Int32))) e20 (fun h => by rw [hret] at h; cases h) (fun fs hr => retN X20 hx (t := .boolean) hret (by simp) (d30_4 hby) hr) (by decide) (by decide) (⟨rfl, N0, rfl⟩)
theorem ef_law (m : MethodId) (p0 : Int32) (p1 : Int32) (p2 : Int32) (p3 : Int32) (p4 : Int32) (p5 : Int32)  : entryFrame m #[(.int p0), (.int p1), (.int p2), (.int p3), (.int p4), (.int p5)] maxLocals = mkF m 0 #[.val (.int p0), .val (.int p1), .val (.int p2), .val (.int p3), .val (.int p4), .val (.int p5), .unset, .unset, .unset, .unset, .unset, .unset, .unset, .unset, .unset, .unset, .unset, .unset, .unset, .unset, .unset] [] := by first | (simp [entryFrame, mkF, argsToLocals, Value.category, maxLocals]; done) | rfl
def Q_law (Z : State) (p0 : Int32) (p1 : Int32) (p2 : Int32) (p3 : Int32) (p4 : Int32) (p5 : Int32) (G_EMPTY_MAP : Addr) (G_EMPTY_SET : Addr) (G_COMPACT_STRINGS : Int32) (G_SIOOBE_FORMATTER : Value) (h0 : Heap) (n0 : Nat) (v : Option Value) (h : Heap) (L : List Loc) : Prop := v = some (.int (1 : Int32)) ∧ Fr n0 L
theorem rm_law (l : Launch) (Z : State) (aZ : Array Value) (hw : ∀ d ∈ tables_1, d.before aZ Z = true) (ws : List Jvm.Cond) (p0 : Int32) (p1 : Int32) (p2 : Int32) (p3 : Int32) (p4 : Int32) (p5 : Int32) (G_EMPTY_MAP : Addr) (G_EMPTY_SET : Addr) (G_COMPACT_STRINGS : Int32) (G_SIOOBE_FORMATTER : Value) (h0 : Heap) (n0 : Nat) (Z0 : n0 ≤ h0.size) (S_EMPTY_MAP : Sta Z Z.heap "java/util/ImmutableCollections" "EMPTY_MAP" "Ljava/util/ImmutableCollections$MapN;" (.ref G_EMPTY_MAP)) (S_EMPTY_SET : Sta Z Z.heap "java/util/ImmutableCollections" "EMPTY_SET" "Ljava/util/ImmutableCollections$SetN;" (.ref G_EMPTY_SET)) (E_G_EMPTY_MAP : Exa Z h0 G_EMPTY_MAP "java/util/ImmutableCollections$MapN") (E_G_EMPTY_SET : Exa Z h0 G_EMPTY_SET "java/util/ImmutableCollections$SetN") (S_COMPACT_STRINGS : Sta Z Z.heap kc0 "COMPACT_STRINGS" "Z" (.int G_COMPACT_STRINGS)) (O0 : Old Z n0 h0) (hP_6 : ¬ (G_COMPACT_STRINGS = (0 : Int32))) (r_G_SIOOBE_FORMATTER : G_SIOOBE_FORMATTER.isRef = true) (S_SIOOBE_FORMATTER : Sta Z Z.heap "jdk/internal/util/Preconditions" "SIOOBE_FORMATTER" "Ljava/util/function/BiFunction;" G_SIOOBE_FORMATTER) :
    MetN l Z x code maxLocals ret ws room_1 #[(.int p0), (.int p1), (.int p2), (.int p3), (.int p4), (.int p5)] h0 (Q_law Z p0 p1 p2 p3 p4 p5 G_EMPTY_MAP G_EMPTY_SET G_COMPACT_STRINGS G_SIOOBE_FORMATTER h0 n0) := by
 refine MetN.of (plainFor_of_name pn_8) ?_
 intro p e s m below meth c s₁ hret hx hby hml hown hnm hlk hZ X0 e0
 have N0 := Fr.nil n0
 rw [ef_law m p0 p1 p2 p3 p4 p5]
 refine w_iloadN X0 hx (hb hby at_0) rfl (pc' := 1) rfl ?_
 refine w_sipush X0 hx (hb hby at_1) (v := (255 : Int32)) rfl (pc' := 4) rfl ?_
 refine w_iand X0 hx (hb hby at_4) (pc' := 5) rfl ?_
 refine w_i2c X0 hx (hb hby at_5) (pc' := 6) rfl ?_
 refine w_istore X0 hx (hb hby at_6) (L' := #[.val (.int p0), .val (.int p1), .val (.int p2), .val (.int p3), .val (.int p4), .val (.int p5), .val (.int ((p0 &&& (255 : Int32)).toUInt32.toUInt16.toUInt32.toInt32)), .unset, .unset, .unset, .unset, .unset, .unset, .unset, .unset, .unset, .unset, .unset, .unset, .unset, .unset]) rfl (pc' := 8) rfl ?_
 refine w_iloadN X0 hx (hb hby at_8) rfl (pc' := 9) rfl ?_
 refine w_bipush X0 hx (hb hby at_9) (v := (8 : Int32)) rfl (pc' := 11) rfl ?_
 refine w_iushr X0 hx (hb hby at_11) (pc' := 12) rfl ?_
 refine w_sipush X0 hx (hb hby at_12) (v := (255 : Int32)) rfl (pc' := 15) rfl ?_
 refine w_iand X0 hx (hb hby at_15) (pc' := 16) rfl ?_
 refine w_i2c X0 hx (hb hby at_16) (pc' := 17) rfl ?_
 refine w_istore X0 hx (hb hby at_17) (L' := #[.val (.int p0), .val (.int p1), .val (.int p2), .val (.int p3), .val (.int p4), .val (.int p5), .val (.int ((p0 &&& (255 : Int32)).toUInt32.toUInt16.toUInt32.toInt32)), .val (.int ((((p0.toUInt32 >>> ((8 : Int32) &&& 31).toUInt32).toInt32) &&& (255 : Int32)).toUInt32.toUInt16.toUInt32.toInt32)), .unset, .unset, .unset, .unset, .unset, .unset, .unset, .unset, .unset, .unset, .unset, .unset, .unset]) rfl (pc' := 19) rfl ?_
 refine w_iloadN X0 hx (hb hby at_19) rfl (pc' := 20) rfl ?_
 refine w_sipush X0 hx (hb hby at_20) (v := (255 : Int32)) rfl (pc' := 23) rfl ?_
 refine w_iand X0 hx (hb hby at_23) (pc' := 24) rfl ?_
 refine w_i2c X0 hx (hb hby at_24) (pc' := 25) rfl ?_
 refine w_istore X0 hx (hb hby at_25) (L' := #[.val (.int p0), .val (.int p1), .val (.int p2), .val (.int p3), .val (.int p4), .val (.int p5), .val (.int ((p0 &&& (255 : Int32)).toUInt32.toUInt16.toUInt32.toInt32)), .val (.int ((((p0.toUInt32 >>> ((8 : Int32) &&& 31).toUInt32).toInt32) &&& (255 : Int32)).toUInt32.toUInt16.toUInt32.toInt32)), .val (.int ((p1 &&& (255 : Int32)).toUInt32.toUInt16.toUInt32.toInt32)), .unset, .unset, .unset, .unset, .unset, .unset, .unset, .unset, .unset, .unset, .unset, .unset]) rfl (pc' := 27) rfl ?_
 refine w_new X0 hx hZ hown (wd_0 hw) (wd_1 hw) (wd_2 hw) e0 (hb hby at_27) (by decide) (by decide) (pc' := 30) rfl ?_
 intro T20 h20 b20 X20 e20 E20 g20 A20 D20
 have ge21 : n0 ≤ b20 := Nat.le_trans Z0 (Nat.le_of_eq g20.symm)
 have sz22 : h0.size ≤ b20 := Nat.le_trans (Nat.le_refl _) (Nat.le_of_eq g20.symm)
 have K23 : Keep h0 h20 [] := (Keep.refl h0 []).ext E20
 have f24 : Fld Z h20 b20 kc0 "coder" "B" (.int (0 : Int32)) := D20 (Or.inr (wd_27 hw)) (ty := .byte) (by decide)
 have f25 : Fld Z h20 b20 kc0 "value" "[B" .null := D20 (Or.inr (wd_29 hw)) (ty := (.array .byte)) (by decide)
 refine w_dup X20 hx (hb hby at_30) rfl (pc' := 31) rfl ?_
 refine w_iconst X20 hx (hb hby at_31) (v := (2 : Int32)) rfl (pc' := 32) rfl ?_
 refine w_newP X20 hx .char .char 2 rfl hZ (wd_3 hw) e20 (hb hby at_32) (by decide) (by decide) (by decide) (by decide) (by decide) (pc' := 34) rfl ?_
 intro T26 h26 k26 b26 X26 e26 E26 g26 A26
 have ge27 : n0 ≤ b26 := Nat.le_trans (Nat.le_trans Z0 E20.1) (Nat.le_of_eq g26.symm)
 have sz28 : h0.size ≤ b26 := Nat.le_trans E20.1 (Nat.le_of_eq g26.symm)
 have K29 : Keep h0 h26 [] := K23.ext E26
 have V30 : Arv Z h26 b26 k26 .char (2 : Int32) [(.int (0 : Int32)), (.int (0 : Int32))] (.int (0 : Int32)) := (Arv.new A26 (by decide)).pad (pad_rep [] (.int (0 : Int32)) 2)
 refine w_dup X26 hx (hb hby at_34) rfl (pc' := 35) rfl ?_
 refine w_iconst X26 hx (hb hby at_35) (v := (0 : Int32)) rfl (pc' := 36) rfl ?_
 refine w_iload X26 hx (hb hby at_36) rfl (pc' := 38) rfl ?_
 obtain ⟨clu31, Aru31, qu31, Su31, Nu31, Hu31, Gu31⟩ := id V30
 have hinu31 := inb_of (j := (0 : Int32)) Su31 ⟨by decide, by decide⟩
 refine w_stC X26 hx hZ e26 Aru31 hinu31 (hb hby at_38) (pc' := 39) rfl ?_
 intro T32 h32 X32 e32 W32
 have V33 : Arv Z h32 b26 k26 .char (2 : Int32) [(.int (nar .char ((p0 &&& (255 : Int32)).toUInt32.toUInt16.toUInt32.toInt32))), (.int (0 : Int32))] (.int (0 : Int32)) := Arv.set Aru31 qu31 Su31 Nu31 Hu31 Gu31 (fits_nar_char _) W32 0 rfl (Nat.le_of_ble_eq_true rfl)
 have V34 : Arv Z h32 b26 k26 .char (2 : Int32) [(.int ((p0 &&& (255 : Int32)).toUInt32.toUInt16.toUInt32.toInt32)), (.int (0 : Int32))] (.int (0 : Int32)) := by rw [nar_c] at V33; exact V33
 have K35 : Keep h0 h32 [] := K29.wr W32 (Or.inr sz28)
 have N36 := Fr.snoc X32 N0 ge27
 refine w_dup X32 hx (hb hby at_39) rfl (pc' := 40) rfl ?_
 refine w_iconst X32 hx (hb hby at_40) (v := (1 : Int32)) rfl (pc' := 41) rfl ?_
 refine w_iload X32 hx (hb hby at_41) rfl (pc' := 43) rfl ?_
 obtain ⟨clu37, Aru37, qu37, Su37, Nu37, Hu37, Gu37⟩ := id V34
 have hinu37 := inb_of (j := (1 : Int32)) Su37 ⟨by decide, by decide⟩
 refine w_stC X32 hx hZ e32 Aru37 hinu37 (hb hby at_43) (pc' := 44) rfl ?_
 intro T38 h38 X38 e38 W38
 have V39 : Arv Z h38 b26 k26 .char (2 : Int32) [(.int ((p0 &&& (255 : Int32)).toUInt32.toUInt16.toUInt32.toInt32)), (.int (nar .char ((((p0.toUInt32 >>> ((8 : Int32) &&& 31).toUInt32).toInt32) &&& (255 : Int32)).toUInt32.toUInt16.toUInt32.toInt32)))] (.int (0 : Int32)) := Arv.set Aru37 qu37 Su37 Nu37 Hu37 Gu37 (fits_nar_char _) W38 1 rfl (Nat.le_of_ble_eq_true rfl)
 have V40 : Arv Z h38 b26 k26 .char (2 : Int32) [(.int ((p0 &&& (255 : Int32)).toUInt32.toUInt16.toUInt32.toInt32)), (.int ((((p0.toUInt32 >>> ((8 : Int32) &&& 31).toUInt32).toInt32) &&& (255 : Int32)).toUInt32.toUInt16.toUInt32.toInt32))] (.int (0 : Int32)) := by rw [nar_c] at V39; exact V39
 have K41 : Keep h0 h38 [] := K35.wr W38 (Or.inr sz28)
 have N42 := Fr.snoc X38 N36 ge27
 have le43 : h0.size ≤ h26.size := (Nat.le_trans E20.1 E26.1)
 have le44 : h0.size ≤ h32.size := (Nat.le_trans le43 (Keep.of_wr W32).1)
 have le45 : h0.size ≤ h38.size := (Nat.le_trans le44 (Keep.of_wr W38).1)
 have f47 : Exa Z h38 b20 kc0 := (((A20.ext E26).wr W32).wr W38)
 have ne48 : b20 ≠ b26 := (Nat.ne_of_lt (Nat.lt_of_lt_of_le A20.lt (Nat.le_trans (Nat.le_refl _) (Nat.le_of_eq g26.symm))))
 have f49 : Fld Z h38 b20 kc0 "value" "[B" .null := (((f25.ext E26).other W32 (Or.inl ne48)).other W38 (Or.inl ne48))
 have f50 : Fld Z h38 b20 kc0 "coder" "B" (.int (0 : Int32)) := (((f24.ext E26).other W32 (Or.inl ne48)).other W38 (Or.inl ne48))
 have f51 : Old Z n0 h38 := ((((O0.ext E20).ext E26).wr W32 ge27).wr W38 ge27)
 refine w_special X38 hx (y := yn_1) rfl hown (mvT hZ (wd_4 hw)) (mvT hZ (wd_5 hw)) (mvT hZ (wd_6 hw)) (by decide) (StrChars.Road.backV (W := 1) hZ (own_hws hw) (kI := 4) (wd_1 hw) (cs := ([((p0 &&& (255 : Int32)).toUInt32.toUInt16.toUInt32.toInt32), ((((p0.toUInt32 >>> ((8 : Int32) &&& 31).toUInt32).toInt32) &&& (255 : Int32)).toUInt32.toUInt16.toUInt32.toInt32)] : List Int32)) (bs := ([((p0 &&& (255 : Int32)).toUInt32.toUInt16.toUInt32.toInt32), ((((p0.toUInt32 >>> ((8 : Int32) &&& 31).toUInt32).toInt32) &&& (255 : Int32)).toUInt32.toUInt16.toUInt32.toInt32)] : List Int32).map (fun c => c.toInt8.toInt32)) (n := 2) ge21 (Nat.le_trans Z0 le45) f47 f49 f50 V40 (S_COMPACT_STRINGS.ext f51.2) hP_6 rfl rfl (by decide) (by decide) (List.forall_mem_cons.2 ⟨(own_and255 p0), (List.forall_mem_cons.2 ⟨(own_and255 ((p0.toUInt32 >>> ((8 : Int32) &&& 31).toUInt32).toInt32)), (fun _ h => nomatch h)⟩)⟩) rfl (by decide) (by decide)) (by rw [hml]; rfl) [(.ref b26)] (lenOf pd_0 rfl) rfl (Nat.le_of_eq rfl) (hb hby at_44) (fun _ _ => ⟨rfl, e38, (by decide : 2 + 1 ≤ _), (by decide : 6 + 2 ≤ _)⟩) (pc' := 47) rfl ?_
 rintro _ _ ⟨T46, L46, k46, n46⟩ X46 ⟨Lc46, hQ46, l46, y46, z46⟩
 dsimp only [Pt.U, Pt.locs, Pt.cells, Pt.slots] at X46 l46 y46 z46 hQ46 ⊢
 subst l46 y46 z46
 obtain ⟨rfl, N46q, K46, g46_0, g46_1, t_46, kb_46, g46_2, g46_3, g46_4, g46_5, g46_6⟩ := hQ46
 have N52 := Fr.app N42 N46q
 have K53 : Keep h0 T46.heap [] := K41.trans K46 (allS (Or.inr sz22) (all0 (P := fun x => x ∈ [] ∨ h0.size ≤ x)))
 have ge54 : n0 ≤ t_46 := Nat.le_trans (Nat.le_trans Z0 le45) g46_3
 have sz55 : h0.size ≤ t_46 := Nat.le_trans le45 g46_3
 show Runs _ _ _ _ (T46.setTop (mkF m 47 #[.val (.int p0), .val (.int p1), .val (.int p2), .val (.int p3), .val (.int p4), .val (.int p5), .val (.int ((p0 &&& (255 : Int32)).toUInt32.toUInt16.toUInt32.toInt32)), .val (.int ((((p0.toUInt32 >>> ((8 : Int32) &&& 31).toUInt32).toInt32) &&& (255 : Int32)).toUInt32.toUInt16.toUInt32.toInt32)), .val (.int ((p1 &&& (255 : Int32)).toUInt32.toUInt16.toUInt32.toInt32)), .unset, .unset, .unset, .unset, .unset, .unset, .unset, .unset, .unset, .unset, .unset, .unset] [(.ref b20)]))
 refine w_astore X46 hx (hb hby at_47) rfl (L' := #[.val (.int p0), .val (.int p1), .val (.int p2), .val (.int p3), .val (.int p4), .val (.int p5), .val (.int ((p0 &&& (255 : Int32)).toUInt32.toUInt16.toUInt32.toInt32)), .val (.int ((((p0.toUInt32 >>> ((8 : Int32) &&& 31).toUInt32).toInt32) &&& (255 : Int32)).toUInt32.toUInt16.toUInt32.toInt32)), .val (.int ((p1 &&& (255 : Int32)).toUInt32.toUInt16.toUInt32.toInt32)), .val (.ref b20), .unset, .unset, .unset, .unset, .unset, .unset, .unset, .unset, .unset, .unset, .unset]) rfl (pc' := 49) rfl ?_
 refine w_iload X46 hx (hb hby at_49) rfl (pc' := 51) rfl ?_
 have f56 : Old Z n0 T46.heap := (f51.keep K46 (allS ge21 all0))
 have le57 : h0.size ≤ T46.heap.size := (Nat.le_trans le45 K46.1)
 refine w_static X46 hx (y := yn_7) hown (mvT hZ (wd_30 hw)) (mvT hZ (wd_31 hw)) (mvT hZ (wd_2 hw)) (mvT hZ (wd_32 hw)) (by decide) (backOf (W := 0) (rm_m7_1 l Z aZ hw [] ((p1 &&& (255 : Int32)).toUInt32.toUInt16.toUInt32.toInt32) G_COMPACT_STRINGS T46.heap n0 (Nat.le_trans Z0 le57) S_COMPACT_STRINGS f56 hP_6 (own_and255 p1).2) hZ (wd_32 hw) (wd_2 hw) (by decide) (by decide)) (by rw [hml]; rfl) [(.int ((p1 &&& (255 : Int32)).toUInt32.toUInt16.toUInt32.toInt32))] (lenOf pd_4 rfl) rfl (Nat.le_of_eq rfl) (hb hby at_51) (fun _ _ => ⟨rfl, rfl, (by decide : 3 + 2 ≤ _), (by decide : 8 + 5 ≤ _)⟩) (pc' := 54) rfl ?_
 rintro _ _ ⟨T58, L58, k58, n58⟩ X58 ⟨Lc58, hQ58, l58, y58, z58⟩
 dsimp only [Pt.U, Pt.locs, Pt.cells, Pt.slots] at X58 l58 y58 z58 hQ58 ⊢
 subst l58 y58 z58
 obtain ⟨r0_58, r1_58, c0_58, rfl, N58q, K58, g58_0, g58_1, g58_2, g58_3, g58_4, g58_5⟩ := hQ58
 have N59 := Fr.app N52 N58q
 have K60 : Keep h0 T58.heap [] := K53.trans K58 (all0 (P := fun x => x ∈ [] ∨ h0.size ≤ x))
 have ge61 : n0 ≤ r0_58 := Nat.le_trans (Nat.le_trans Z0 le57) g58_0
 have sz62 : h0.size ≤ r0_58 := Nat.le_trans le57 g58_0
 have ge63 : n0 ≤ r1_58 := Nat.le_trans (Nat.le_trans Z0 le57) g58_1
 have sz64 : h0.size ≤ r1_58 := Nat.le_trans le57 g58_1
 show Runs _ _ _ _ (T58.setTop (mkF m 54 #[.val (.int p0), .val (.int p1), .val (.int p2), .val (.int p3), .val (.int p4), .val (.int p5), .val (.int ((p0 &&& (255 : Int32)).toUInt32.toUInt16.toUInt32.toInt32)), .val (.int ((((p0.toUInt32 >>> ((8 : Int32) &&& 31).toUInt32).toInt32) &&& (255 : Int32)).toUInt32.toUInt16.toUInt32.toInt32)), .val (.int ((p1 &&& (255 : Int32)).toUInt32.toUInt16.toUInt32.toInt32)), .val (.ref b20), .unset, .unset, .unset, .unset, .unset, .unset, .unset, .unset, .unset, .unset, .unset] [(.ref r0_58)]))
 refine w_astore X58 hx (hb hby at_54) rfl (L' := #[.val (.int p0), .val (.int p1), .val (.int p2), .val (.int p3), .val (.int p4), .val (.int p5), .val (.int ((p0 &&& (255 : Int32)).toUInt32.toUInt16.toUInt32.toInt32)), .val (.int ((((p0.toUInt32 >>> ((8 : Int32) &&& 31).toUInt32).toInt32) &&& (255 : Int32)).toUInt32.toUInt16.toUInt32.toInt32)), .val (.int ((p1 &&& (255 : Int32)).toUInt32.toUInt16.toUInt32.toInt32)), .val (.ref b20), .val (.ref r0_58), .unset, .unset, .unset, .unset, .unset, .unset, .unset, .unset, .unset, .unset]) rfl (pc' := 56) rfl ?_
 refine w_iload X58 hx (hb hby at_56) rfl (pc' := 58) rfl ?_
 refine w_istore X58 hx (hb hby at_58) (L' := #[.val (.int p0), .val (.int p1), .val (.int p2), .val (.int p3), .val (.int p4), .val (.int p5), .val (.int ((p0 &&& (255 : Int32)).toUInt32.toUInt16.toUInt32.toInt32)), .val (.int ((((p0.toUInt32 >>> ((8 : Int32) &&& 31).toUInt32).toInt32) &&& (255 : Int32)).toUInt32.toUInt16.toUInt32.toInt32)), .val (.int ((p1 &&& (255 : Int32)).toUInt32.toUInt16.toUInt32.toInt32)), .val (.ref b20), .val (.ref r0_58), .val (.int p5), .unset, .unset, .unset, .unset, .unset, .unset, .unset, .unset, .unset]) rfl (pc' := 60) rfl ?_
 refine w_iload X58 hx (hb hby at_60) rfl (pc' := 62) rfl ?_
 refine w_iloadN X58 hx (hb hby at_62) rfl (pc' := 63) rfl ?_
 refine w_ixor X58 hx (hb hby at_63) (pc' := 64) rfl ?_
 refine w_istore X58 hx (hb hby at_64) (L' := #[.val (.int p0), .val (.int p1), .val (.int p2), .val (.int p3), .val (.int p4), .val (.int p5), .val (.int ((p0 &&& (255 : Int32)).toUInt32.toUInt16.toUInt32.toInt32)), .val (.int ((((p0.toUInt32 >>> ((8 : Int32) &&& 31).toUInt32).toInt32) &&& (255 : Int32)).toUInt32.toUInt16.toUInt32.toInt32)), .val (.int ((p1 &&& (255 : Int32)).toUInt32.toUInt16.toUInt32.toInt32)), .val (.ref b20), .val (.ref r0_58), .val (.int p5), .val (.int (p5 ^^^ p3)), .unset, .unset, .unset, .unset, .unset, .unset, .unset, .unset]) rfl (pc' := 66) rfl ?_
 refine w_new X58 hx hZ hown (wd_44 hw) (wd_45 hw) (wd_46 hw) rfl (hb hby at_66) (by decide) (by decide) (pc' := 69) rfl ?_
 intro T65 h65 b65 X65 e65 E65 g65 A65 D65
 have le67 : h0.size ≤ T58.heap.size := (Nat.le_trans le57 K58.1)
 have ge66 : n0 ≤ b65 := Nat.le_trans (Nat.le_trans Z0 le67) (Nat.le_of_eq g65.symm)
 have sz68 : h0.size ≤ b65 := Nat.le_trans le67 (Nat.le_of_eq g65.symm)
 have K69 : Keep h0 h65 [] := K60.ext E65
 have f70 : Fld Z h65 b65 kc1 "name" "Ljava/lang/String;" .null := D65 (Or.inr (wd_80 hw)) (ty := (.object kc0)) (by decide)
 have f71 : Fld Z h65 b65 kc1 "side" "Ljava/lang/String;" .null := D65 (Or.inr (wd_82 hw)) (ty := (.object kc0)) (by decide)
 have f72 : Fld Z h65 b65 kc1 "initiative" "I" (.int (0 : Int32)) := D65 (Or.inr (wd_84 hw)) (ty := .int) (by decide)
 have f73 : Fld Z h65 b65 kc1 "agility" "I" (.int (0 : Int32)) := D65 (Or.inr (wd_86 hw)) (ty := .int) (by decide)
 have f74 : Fld Z h65 b65 kc1 "vitality" "I" (.int (0 : Int32)) := D65 (Or.inr (wd_88 hw)) (ty := .int) (by decide)
 have f75 : Fld Z h65 b65 kc1 "fortitude" "I" (.int (0 : Int32)) := D65 (Or.inr (wd_90 hw)) (ty := .int) (by decide)
 have f76 : Fld Z h65 b65 kc1 "extraPoints" "I" (.int (0 : Int32)) := D65 (Or.inr (wd_92 hw)) (ty := .int) (by decide)
 have f77 : Fld Z h65 b65 kc1 "resistances" "Ljava/util/Map;" .null := D65 (Or.inr (wd_94 hw)) (ty := (.object "java/util/Map")) (by decide)
 have f78 : Fld Z h65 b65 kc1 "vulnerabilities" "Ljava/util/Set;" .null := D65 (Or.inr (wd_96 hw)) (ty := (.object "java/util/Set")) (by decide)
 refine w_dup X65 hx (hb hby at_69) rfl (pc' := 70) rfl ?_
 refine w_aload X65 hx (hb hby at_70) rfl rfl (pc' := 72) rfl ?_
 refine w_aload X65 hx (hb hby at_72) rfl rfl (pc' := 74) rfl ?_
 refine w_iloadN X65 hx (hb hby at_74) rfl (pc' := 75) rfl ?_
 refine w_iloadN X65 hx (hb hby at_75) rfl (pc' := 76) rfl ?_
 refine w_iload X65 hx (hb hby at_76) rfl (pc' := 78) rfl ?_
 refine w_iload X65 hx (hb hby at_78) rfl (pc' := 80) rfl ?_
 refine w_iload X65 hx (hb hby at_80) rfl (pc' := 82) rfl ?_
 have f79 : Old Z n0 h65 := ((f56.keep K58 all0).ext E65)
 have le80 : h0.size ≤ h65.size := (Nat.le_trans le67 E65.1)
 refine w_static X65 hx (y := yn_11) hown (mvT hZ (wd_47 hw)) (mvT hZ (wd_48 hw)) (mvT hZ (wd_49 hw)) (mvT hZ (wd_50 hw)) (by decide) (backOf (W := 9) (rm_m11_5 l Z aZ hw [] G_EMPTY_MAP h65 n0 (Nat.le_trans Z0 le80) S_EMPTY_MAP f79) hZ (wd_50 hw) (wd_49 hw) (by decide) (by decide)) (by rw [hml]; rfl) [] (lenOf pd_5 rfl) rfl (Nat.le_of_eq rfl) (hb hby at_82) (fun _ _ => ⟨rfl, e65, (by decide : 6 + 0 ≤ _), (by decide : 22 + 0 ≤ _)⟩) (pc' := 85) rfl ?_
 rintro _ _ ⟨T81, L81, k81, n81⟩ X81 ⟨Lc81, hQ81, l81, y81, z81⟩
 dsimp only [Pt.U, Pt.locs, Pt.cells, Pt.slots] at X81 l81 y81 z81 hQ81 ⊢
 subst l81 y81 z81
 obtain ⟨rfl, N81q, e81⟩ := hQ81
 have N82 := Fr.app N59 N81q
 show Runs _ _ _ _ (T81.setTop (mkF m 85 #[.val (.int p0), .val (.int p1), .val (.int p2), .val (.int p3), .val (.int p4), .val (.int p5), .val (.int ((p0 &&& (255 : Int32)).toUInt32.toUInt16.toUInt32.toInt32)), .val (.int ((((p0.toUInt32 >>> ((8 : Int32) &&& 31).toUInt32).toInt32) &&& (255 : Int32)).toUInt32.toUInt16.toUInt32.toInt32)), .val (.int ((p1 &&& (255 : Int32)).toUInt32.toUInt16.toUInt32.toInt32)), .val (.ref b20), .val (.ref r0_58), .val (.int p5), .val (.int (p5 ^^^ p3)), .unset, .unset, .unset, .unset, .unset, .unset, .unset, .unset] [(.ref G_EMPTY_MAP), (.int (p5 ^^^ p3)), (.int p5), (.int p4), (.int p3), (.int p2), (.ref r0_58), (.ref b20), (.ref b65), (.ref b65)]))
 refine w_static X81 hx (y := yn_12) hown (mvT hZ (wd_53 hw)) (mvT hZ (wd_54 hw)) (mvT hZ (wd_55 hw)) (mvT hZ (wd_56 hw)) (by decide) (backOf (W := 10) (rm_m12_6 l Z aZ hw [] G_EMPTY_SET h65 n0 (Nat.le_trans Z0 le80) S_EMPTY_SET f79) hZ (wd_56 hw) (wd_55 hw) (by decide) (by decide)) (by rw [hml]; rfl) [] (lenOf pd_6 rfl) rfl (Nat.le_of_eq rfl) (hb hby at_85) (fun _ _ => ⟨rfl, e81, (by decide : 6 + 0 ≤ _), (by decide : 22 + 0 ≤ _)⟩) (pc' := 88) rfl ?_
 rintro _ _ ⟨T83, L83, k83, n83⟩ X83 ⟨Lc83, hQ83, l83, y83, z83⟩
 dsimp only [Pt.U, Pt.locs, Pt.cells, Pt.slots] at X83 l83 y83 z83 hQ83 ⊢
 subst l83 y83 z83
 obtain ⟨rfl, N83q, e83⟩ := hQ83
 have N84 := Fr.app N82 N83q
 show Runs _ _ _ _ (T83.setTop (mkF m 88 #[.val (.int p0), .val (.int p1), .val (.int p2), .val (.int p3), .val (.int p4), .val (.int p5), .val (.int ((p0 &&& (255 : Int32)).toUInt32.toUInt16.toUInt32.toInt32)), .val (.int ((((p0.toUInt32 >>> ((8 : Int32) &&& 31).toUInt32).toInt32) &&& (255 : Int32)).toUInt32.toUInt16.toUInt32.toInt32)), .val (.int ((p1 &&& (255 : Int32)).toUInt32.toUInt16.toUInt32.toInt32)), .val (.ref b20), .val (.ref r0_58), .val (.int p5), .val (.int (p5 ^^^ p3)), .unset, .unset, .unset, .unset, .unset, .unset, .unset, .unset] [(.ref G_EMPTY_SET), (.ref G_EMPTY_MAP), (.int (p5 ^^^ p3)), (.int p5), (.int p4), (.int p3), (.int p2), (.ref r0_58), (.ref b20), (.ref b65), (.ref b65)]))
 have f85 : Exa Z h65 G_EMPTY_MAP "java/util/ImmutableCollections$MapN" := (((((((E_G_EMPTY_MAP.ext E20).ext E26).wr W32).wr W38).keep K46).keep K58).ext E65)
 have f86 : Exa Z h65 G_EMPTY_SET "java/util/ImmutableCollections$SetN" := (((((((E_G_EMPTY_SET.ext E20).ext E26).wr W32).wr W38).keep K46).keep K58).ext E65)
 refine w_special X83 hx (y := yn_13) rfl hown (mvT hZ (wd_58 hw)) (mvT hZ (wd_59 hw)) (mvT hZ (wd_60 hw)) (by decide) (backOf (W := 1) (rm_m13_7 l Z aZ hw [] b65 b20 r0_58 p2 p3 p4 p5 (p5 ^^^ p3) G_EMPTY_MAP G_EMPTY_SET h65 n0 (Nat.le_trans Z0 le80) f85 f86 A65 f70 ge66 f71 f72 f73 f74 f75 f76 f77 f78) hZ (wd_60 hw) (wd_46 hw) (by decide) (by decide)) (by rw [hml]; rfl) [(.ref b20), (.ref r0_58), (.int p2), (.int p3), (.int p4), (.int p5), (.int (p5 ^^^ p3)), (.ref G_EMPTY_MAP), (.ref G_EMPTY_SET)] (lenOf pd_10 rfl) rfl (Nat.le_of_eq rfl) (hb hby at_88) (fun _ _ => ⟨rfl, e83, (by decide : 6 + 0 ≤ _), (by decide : 22 + 0 ≤ _)⟩) (pc' := 91) rfl ?_
 rintro _ _ ⟨T87, L87, k87, n87⟩ X87 ⟨Lc87, hQ87, l87, y87, z87⟩
 dsimp only [Pt.U, Pt.locs, Pt.cells, Pt.slots] at X87 l87 y87 z87 hQ87 ⊢
 subst l87 y87 z87
 obtain ⟨rfl, N87q, K87, g87_0, g87_1, g87_2, g87_3, g87_4, g87_5, g87_6, g87_7, g87_8, g87_9⟩ := hQ87
 have N88 := Fr.app N84 N87q
 have K89 : Keep h0 T87.heap [] := K69.trans K87 (allS (Or.inr sz68) (all0 (P := fun x => x ∈ [] ∨ h0.size ≤ x)))
 show Runs _ _ _ _ (T87.setTop (mkF m 91 #[.val (.int p0), .val (.int p1), .val (.int p2), .val (.int p3), .val (.int p4), .val (.int p5), .val (.int ((p0 &&& (255 : Int32)).toUInt32.toUInt16.toUInt32.toInt32)), .val (.int ((((p0.toUInt32 >>> ((8 : Int32) &&& 31).toUInt32).toInt32) &&& (255 : Int32)).toUInt32.toUInt16.toUInt32.toInt32)), .val (.int ((p1 &&& (255 : Int32)).toUInt32.toUInt16.toUInt32.toInt32)), .val (.ref b20), .val (.ref r0_58), .val (.int p5), .val (.int (p5 ^^^ p3)), .unset, .unset, .unset, .unset, .unset, .unset, .unset, .unset] [(.ref b65)]))
 refine w_astore X87 hx (hb hby at_91) rfl (L' := #[.val (.int p0), .val (.int p1), .val (.int p2), .val (.int p3), .val (.int p4), .val (.int p5), .val (.int ((p0 &&& (255 : Int32)).toUInt32.toUInt16.toUInt32.toInt32)), .val (.int ((((p0.toUInt32 >>> ((8 : Int32) &&& 31).toUInt32).toInt32) &&& (255 : Int32)).toUInt32.toUInt16.toUInt32.toInt32)), .val (.int ((p1 &&& (255 : Int32)).toUInt32.toUInt16.toUInt32.toInt32)), .val (.ref b20), .val (.ref r0_58), .val (.int p5), .val (.int (p5 ^^^ p3)), .val (.ref b65), .unset, .unset, .unset, .unset, .unset, .unset, .unset]) rfl (pc' := 93) rfl ?_
 refine w_aload X87 hx (hb hby at_93) rfl rfl (pc' := 95) rfl ?_
 have le90 : h0.size ≤ T87.heap.size := (Nat.le_trans le80 K87.1)
 obtain ⟨cq91, kq91, q91a, q91b, q91c⟩ := isOf hZ rfl g87_0
 refine w_virtual X87 hx (y := yn_17) (z := yn_17) hown (mvT hZ (wd_97 hw)) (mvT hZ (wd_98 hw)) (notFace_of_selects (args := #[]) (mvT hZ (wd_100 hw))) (mvT hZ (wd_100 hw)) (mvT hZ (wd_99 hw)) (by decide) (backOf (W := 0) (rm_m17_11 l Z aZ hw [] b65 b20 r0_58 p2 T87.heap n0 (Nat.le_trans Z0 le90) g87_1 g87_2 g87_3) hZ (wd_101 hw) (wd_46 hw) (by decide) (by decide)) q91a q91c (by rw [hml]; rfl) [] (lenOf pd_13 rfl) rfl (Nat.le_of_eq rfl) (hb hby at_95) (fun _ _ => ⟨rfl, rfl, (by decide : 6 + 1 ≤ _), (by decide : 22 + 4 ≤ _)⟩) (pc' := 98) rfl ?_
 rintro _ _ ⟨T91, L91, k91, n91⟩ X91 ⟨Lc91, hQ91, l91, y91, z91⟩
 dsimp only [Pt.U, Pt.locs, Pt.cells, Pt.slots] at X91 l91 y91 z91 hQ91 ⊢
 subst l91 y91 z91
 obtain ⟨r0_91, rfl, N91q, K91, g91_0, g91_1, g91_2, g91_3, g91_4, g91_5⟩ := hQ91
 have N92 := Fr.app N88 N91q
 have K93 : Keep h0 T91.heap [] := K89.trans K91 (all0 (P := fun x => x ∈ [] ∨ h0.size ≤ x))
 have ge94 : n0 ≤ r0_91 := Nat.le_trans (Nat.le_trans Z0 le90) g91_0
 have sz95 : h0.size ≤ r0_91 := Nat.le_trans le90 g91_0
 show Runs _ _ _ _ (T91.setTop (mkF m 98 #[.val (.int p0), .val (.int p1), .val (.int p2), .val (.int p3), .val (.int p4), .val (.int p5), .val (.int ((p0 &&& (255 : Int32)).toUInt32.toUInt16.toUInt32.toInt32)), .val (.int ((((p0.toUInt32 >>> ((8 : Int32) &&& 31).toUInt32).toInt32) &&& (255 : Int32)).toUInt32.toUInt16.toUInt32.toInt32)), .val (.int ((p1 &&& (255 : Int32)).toUInt32.toUInt16.toUInt32.toInt32)), .val (.ref b20), .val (.ref r0_58), .val (.int p5), .val (.int (p5 ^^^ p3)), .val (.ref b65), .unset, .unset, .unset, .unset, .unset, .unset, .unset] [(.ref r0_91)]))
 refine w_astore X91 hx (hb hby at_98) rfl (L' := #[.val (.int p0), .val (.int p1), .val (.int p2), .val (.int p3), .val (.int p4), .val (.int p5), .val (.int ((p0 &&& (255 : Int32)).toUInt32.toUInt16.toUInt32.toInt32)), .val (.int ((((p0.toUInt32 >>> ((8 : Int32) &&& 31).toUInt32).toInt32) &&& (255 : Int32)).toUInt32.toUInt16.toUInt32.toInt32)), .val (.int ((p1 &&& (255 : Int32)).toUInt32.toUInt16.toUInt32.toInt32)), .val (.ref b20), .val (.ref r0_58), .val (.int p5), .val (.int (p5 ^^^ p3)), .val (.ref b65), .val (.ref r0_91), .unset, .unset, .unset, .unset, .unset, .unset]) rfl (pc' := 100) rfl ?_
 refine w_aload X91 hx (hb hby at_100) rfl rfl (pc' := 102) rfl ?_
 have le96 : h0.size ≤ T91.heap.size := (Nat.le_trans le90 K91.1)
 obtain ⟨cq97, kq97, q97a, q97b, q97c⟩ := isOf hZ rfl g91_1
 refine w_virtual X91 hx (y := yn_20) (z := yn_20) hown (mvT hZ (wd_120 hw)) (mvT hZ (wd_121 hw)) (notFace_of_selects (args := #[]) (mvT hZ (wd_123 hw))) (mvT hZ (wd_123 hw)) (mvT hZ (wd_122 hw)) (by decide) (backOf (W := 0) (rm_m20_14 l Z aZ hw [] r0_91 b20 T91.heap n0 (Nat.le_trans Z0 le96) g91_2) hZ (wd_124 hw) (wd_104 hw) (by decide) (by decide)) q97a q97c (by rw [hml]; rfl) [] (lenOf pd_14 rfl) rfl (Nat.le_of_eq rfl) (hb hby at_102) (fun _ _ => ⟨rfl, rfl, (by decide : 7 + 0 ≤ _), (by decide : 26 + 0 ≤ _)⟩) (pc' := 105) rfl ?_
 rintro _ _ ⟨T97, L97, k97, n97⟩ X97 ⟨Lc97, hQ97, l97, y97, z97⟩
 dsimp only [Pt.U, Pt.locs, Pt.cells, Pt.slots] at X97 l97 y97 z97 hQ97 ⊢
 subst l97 y97 z97
 obtain ⟨rfl, N97q, e97⟩ := hQ97
 have N98 := Fr.app N92 N97q
 show Runs _ _ _ _ (T97.setTop (mkF m 105 #[.val (.int p0), .val (.int p1), .val (.int p2), .val (.int p3), .val (.int p4), .val (.int p5), .val (.int ((p0 &&& (255 : Int32)).toUInt32.toUInt16.toUInt32.toInt32)), .val (.int ((((p0.toUInt32 >>> ((8 : Int32) &&& 31).toUInt32).toInt32) &&& (255 : Int32)).toUInt32.toUInt16.toUInt32.toInt32)), .val (.int ((p1 &&& (255 : Int32)).toUInt32.toUInt16.toUInt32.toInt32)), .val (.ref b20), .val (.ref r0_58), .val (.int p5), .val (.int (p5 ^^^ p3)), .val (.ref b65), .val (.ref r0_91), .unset, .unset, .unset, .unset, .unset, .unset] [(.ref b20)]))
 refine w_astore X97 hx (hb hby at_105) rfl (L' := #[.val (.int p0), .val (.int p1), .val (.int p2), .val (.int p3), .val (.int p4), .val (.int p5), .val (.int ((p0 &&& (255 : Int32)).toUInt32.toUInt16.toUInt32.toInt32)), .val (.int ((((p0.toUInt32 >>> ((8 : Int32) &&& 31).toUInt32).toInt32) &&& (255 : Int32)).toUInt32.toUInt16.toUInt32.toInt32)), .val (.int ((p1 &&& (255 : Int32)).toUInt32.toUInt16.toUInt32.toInt32)), .val (.ref b20), .val (.ref r0_58), .val (.int p5), .val (.int (p5 ^^^ p3)), .val (.ref b65), .val (.ref r0_91), .val (.ref b20), .unset, .unset, .unset, .unset, .unset]) rfl (pc' := 107) rfl ?_
 refine w_aload X97 hx (hb hby at_107) rfl rfl (pc' := 109) rfl ?_
 obtain ⟨cq99, kq99, q99a, q99b, q99c⟩ := isOf hZ e97 g91_1
 refine w_virtual X97 hx (y := yn_21) (z := yn_21) hown (mvT hZ (wd_125 hw)) (mvT hZ (wd_126 hw)) (notFace_of_selects (args := #[]) (mvT hZ (wd_128 hw))) (mvT hZ (wd_128 hw)) (mvT hZ (wd_127 hw)) (by decide) (backOf (W := 0) (rm_m21_15 l Z aZ hw [] r0_91 r0_58 T91.heap n0 (Nat.le_trans Z0 le96) g91_3) hZ (wd_129 hw) (wd_104 hw) (by decide) (by decide)) q99a q99c (by rw [hml]; rfl) [] (lenOf pd_14 rfl) rfl (Nat.le_of_eq rfl) (hb hby at_109) (fun _ _ => ⟨rfl, e97, (by decide : 7 + 0 ≤ _), (by decide : 26 + 0 ≤ _)⟩) (pc' := 112) rfl ?_
 rintro _ _ ⟨T99, L99, k99, n99⟩ X99 ⟨Lc99, hQ99, l99, y99, z99⟩
 dsimp only [Pt.U, Pt.locs, Pt.cells, Pt.slots] at X99 l99 y99 z99 hQ99 ⊢
 subst l99 y99 z99
 obtain ⟨rfl, N99q, e99⟩ := hQ99
 have N100 := Fr.app N98 N99q
 show Runs _ _ _ _ (T99.setTop (mkF m 112 #[.val (.int p0), .val (.int p1), .val (.int p2), .val (.int p3), .val (.int p4), .val (.int p5), .val (.int ((p0 &&& (255 : Int32)).toUInt32.toUInt16.toUInt32.toInt32)), .val (.int ((((p0.toUInt32 >>> ((8 : Int32) &&& 31).toUInt32).toInt32) &&& (255 : Int32)).toUInt32.toUInt16.toUInt32.toInt32)), .val (.int ((p1 &&& (255 : Int32)).toUInt32.toUInt16.toUInt32.toInt32)), .val (.ref b20), .val (.ref r0_58), .val (.int p5), .val (.int (p5 ^^^ p3)), .val (.ref b65), .val (.ref r0_91), .val (.ref b20), .unset, .unset, .unset, .unset, .unset] [(.ref r0_58)]))
 refine w_astore X99 hx (hb hby at_112) rfl (L' := #[.val (.int p0), .val (.int p1), .val (.int p2), .val (.int p3), .val (.int p4), .val (.int p5), .val (.int ((p0 &&& (255 : Int32)).toUInt32.toUInt16.toUInt32.toInt32)), .val (.int ((((p0.toUInt32 >>> ((8 : Int32) &&& 31).toUInt32).toInt32) &&& (255 : Int32)).toUInt32.toUInt16.toUInt32.toInt32)), .val (.int ((p1 &&& (255 : Int32)).toUInt32.toUInt16.toUInt32.toInt32)), .val (.ref b20), .val (.ref r0_58), .val (.int p5), .val (.int (p5 ^^^ p3)), .val (.ref b65), .val (.ref r0_91), .val (.ref b20), .val (.ref r0_58), .unset, .unset, .unset, .unset]) rfl (pc' := 114) rfl ?_
 refine w_aload X99 hx (hb hby at_114) rfl rfl (pc' := 116) rfl ?_
 refine w_ifnullN X99 hx (hb hby at_116) (pc' := 119) rfl ?_
 refine w_aload X99 hx (hb hby at_119) rfl rfl (pc' := 121) rfl ?_
 have le101 : h20.size ≤ h32.size := (Nat.le_trans E26.1 (Keep.of_wr W32).1)
 have le102 : h20.size ≤ h38.size := (Nat.le_trans le101 (Keep.of_wr W38).1)
 have le103 : h20.size ≤ T46.heap.size := (Nat.le_trans le102 K46.1)
 have le104 : h20.size ≤ T58.heap.size := (Nat.le_trans le103 K58.1)
 have ne105 : b20 ≠ b65 := (Nat.ne_of_lt (Nat.lt_of_lt_of_le A20.lt (Nat.le_trans le104 (Nat.le_of_eq g65.symm))))
 have f106 : Fld Z T91.heap b20 kc0 "value" "[B" (.ref t_46) := ((((g46_5.keep K58 nin0).ext E65).keep K87 (ninS ne105 nin0)).keep K91 nin0)
 have ne107 : t_46 ≠ b65 := (Nat.ne_of_lt (Nat.lt_of_lt_of_le g46_6.lt (Nat.le_trans K58.1 (Nat.le_of_eq g65.symm))))
 have f108 : Arv Z T91.heap t_46 kb_46 .byte (2 : Int32) [(.int (((p0 &&& (255 : Int32)).toUInt32.toUInt16.toUInt32.toInt32).toInt8.toInt32)), (.int (((((p0.toUInt32 >>> ((8 : Int32) &&& 31).toUInt32).toInt32) &&& (255 : Int32)).toUInt32.toUInt16.toUInt32.toInt32).toInt8.toInt32))] (.int (0 : Int32)) := ((((g46_6.keep K58 nin0).ext E65).keep K87 (ninS ne107 nin0)).keep K91 nin0)
 have f109 : Exa Z T91.heap b20 kc0 := ((((g46_0.keep K58).ext E65).keep K87).keep K91)
 have f110 : Fld Z T91.heap b20 kc0 "coder" "B" (.int (0 : Int32)) := ((((g46_1.keep K58 nin0).ext E65).keep K87 (ninS ne105 nin0)).keep K91 nin0)
 have f111 : Old Z n0 T91.heap := ((f79.keep K87 (allS ge66 all0)).keep K91 all0)
 obtain ⟨cq112, kq112, q112a, q112b, q112c⟩ := isOf hZ e99 f109
 refine w_virtual X99 hx (y := yn_22) (z := yn_22) hown (mvT hZ (wd_130 hw)) (mvT hZ (wd_131 hw)) (notFace_of_selects (args := #[]) (mvT hZ (wd_133 hw))) (mvT hZ (wd_133 hw)) (mvT hZ (wd_132 hw)) (by decide) (backOf (W := 0) (rm_m22_16 l Z aZ hw [] b20 t_46 kb_46 (((p0 &&& (255 : Int32)).toUInt32.toUInt16.toUInt32.toInt32).toInt8.toInt32) (((((p0.toUInt32 >>> ((8 : Int32) &&& 31).toUInt32).toInt32) &&& (255 : Int32)).toUInt32.toUInt16.toUInt32.toInt32).toInt8.toInt32) G_COMPACT_STRINGS T91.heap n0 (Nat.le_trans Z0 le96) f106 f108 f109 hP_6 f110 S_COMPACT_STRINGS f111) hZ (wd_134 hw) (wd_2 hw) (by decide) (by decide)) q112a q112c (by rw [hml]; rfl) [] (lenOf pd_16 rfl) rfl (Nat.le_of_eq rfl) (hb hby at_121) (fun _ _ => ⟨rfl, e99, (by decide : 7 + 0 ≤ _), (by decide : 26 + 0 ≤ _)⟩) (pc' := 124) rfl ?_
 rintro _ _ ⟨T112, L112, k112, n112⟩ X112 ⟨Lc112, hQ112, l112, y112, z112⟩
 dsimp only [Pt.U, Pt.locs, Pt.cells, Pt.slots] at X112 l112 y112 z112 hQ112 ⊢
 subst l112 y112 z112
 obtain ⟨rfl, N112q, e112⟩ := hQ112
 have N113 := Fr.app N100 N112q
 show Runs _ _ _ _ (T112.setTop (mkF m 124 #[.val (.int p0), .val (.int p1), .val (.int p2), .val (.int p3), .val (.int p4), .val (.int p5), .val (.int ((p0 &&& (255 : Int32)).toUInt32.toUInt16.toUInt32.toInt32)), .val (.int ((((p0.toUInt32 >>> ((8 : Int32) &&& 31).toUInt32).toInt32) &&& (255 : Int32)).toUInt32.toUInt16.toUInt32.toInt32)), .val (.int ((p1 &&& (255 : Int32)).toUInt32.toUInt16.toUInt32.toInt32)), .val (.ref b20), .val (.ref r0_58), .val (.int p5), .val (.int (p5 ^^^ p3)), .val (.ref b65), .val (.ref r0_91), .val (.ref b20), .val (.ref r0_58), .unset, .unset, .unset, .unset] [(.int (2 : Int32))]))
 refine w_iconst X112 hx (hb hby at_124) (v := (2 : Int32)) rfl (pc' := 125) rfl ?_
 refine w_icN X112 hx (hb hby at_125) (teq (by decide : (2 : Int32) = (2 : Int32))).2 (pc' := 128) rfl ?_
 refine w_aload X112 hx (hb hby at_128) rfl rfl (pc' := 130) rfl ?_
 refine w_iconst X112 hx (hb hby at_130) (v := (0 : Int32)) rfl (pc' := 131) rfl ?_
 obtain ⟨cq114, kq114, q114a, q114b, q114c⟩ := isOf hZ e112 f109
 refine w_virtual X112 hx (y := yn_24) (z := yn_24) hown (mvT hZ (wd_140 hw)) (mvT hZ (wd_141 hw)) (notFace_of_selects (args := #[]) (mvT hZ (wd_143 hw))) (mvT hZ (wd_143 hw)) (mvT hZ (wd_142 hw)) (by decide) (backOf (W := 0) (rm_m24_18 l Z aZ hw [] b20 G_COMPACT_STRINGS t_46 kb_46 (((p0 &&& (255 : Int32)).toUInt32.toUInt16.toUInt32.toInt32).toInt8.toInt32) (((((p0.toUInt32 >>> ((8 : Int32) &&& 31).toUInt32).toInt32) &&& (255 : Int32)).toUInt32.toUInt16.toUInt32.toInt32).toInt8.toInt32) G_SIOOBE_FORMATTER T91.heap n0 (Nat.le_trans Z0 le96) f109 hP_6 f110 S_COMPACT_STRINGS f111 f106 f108 r_G_SIOOBE_FORMATTER S_SIOOBE_FORMATTER) hZ (wd_144 hw) (wd_2 hw) (by decide) (by decide)) q114a q114c (by rw [hml]; rfl) [(.int (0 : Int32))] (lenOf pd_21 rfl) rfl (Nat.le_of_eq rfl) (hb hby at_131) (fun _ _ => ⟨rfl, e112, (by decide : 7 + 0 ≤ _), (by decide : 26 + 0 ≤ _)⟩) (pc' := 134) rfl ?_
 rintro _ _ ⟨T114, L114, k114, n114⟩ X114 ⟨Lc114, hQ114, l114, y114, z114⟩
 dsimp only [Pt.U, Pt.locs, Pt.cells, Pt.slots] at X114 l114 y114 z114 hQ114 ⊢
 subst l114 y114 z114
 obtain ⟨rfl, N114q, e114⟩ := hQ114
 have N115 := Fr.app N113 N114q
 show Runs _ _ _ _ (T114.setTop (mkF m 134 #[.val (.int p0), .val (.int p1), .val (.int p2), .val (.int p3), .val (.int p4), .val (.int p5), .val (.int ((p0 &&& (255 : Int32)).toUInt32.toUInt16.toUInt32.toInt32)), .val (.int ((((p0.toUInt32 >>> ((8 : Int32) &&& 31).toUInt32).toInt32) &&& (255 : Int32)).toUInt32.toUInt16.toUInt32.toInt32)), .val (.int ((p1 &&& (255 : Int32)).toUInt32.toUInt16.toUInt32.toInt32)), .val (.ref b20), .val (.ref r0_58), .val (.int p5), .val (.int (p5 ^^^ p3)), .val (.ref b65), .val (.ref r0_91), .val (.ref b20), .val (.ref r0_58), .unset, .unset, .unset, .unset] [(.int (((((p0 &&& (255 : Int32)).toUInt32.toUInt16.toUInt32.toInt32).toInt8.toInt32) &&& (255 : Int32)).toUInt32.toUInt16.toUInt32.toInt32))]))
 refine w_iload X114 hx (hb hby at_134) rfl (pc' := 136) rfl ?_
 refine w_icN X114 hx (hb hby at_136) (teq (own_lat p0)).2 (pc' := 139) rfl ?_
 refine w_aload X114 hx (hb hby at_139) rfl rfl (pc' := 141) rfl ?_
 refine w_iconst X114 hx (hb hby at_141) (v := (1 : Int32)) rfl (pc' := 142) rfl ?_
 obtain ⟨cq116, kq116, q116a, q116b, q116c⟩ := isOf hZ e114 f109
 refine w_virtual X114 hx (y := yn_24) (z := yn_24) hown (mvT hZ (wd_140 hw)) (mvT hZ (wd_141 hw)) (notFace_of_selects (args := #[]) (mvT hZ (wd_143 hw))) (mvT hZ (wd_143 hw)) (mvT hZ (wd_142 hw)) (by decide) (backOf (W := 0) (rm_m24_23 l Z aZ hw [] b20 G_COMPACT_STRINGS t_46 kb_46 (((p0 &&& (255 : Int32)).toUInt32.toUInt16.toUInt32.toInt32).toInt8.toInt32) (((((p0.toUInt32 >>> ((8 : Int32) &&& 31).toUInt32).toInt32) &&& (255 : Int32)).toUInt32.toUInt16.toUInt32.toInt32).toInt8.toInt32) G_SIOOBE_FORMATTER T91.heap n0 (Nat.le_trans Z0 le96) f109 S_COMPACT_STRINGS f111 f110 hP_6 f106 f108 r_G_SIOOBE_FORMATTER S_SIOOBE_FORMATTER) hZ (wd_144 hw) (wd_2 hw) (by decide) (by decide)) q116a q116c (by rw [hml]; rfl) [(.int (1 : Int32))] (lenOf pd_21 rfl) rfl (Nat.le_of_eq rfl) (hb hby at_142) (fun _ _ => ⟨rfl, e114, (by decide : 7 + 0 ≤ _), (by decide : 26 + 0 ≤ _)⟩) (pc' := 145) rfl ?_
 rintro _ _ ⟨T116, L116, k116, n116⟩ X116 ⟨Lc116, hQ116, l116, y116, z116⟩
 dsimp only [Pt.U, Pt.locs, Pt.cells, Pt.slots] at X116 l116 y116 z116 hQ116 ⊢
 subst l116 y116 z116
 obtain ⟨rfl, N116q, e116⟩ := hQ116
 have N117 := Fr.app N115 N116q
 show Runs _ _ _ _ (T116.setTop (mkF m 145 #[.val (.int p0), .val (.int p1), .val (.int p2), .val (.int p3), .val (.int p4), .val (.int p5), .val (.int ((p0 &&& (255 : Int32)).toUInt32.toUInt16.toUInt32.toInt32)), .val (.int ((((p0.toUInt32 >>> ((8 : Int32) &&& 31).toUInt32).toInt32) &&& (255 : Int32)).toUInt32.toUInt16.toUInt32.toInt32)), .val (.int ((p1 &&& (255 : Int32)).toUInt32.toUInt16.toUInt32.toInt32)), .val (.ref b20), .val (.ref r0_58), .val (.int p5), .val (.int (p5 ^^^ p3)), .val (.ref b65), .val (.ref r0_91), .val (.ref b20), .val (.ref r0_58), .unset, .unset, .unset, .unset] [(.int (((((((p0.toUInt32 >>> ((8 : Int32) &&& 31).toUInt32).toInt32) &&& (255 : Int32)).toUInt32.toUInt16.toUInt32.toInt32).toInt8.toInt32) &&& (255 : Int32)).toUInt32.toUInt16.toUInt32.toInt32))]))
 refine w_iload X116 hx (hb hby at_145) rfl (pc' := 147) rfl ?_
 refine w_icN X116 hx (hb hby at_147) (teq (own_lat ((p0.toUInt32 >>> ((8 : Int32) &&& 31).toUInt32).toInt32))).2 (pc' := 150) rfl ?_
 refine w_iconst X116 hx (hb hby at_150) (v := (1 : Int32)) rfl (pc' := 151) rfl ?_
 refine w_goto X116 hx (hb hby at_151) (pc' := 155) (by decide) (by decide) ?_
 refine w_istore X116 hx (hb hby at_155) (L' := #[.val (.int p0), .val (.int p1), .val (.int p2), .val (.int p3), .val (.int p4), .val (.int p5), .val (.int ((p0 &&& (255 : Int32)).toUInt32.toUInt16.toUInt32.toInt32)), .val (.int ((((p0.toUInt32 >>> ((8 : Int32) &&& 31).toUInt32).toInt32) &&& (255 : Int32)).toUInt32.toUInt16.toUInt32.toInt32)), .val (.int ((p1 &&& (255 : Int32)).toUInt32.toUInt16.toUInt32.toInt32)), .val (.ref b20), .val (.ref r0_58), .val (.int p5), .val (.int (p5 ^^^ p3)), .val (.ref b65), .val (.ref r0_91), .val (.ref b20), .val (.ref r0_58), .val (.int (1 : Int32)), .unset, .unset, .unset]) rfl (pc' := 157) rfl ?_
 refine w_aload X116 hx (hb hby at_157) rfl rfl (pc' := 159) rfl ?_
 refine w_ifnullN X116 hx (hb hby at_159) (pc' := 162) rfl ?_
 refine w_aload X116 hx (hb hby at_162) rfl rfl (pc' := 164) rfl ?_
 have ne120 : r0_58 ≠ b65 := (Nat.ne_of_lt (Nat.lt_of_lt_of_le g58_2.lt (Nat.le_trans (Nat.le_refl _) (Nat.le_of_eq g65.symm))))
 have f121 : Fld Z T91.heap r0_58 kc0 "value" "[B" (.ref r1_58) := (((g58_4.ext E65).keep K87 (ninS ne120 nin0)).keep K91 nin0)
 have ne122 : r1_58 ≠ b65 := (Nat.ne_of_lt (Nat.lt_of_lt_of_le g58_5.lt (Nat.le_trans (Nat.le_refl _) (Nat.le_of_eq g65.symm))))
 have f123 : Arv Z T91.heap r1_58 c0_58 .byte (1 : Int32) [(.int (((p1 &&& (255 : Int32)).toUInt32.toUInt16.toUInt32.toInt32).toInt8.toInt32))] (.int (0 : Int32)) := (((g58_5.ext E65).keep K87 (ninS ne122 nin0)).keep K91 nin0)
 have f124 : Exa Z T91.heap r0_58 kc0 := (((g58_2.ext E65).keep K87).keep K91)
 have f125 : Fld Z T91.heap r0_58 kc0 "coder" "B" (.int (0 : Int32)) := (((g58_3.ext E65).keep K87 (ninS ne120 nin0)).keep K91 nin0)
 obtain ⟨cq126, kq126, q126a, q126b, q126c⟩ := isOf hZ e116 f124
 refine w_virtual X116 hx (y := yn_22) (z := yn_22) hown (mvT hZ (wd_130 hw)) (mvT hZ (wd_131 hw)) (notFace_of_selects (args := #[]) (mvT hZ (wd_133 hw))) (mvT hZ (wd_133 hw)) (mvT hZ (wd_132 hw)) (by decide) (backOf (W := 0) (rm_m22_27 l Z aZ hw [] r0_58 r1_58 c0_58 (((p1 &&& (255 : Int32)).toUInt32.toUInt16.toUInt32.toInt32).toInt8.toInt32) G_COMPACT_STRINGS T91.heap n0 (Nat.le_trans Z0 le96) f121 f123 f124 S_COMPACT_STRINGS f111 f125 hP_6) hZ (wd_134 hw) (wd_2 hw) (by decide) (by decide)) q126a q126c (by rw [hml]; rfl) [] (lenOf pd_16 rfl) rfl (Nat.le_of_eq rfl) (hb hby at_164) (fun _ _ => ⟨rfl, e116, (by decide : 7 + 0 ≤ _), (by decide : 26 + 0 ≤ _)⟩) (pc' := 167) rfl ?_
 rintro _ _ ⟨T126, L126, k126, n126⟩ X126 ⟨Lc126, hQ126, l126, y126, z126⟩
 dsimp only [Pt.U, Pt.locs, Pt.cells, Pt.slots] at X126 l126 y126 z126 hQ126 ⊢
 subst l126 y126 z126
 obtain ⟨rfl, N126q, e126⟩ := hQ126
 have N127 := Fr.app N117 N126q
 show Runs _ _ _ _ (T126.setTop (mkF m 167 #[.val (.int p0), .val (.int p1), .val (.int p2), .val (.int p3), .val (.int p4), .val (.int p5), .val (.int ((p0 &&& (255 : Int32)).toUInt32.toUInt16.toUInt32.toInt32)), .val (.int ((((p0.toUInt32 >>> ((8 : Int32) &&& 31).toUInt32).toInt32) &&& (255 : Int32)).toUInt32.toUInt16.toUInt32.toInt32)), .val (.int ((p1 &&& (255 : Int32)).toUInt32.toUInt16.toUInt32.toInt32)), .val (.ref b20), .val (.ref r0_58), .val (.int p5), .val (.int (p5 ^^^ p3)), .val (.ref b65), .val (.ref r0_91), .val (.ref b20), .val (.ref r0_58), .val (.int (1 : Int32)), .unset, .unset, .unset] [(.int (1 : Int32))]))
 refine w_iconst X126 hx (hb hby at_167) (v := (1 : Int32)) rfl (pc' := 168) rfl ?_
 refine w_icN X126 hx (hb hby at_168) (teq (by decide : (1 : Int32) = (1 : Int32))).2 (pc' := 171) rfl ?_
 refine w_aload X126 hx (hb hby at_171) rfl rfl (pc' := 173) rfl ?_
 refine w_iconst X126 hx (hb hby at_173) (v := (0 : Int32)) rfl (pc' := 174) rfl ?_
 obtain ⟨cq128, kq128, q128a, q128b, q128c⟩ := isOf hZ e126 f124
 refine w_virtual X126 hx (y := yn_24) (z := yn_24) hown (mvT hZ (wd_140 hw)) (mvT hZ (wd_141 hw)) (notFace_of_selects (args := #[]) (mvT hZ (wd_143 hw))) (mvT hZ (wd_143 hw)) (mvT hZ (wd_142 hw)) (by decide) (backOf (W := 0) (rm_m24_28 l Z aZ hw [] r0_58 G_COMPACT_STRINGS r1_58 c0_58 (((p1 &&& (255 : Int32)).toUInt32.toUInt16.toUInt32.toInt32).toInt8.toInt32) G_SIOOBE_FORMATTER T91.heap n0 (Nat.le_trans Z0 le96) f124 S_COMPACT_STRINGS f111 f125 hP_6 f121 f123 r_G_SIOOBE_FORMATTER S_SIOOBE_FORMATTER) hZ (wd_144 hw) (wd_2 hw) (by decide) (by decide)) q128a q128c (by rw [hml]; rfl) [(.int (0 : Int32))] (lenOf pd_21 rfl) rfl (Nat.le_of_eq rfl) (hb hby at_174) (fun _ _ => ⟨rfl, e126, (by decide : 7 + 0 ≤ _), (by decide : 26 + 0 ≤ _)⟩) (pc' := 177) rfl ?_
 rintro _ _ ⟨T128, L128, k128, n128⟩ X128 ⟨Lc128, hQ128, l128, y128, z128⟩
 dsimp only [Pt.U, Pt.locs, Pt.cells, Pt.slots] at X128 l128 y128 z128 hQ128 ⊢
 subst l128 y128 z128
 obtain ⟨rfl, N128q, e128⟩ := hQ128
 have N129 := Fr.app N127 N128q
 show Runs _ _ _ _ (T128.setTop (mkF m 177 #[.val (.int p0), .val (.int p1), .val (.int p2), .val (.int p3), .val (.int p4), .val (.int p5), .val (.int ((p0 &&& (255 : Int32)).toUInt32.toUInt16.toUInt32.toInt32)), .val (.int ((((p0.toUInt32 >>> ((8 : Int32) &&& 31).toUInt32).toInt32) &&& (255 : Int32)).toUInt32.toUInt16.toUInt32.toInt32)), .val (.int ((p1 &&& (255 : Int32)).toUInt32.toUInt16.toUInt32.toInt32)), .val (.ref b20), .val (.ref r0_58), .val (.int p5), .val (.int (p5 ^^^ p3)), .val (.ref b65), .val (.ref r0_91), .val (.ref b20), .val (.ref r0_58), .val (.int (1 : Int32)), .unset, .unset, .unset] [(.int (((((p1 &&& (255 : Int32)).toUInt32.toUInt16.toUInt32.toInt32).toInt8.toInt32) &&& (255 : Int32)).toUInt32.toUInt16.toUInt32.toInt32))]))
 refine w_iload X128 hx (hb hby at_177) rfl (pc' := 179) rfl ?_
 refine w_icN X128 hx (hb hby at_179) (teq (own_lat p1)).2 (pc' := 182) rfl ?_
 refine w_iconst X128 hx (hb hby at_182) (v := (1 : Int32)) rfl (pc' := 183) rfl ?_
 refine w_goto X128 hx (hb hby at_183) (pc' := 187) (by decide) (by decide) ?_
 refine w_istore X128 hx (hb hby at_187) (L' := #[.val (.int p0), .val (.int p1), .val (.int p2), .val (.int p3), .val (.int p4), .val (.int p5), .val (.int ((p0 &&& (255 : Int32)).toUInt32.toUInt16.toUInt32.toInt32)), .val (.int ((((p0.toUInt32 >>> ((8 : Int32) &&& 31).toUInt32).toInt32) &&& (255 : Int32)).toUInt32.toUInt16.toUInt32.toInt32)), .val (.int ((p1 &&& (255 : Int32)).toUInt32.toUInt16.toUInt32.toInt32)), .val (.ref b20), .val (.ref r0_58), .val (.int p5), .val (.int (p5 ^^^ p3)), .val (.ref b65), .val (.ref r0_91), .val (.ref b20), .val (.ref r0_58), .val (.int (1 : Int32)), .val (.int (1 : Int32)), .unset, .unset]) rfl (pc' := 189) rfl ?_
 refine w_aload X128 hx (hb hby at_189) rfl rfl (pc' := 191) rfl ?_
 obtain ⟨cq130, kq130, q130a, q130b, q130c⟩ := isOf hZ e128 g91_1
 refine w_virtual X128 hx (y := yn_29) (z := yn_29) hown (mvT hZ (wd_161 hw)) (mvT hZ (wd_162 hw)) (notFace_of_selects (args := #[]) (mvT hZ (wd_164 hw))) (mvT hZ (wd_164 hw)) (mvT hZ (wd_163 hw)) (by decide) (backOf (W := 0) (rm_m29_32 l Z aZ hw [] r0_91 p2 T91.heap n0 (Nat.le_trans Z0 le96) g91_4) hZ (wd_165 hw) (wd_104 hw) (by decide) (by decide)) q130a q130c (by rw [hml]; rfl) [] (lenOf pd_16 rfl) rfl (Nat.le_of_eq rfl) (hb hby at_191) (fun _ _ => ⟨rfl, e128, (by decide : 7 + 0 ≤ _), (by decide : 26 + 0 ≤ _)⟩) (pc' := 194) rfl ?_
 rintro _ _ ⟨T130, L130, k130, n130⟩ X130 ⟨Lc130, hQ130, l130, y130, z130⟩
 dsimp only [Pt.U, Pt.locs, Pt.cells, Pt.slots] at X130 l130 y130 z130 hQ130 ⊢
 subst l130 y130 z130
 obtain ⟨rfl, N130q, e130⟩ := hQ130
 have N131 := Fr.app N129 N130q
 show Runs _ _ _ _ (T130.setTop (mkF m 194 #[.val (.int p0), .val (.int p1), .val (.int p2), .val (.int p3), .val (.int p4), .val (.int p5), .val (.int ((p0 &&& (255 : Int32)).toUInt32.toUInt16.toUInt32.toInt32)), .val (.int ((((p0.toUInt32 >>> ((8 : Int32) &&& 31).toUInt32).toInt32) &&& (255 : Int32)).toUInt32.toUInt16.toUInt32.toInt32)), .val (.int ((p1 &&& (255 : Int32)).toUInt32.toUInt16.toUInt32.toInt32)), .val (.ref b20), .val (.ref r0_58), .val (.int p5), .val (.int (p5 ^^^ p3)), .val (.ref b65), .val (.ref r0_91), .val (.ref b20), .val (.ref r0_58), .val (.int (1 : Int32)), .val (.int (1 : Int32)), .unset, .unset] [(.int p2)]))
 refine w_iloadN X130 hx (hb hby at_194) rfl (pc' := 195) rfl ?_
 refine w_icN X130 hx (hb hby at_195) (teq (rfl : p2 = p2)).2 (pc' := 198) rfl ?_
 refine w_iconst X130 hx (hb hby at_198) (v := (1 : Int32)) rfl (pc' := 199) rfl ?_
 refine w_goto X130 hx (hb hby at_199) (pc' := 203) (by decide) (by decide) ?_
 refine w_istore X130 hx (hb hby at_203) (L' := #[.val (.int p0), .val (.int p1), .val (.int p2), .val (.int p3), .val (.int p4), .val (.int p5), .val (.int ((p0 &&& (255 : Int32)).toUInt32.toUInt16.toUInt32.toInt32)), .val (.int ((((p0.toUInt32 >>> ((8 : Int32) &&& 31).toUInt32).toInt32) &&& (255 : Int32)).toUInt32.toUInt16.toUInt32.toInt32)), .val (.int ((p1 &&& (255 : Int32)).toUInt32.toUInt16.toUInt32.toInt32)), .val (.ref b20), .val (.ref r0_58), .val (.int p5), .val (.int (p5 ^^^ p3)), .val (.ref b65), .val (.ref r0_91), .val (.ref b20), .val (.ref r0_58), .val (.int (1 : Int32)), .val (.int (1 : Int32)), .val (.int (1 : Int32)), .unset]) rfl (pc' := 205) rfl ?_
 refine w_aload X130 hx (hb hby at_205) rfl rfl (pc' := 207) rfl ?_
 obtain ⟨cq132, kq132, q132a, q132b, q132c⟩ := isOf hZ e130 g91_1
 refine w_virtual X130 hx (y := yn_30) (z := yn_30) hown (mvT hZ (wd_166 hw)) (mvT hZ (wd_167 hw)) (notFace_of_selects (args := #[]) (mvT hZ (wd_169 hw))) (mvT hZ (wd_169 hw)) (mvT hZ (wd_168 hw)) (by decide) (backOf (W := 0) (rm_m30_33 l Z aZ hw [] r0_91 T91.heap n0 (Nat.le_trans Z0 le96) g91_5) hZ (wd_170 hw) (wd_104 hw) (by decide) (by decide)) q132a q132c (by rw [hml]; rfl) [] (lenOf pd_17 rfl) rfl (Nat.le_of_eq rfl) (hb hby at_207) (fun _ _ => ⟨rfl, e130, (by decide : 7 + 0 ≤ _), (by decide : 26 + 0 ≤ _)⟩) (pc' := 210) rfl ?_
 rintro _ _ ⟨T132, L132, k132, n132⟩ X132 ⟨Lc132, hQ132, l132, y132, z132⟩
 dsimp only [Pt.U, Pt.locs, Pt.cells, Pt.slots] at X132 l132 y132 z132 hQ132 ⊢
 subst l132 y132 z132
 obtain ⟨rfl, N132q, e132⟩ := hQ132
 have N133 := Fr.app N131 N132q
 show Runs _ _ _ _ (T132.setTop (mkF m 210 #[.val (.int p0), .val (.int p1), .val (.int p2), .val (.int p3), .val (.int p4), .val (.int p5), .val (.int ((p0 &&& (255 : Int32)).toUInt32.toUInt16.toUInt32.toInt32)), .val (.int ((((p0.toUInt32 >>> ((8 : Int32) &&& 31).toUInt32).toInt32) &&& (255 : Int32)).toUInt32.toUInt16.toUInt32.toInt32)), .val (.int ((p1 &&& (255 : Int32)).toUInt32.toUInt16.toUInt32.toInt32)), .val (.ref b20), .val (.ref r0_58), .val (.int p5), .val (.int (p5 ^^^ p3)), .val (.ref b65), .val (.ref r0_91), .val (.ref b20), .val (.ref r0_58), .val (.int (1 : Int32)), .val (.int (1 : Int32)), .val (.int (1 : Int32)), .unset] [(.int (0 : Int32))]))
 refine w_ifN X132 hx (hb hby at_210) (teq (by decide : (0 : Int32) = (0 : Int32))).2 (pc' := 213) rfl ?_
 refine w_iconst X132 hx (hb hby at_213) (v := (1 : Int32)) rfl (pc' := 214) rfl ?_
 refine w_goto X132 hx (hb hby at_214) (pc' := 218) (by decide) (by decide) ?_
 refine w_istore X132 hx (hb hby at_218) (L' := #[.val (.int p0), .val (.int p1), .val (.int p2), .val (.int p3), .val (.int p4), .val (.int p5), .val (.int ((p0 &&& (255 : Int32)).toUInt32.toUInt16.toUInt32.toInt32)), .val (.int ((((p0.toUInt32 >>> ((8 : Int32) &&& 31).toUInt32).toInt32) &&& (255 : Int32)).toUInt32.toUInt16.toUInt32.toInt32)), .val (.int ((p1 &&& (255 : Int32)).toUInt32.toUInt16.toUInt32.toInt32)), .val (.ref b20), .val (.ref r0_58), .val (.int p5), .val (.int (p5 ^^^ p3)), .val (.ref b65), .val (.ref r0_91), .val (.ref b20), .val (.ref r0_58), .val (.int (1 : Int32)), .val (.int (1 : Int32)), .val (.int (1 : Int32)), .val (.int (1 : Int32))]) rfl (pc' := 220) rfl ?_
 refine w_iload X132 hx (hb hby at_220) rfl (pc' := 222) rfl ?_
 refine w_ifN X132 hx (hb hby at_222) (feq (by decide : ¬ ((1 : Int32) = (0 : Int32)))).1 (pc' := 225) rfl ?_
 refine w_iload X132 hx (hb hby at_225) rfl (pc' := 227) rfl ?_
 refine w_ifN X132 hx (hb hby at_227) (feq (by decide : ¬ ((1 : Int32) = (0 : Int32)))).1 (pc' := 230) rfl ?_
 refine w_iload X132 hx (hb hby at_230) rfl (pc' := 232) rfl ?_
 refine w_ifN X132 hx (hb hby at_232) (feq (by decide : ¬ ((1 : Int32) = (0 : Int32)))).1 (pc' := 235) rfl ?_
 refine w_iload X132 hx (hb hby at_235) rfl (pc' := 237) rfl ?_
 refine w_ifN X132 hx (hb hby at_237) (feq (by decide : ¬ ((1 : Int32) = (0 : Int32)))).1 (pc' := 240) rfl ?_
 refine w_iconst X132 hx (hb hby at_240) (v := (1 : Int32)) rfl (pc' := 241) rfl ?_
 refine w_goto X132 hx (hb hby at_241) (pc' := 245) (by decide) (by decide) ?_
 exact w_done X132 hlk (v := some (.int (1 : Int32))) e132 (fun h => by rw [hret] at h; cases h) (fun fs hr => retN X132 hx (t := .boolean) hret (by simp) (hb hby at_245) hr) (by decide) (by decide) (⟨rfl, N133⟩)
set_option maxRecDepth 65536 in
set_option maxHeartbeats 40000000 in
theorem comes_1 {Post : Tables → Env → Array Value → State → Outcome → State → Prop} (hpost : ∀ tb e args s v u, (limb_1_1.after args s (.returned v) u = true ∧ limb_1_2.after args s (.returned v) u = true ∧ True) → FrameEnd s (.returned v) u (Jvm.fieldLocs frame_1_writes args s ++ Jvm.arrayLocs frame_1_arrays args s ++ Jvm.staticLocs frame_1_statics s) 24 128 → Post tb e args s (.returned v) u) :
    ArmFor flags0 classFile x code maxLocals ret World_1 tables_1 room_1 Calls_1 rest_1 Pre_1 Post := by
  intro l hfl _ _ p e ha hc hk s m args below hf hA hF happ hP
  obtain ⟨hcalls, hrest, hpre⟩ := hP
  obtain ⟨-, -, -, hnamed, -, -, -, hat⟩ := (Spec.applies_iff hf).mp happ
  obtain ⟨hg, hn⟩ := and_e (Cond.before_iff.mp (show (Jvm.Cond.and given_1 narrow_1).before args s = true from hpre))
  obtain ⟨gv1, gv2⟩ := and_e hg
  obtain ⟨gv3, gv4⟩ := and_e gv2
  obtain ⟨gv5, gv6⟩ := and_e gv4
  obtain ⟨gv7, gv8⟩ := and_e gv6
  obtain ⟨gv9, gv10⟩ := and_e gv8
  obtain ⟨gv11, gv12⟩ := and_e gv10
  obtain ⟨w0, w1, w2, w3, w4, w5, rfl⟩ : ∃ w0 w1 w2 w3 w4 w5 : Value, args = #[w0, w1, w2, w3, w4, w5] := by
    have hs : args.size = 6 := by simpa [Cond.value, given_1] using gv1
    obtain ⟨L⟩ := args
    match L, hs with
    | [w0, w1, w2, w3, w4, w5], _ => exact ⟨w0, w1, w2, w3, w4, w5, rfl⟩
  have hw := fun d (hd : d ∈ tables_1) => atoms_spec (ws := Jvm.Cond.code x code maxLocals ret :: tables_1) hat d (List.mem_cons_of_mem _ hd)
  have hfit : Fit s := fun {y c} hc i hi => by
    obtain ⟨ha, rfl⟩ := Array.getElem?_eq_some_iff.mp hc
    have q := List.all_eq_true.mp ((Array.all_eq_true_iff_forall_mem.mp hF) _ (Array.getElem_mem ha)) i (List.mem_range.mpr hi)
    simpa [Array.getElem?_eq_getElem hi] using q
  obtain ⟨hsets, hown0⟩ := atoms_of _ (rest_1_c_eq ▸ (show rest_1_c.before _ s = true from hrest))
  have hr0 := Cond.before_iff.mp hown0
  obtain ⟨i0, ei0⟩ := is_v gv3
  obtain rfl : w0 = (.int i0) := Option.some.inj ei0
  obtain ⟨i1, ei1⟩ := is_v gv5
  obtain rfl : w1 = (.int i1) := Option.some.inj ei1
  obtain ⟨i2, ei2⟩ := is_v gv7
  obtain rfl : w2 = (.int i2) := Option.some.inj ei2
  obtain ⟨i3, ei3⟩ := is_v gv9
  obtain rfl : w3 = (.int i3) := Option.some.inj ei3
  obtain ⟨i4, ei4⟩ := is_v gv11
  obtain rfl : w4 = (.int i4) := Option.some.inj ei4
  obtain ⟨i5, ei5⟩ := is_v gv12
  obtain rfl : w5 = (.int i5) := Option.some.inj ei5
  obtain ⟨G_EMPTY_MAP, ev_G_EMPTY_MAP⟩ := exa_v (Cond.before_iff.mp (hsets _ (List.mem_of_getElem? (i := 11) rfl)))
  have S_EMPTY_MAP := Sta.start ev_G_EMPTY_MAP (Or.inl (hsets _ (List.mem_of_getElem? (i := 10) rfl)))
  obtain ⟨G_EMPTY_SET, ev_G_EMPTY_SET⟩ := exa_v (Cond.before_iff.mp (hsets _ (List.mem_of_getElem? (i := 18) rfl)))
  have S_EMPTY_SET := Sta.start ev_G_EMPTY_SET (Or.inl (hsets _ (List.mem_of_getElem? (i := 17) rfl)))
  obtain ⟨G_COMPACT_STRINGS, ev_G_COMPACT_STRINGS⟩ := is_v (Cond.before_iff.mp (hsets _ (List.mem_of_getElem? (i := 1) rfl)))
  have S_COMPACT_STRINGS := Sta.start ev_G_COMPACT_STRINGS (Or.inl (hsets _ (List.mem_of_getElem? (i := 0) rfl)))
  have hP_6 : ¬ (G_COMPACT_STRINGS = (0 : Int32)) := fun q => by
    have h9 := not_v (Cond.before_iff.mp (hsets _ (List.mem_of_getElem? (i := 2) rfl)))
    rw [eq_i ev_G_COMPACT_STRINGS (Term.int_eval 0) (by rw [q])] at h9
    cases h9
  obtain ⟨G_SIOOBE_FORMATTER, ev_G_SIOOBE_FORMATTER, r_G_SIOOBE_FORMATTER⟩ := isR_v (Cond.before_iff.mp (hsets _ (List.mem_of_getElem? (i := 8) rfl)))
  have S_SIOOBE_FORMATTER := Sta.start ev_G_SIOOBE_FORMATTER (Or.inl (hsets _ (List.mem_of_getElem? (i := 7) rfl)))
  obtain ⟨n, o, h1, h2, h3, _, L, rfl, ⟨rfl, N⟩, hq⟩ := rm_law l s _ hw tables_1 i0 i1 i2 i3 i4 i5 G_EMPTY_MAP G_EMPTY_SET G_COMPACT_STRINGS G_SIOOBE_FORMATTER s.heap s.heap.size (Nat.le_refl _) S_EMPTY_MAP S_EMPTY_SET (Exa.start ev_G_EMPTY_MAP (Cond.before_iff.mp (hsets _ (List.mem_of_getElem? (i := 11) rfl)))) (Exa.start ev_G_EMPTY_SET (Cond.before_iff.mp (hsets _ (List.mem_of_getElem? (i := 18) rfl)))) S_COMPACT_STRINGS (Old.start s) hP_6 r_G_SIOOBE_FORMATTER S_SIOOBE_FORMATTER p e ha hc hk s m _ below hf ((Spec.applies_iff_loose hf).mp happ).1 ⟨rfl, State.Warmed39.refl s, rfl⟩ trivial
  refine ⟨n, _, h1, h2, h3, hpost _ _ _ _ _ _ ⟨Cond.after_iff.mpr rfl, Cond.after_iff.mpr (eq_i res_at (Term.int_eval (1)) rfl), trivial⟩ ⟨hq.1, hq.2.1, (hq.2.2.sift fun y hy => Or.inr (N y hy)).mono (by decide) (by decide)⟩⟩
theorem main_1_1 : Claimed_1_1 := comes_1 fun _ _ _ _ _ _ h hF => ⟨h.1, hF⟩
theorem main_1_2 : Claimed_1_2 := comes_1 fun _ _ _ _ _ _ h hF => ⟨h.2.1, hF⟩
end Jvm.Pilot.@@N@@
namespace Jvm.Pilot.@@N@@
open Jvm Jvm.ClassFile Sem Op Lib Jvm.Free Jvm.Stand Jvm.Pilot.@@N@@.Jvm.D
/-! MADE BY PROGRAM (witnessworld.py) out of the Statement's table words and the real class files: 35 classes; the members and pool entries that the words name. The judged class is class 1, her method 1. -/
namespace start1
open Jvm.ClassFile
def u (s : String) : CpInfo := .utf8 (stringToUtf16 s)
/-- a pool by its gaps: so many unusable entries, then the entry; so many at the end -/
def gap : Nat → List CpInfo → List CpInfo
  | 0, r => r
  | n + 1, r => .unusable :: gap n r
def poolList (es : List (Nat × CpInfo)) (last : Nat) : List CpInfo := es.foldr (fun e r => gap e.1 (e.2 :: r)) (gap last [])
def pool (es : List (Nat × CpInfo)) (last : Nat) : Array CpInfo := ⟨poolList es last⟩
def fileOf (pool : Array CpInfo) (this : Nat) (attrs : Array Attribute := #[]) (ms : Array MethodInfo := #[]) (fl : Nat := 33) (sup : Nat := 0) (ifs : Array Nat := #[]) (fds : Array FieldInfo := #[]) : ClassFile where
  minorVersion := 0
  majorVersion := 65
  constantPool := pool
  accessFlags := fl
  thisClass := this
  superClass := sup
  interfaces := ifs
  fields := fds
  methods := ms
  attributes := attrs
def plain (name : String) (sup : Option ClassId) : Class where
  name := name
  kind := .ordinary
  loader := none
  accessFlags := 33
  super := sup
  interfaces := #[]
  cf := none
  fields := #[]
  methods := #[]
  instanceTypes := #[]
  staticTypes := #[]
  resolved := #[]
  callSites := []
  init := .initialized
  statics := none
  mirror := none

def pool0 : Array CpInfo := pool [(5, u "<init>"), (0, u "()V"), (1, .class_ 10), (1, u "java/lang/Object")] 113

def k0c0 : Code := { maxStack := 0, maxLocals := 1, code := object_method_1_code, exceptionTable := #[], attributes := #[] }
def k0m0 : Method := { name := "<init>", desc := "()V", sig := { parameters := [], returnType := none }, accessFlags := 1, code := some k0c0 }
/-- java/lang/Object -/
def k0 : Class := { plain "java/lang/Object" none with
  accessFlags := 33
  interfaces := #[]
  cf := some (fileOf pool0 8 #[] #[{ accessFlags := 1, nameIndex := 5, descriptorIndex := 6, attributes := #[] }] 33 0 #[] #[])
  fields := #[]
  methods := #[k0m0]
  instanceTypes := #[]
  staticTypes := #[]
  resolved := Array.replicate 124 none
  statics := none }

def pool1 : Array CpInfo := pool [(2, .class_ 4), (1, u "java/lang/Object"), (0, u "<init>"), (0, u "()V"), (0, .class_ 8), (0, u "java/lang/String"), (0, .methodref 7 10), (0, .nameAndType 5 11), (0, u "([C)V"), (0, .methodref 7 13), (0, .nameAndType 14 15), (0, u "valueOf"), (0, u "(C)Ljava/lang/String;"), (0, .class_ 17), (0, u "com/example/roundkeeper/roundkeeper/ruleset/actionpoints/Fighter"), (0, .interfaceMethodref 19 20), (0, .class_ 21), (0, .nameAndType 22 23), (0, u "java/util/Map"), (0, u "of"), (0, u "()Ljava/util/Map;"), (0, .interfaceMethodref 25 26), (0, .class_ 27), (0, .nameAndType 22 28), (0, u "java/util/Set"), (0, u "()Ljava/util/Set;"), (0, .methodref 16 30), (0, .nameAndType 5 31), (0, u "(Ljava/lang/String;Ljava/lang/String;IIIIILjava/util/Map;Ljava/util/Set;)V"), (0, .methodref 16 33), (0, .nameAndType 34 35), (0, u "turn"), (0, u "()Lcom/example/roundkeeper/roundkeeper/Turn;"), (0, .methodref 37 38), (0, .class_ 39), (0, .nameAndType 40 41), (0, u "com/example/roundkeeper/roundkeeper/Turn"), (0, u "name"), (0, u "()Ljava/lang/String;"), (0, .methodref 37 43), (0, .nameAndType 44 41), (0, u "side"), (0, .methodref 7 46), (0, .nameAndType 47 48), (0, u "length"), (0, u "()I"), (0, .methodref 7 50), (0, .nameAndType 51 52), (0, u "charAt"), (0, u "(I)C"), (0, .methodref 37 54), (0, .nameAndType 55 48), (0, u "initiative"), (0, .methodref 37 57), (0, .nameAndType 58 59), (0, u "simultaneous"), (0, u "()Z"), (0, .class_ 61), (0, u "com/example/roundkeeper/roundkeeper/ruleset/actionpoints/FighterTurnPinLaw"), (2, u "law"), (0, u "(IIIIII)Z")] 3

def k1m0 : Method := { name := "<init>", desc := "()V", sig := { parameters := [], returnType := none }, accessFlags := 1, code := none }
def k1c1 : Code := { maxStack := 11, maxLocals := 21, code := code, exceptionTable := #[], attributes := #[] }
def k1m1 : Method := { name := "law", desc := "(IIIIII)Z", sig := { parameters := [.int, .int, .int, .int, .int, .int], returnType := some .boolean }, accessFlags := 9, code := some k1c1 }
/-- com/example/roundkeeper/roundkeeper/ruleset/actionpoints/FighterTurnPinLaw -/
def k1 : Class := { plain "com/example/roundkeeper/roundkeeper/ruleset/actionpoints/FighterTurnPinLaw" (some 0) with
  accessFlags := 49
  interfaces := #[]
  cf := some (fileOf pool1 60 #[] #[{ accessFlags := 1, nameIndex := 5, descriptorIndex := 6, attributes := #[] }, { accessFlags := 9, nameIndex := 64, descriptorIndex := 65, attributes := #[] }] 49 2 #[] #[])
  fields := #[]
  methods := #[k1m0, k1m1]
  instanceTypes := #[]
  staticTypes := #[]
  resolved := Array.replicate 69 none
  statics := none }

def pool2 : Array CpInfo := pool [(1, .class_ 2), (0, u "java/io/Serializable"), (0, .class_ 4), (0, u "java/lang/Object")] 2

/-- java/io/Serializable -/
def k2 : Class := { plain "java/io/Serializable" (some 0) with
  accessFlags := 1537
  interfaces := #[]
  cf := some (fileOf pool2 1 #[] #[] 1537 3 #[] #[])
  fields := #[]
  methods := #[]
  instanceTypes := #[]
  staticTypes := #[]
  resolved := Array.replicate 7 none
  statics := none }

def pool3 : Array CpInfo := pool [(1, .class_ 2), (0, u "java/lang/Comparable"), (0, .class_ 4), (0, u "java/lang/Object")] 7

/-- java/lang/Comparable -/
def k3 : Class := { plain "java/lang/Comparable" (some 0) with
  accessFlags := 1537
  interfaces := #[]
  cf := some (fileOf pool3 1 #[] #[] 1537 3 #[] #[])
  fields := #[]
  methods := #[]
  instanceTypes := #[]
  staticTypes := #[]
  resolved := Array.replicate 12 none
  statics := none }

def pool4 : Array CpInfo := pool [(2, .class_ 4), (1, u "java/lang/CharSequence"), (42, .class_ 48), (0, u "java/lang/CharSequence$1CodePointIterator"), (10, .class_ 60), (0, u "java/lang/CharSequence$1CharIterator"), (5, .class_ 67), (0, u "java/lang/Object")] 63

/-- java/lang/CharSequence -/
def k4 : Class := { plain "java/lang/CharSequence" (some 0) with
  accessFlags := 1537
  interfaces := #[]
  cf := some (fileOf pool4 2 #[.nestMembers #[47, 59]] #[] 1537 66 #[] #[])
  fields := #[]
  methods := #[]
  instanceTypes := #[]
  staticTypes := #[]
  resolved := Array.replicate 131 none
  statics := none }

def pool5 : Array CpInfo := pool [(1, .class_ 2), (0, u "java/lang/constant/Constable"), (0, .class_ 4), (0, u "java/lang/Object")] 6

/-- java/lang/constant/Constable -/
def k5 : Class := { plain "java/lang/constant/Constable" (some 0) with
  accessFlags := 1537
  interfaces := #[]
  cf := some (fileOf pool5 1 #[] #[] 1537 3 #[] #[])
  fields := #[]
  methods := #[]
  instanceTypes := #[]
  staticTypes := #[]
  resolved := Array.replicate 11 none
  statics := none }

def pool6 : Array CpInfo := pool [(1, .class_ 2), (0, u "java/lang/constant/ConstantDesc"), (0, .class_ 4), (0, u "java/lang/Object")] 32

/-- java/lang/constant/ConstantDesc -/
def k6 : Class := { plain "java/lang/constant/ConstantDesc" (some 0) with
  accessFlags := 1537
  interfaces := #[]
  cf := some (fileOf pool6 1 #[] #[] 1537 3 #[] #[])
  fields := #[]
  methods := #[]
  instanceTypes := #[]
  staticTypes := #[]
  resolved := Array.replicate 37 none
  statics := none }

def pool7 : Array CpInfo := pool [(1, .methodref 2 3), (0, .class_ 4), (0, .nameAndType 5 6), (0, u "java/lang/Object"), (0, u "<init>"), (0, u "()V"), (2, .fieldref 10 11), (0, .class_ 12), (0, .nameAndType 13 14), (0, u "java/lang/String"), (0, u "value"), (0, u "[B"), (0, .fieldref 10 16), (0, .nameAndType 17 18), (0, u "coder"), (0, u "B"), (2, u "hash"), (0, u "I"), (2, u "hashIsZero"), (0, u "Z"), (0, .methodref 10 28), (0, .nameAndType 5 29), (0, u "([CIILjava/lang/Void;)V"), (8, .fieldref 10 39), (0, .nameAndType 40 26), (0, u "COMPACT_STRINGS"), (1, .class_ 44), (1, u "java/lang/StringUTF16"), (0, u "compress"), (1, .methodref 42 48), (0, .nameAndType 49 50), (0, u "coderFromArrayLen"), (0, u "([BI)B"), (2, u "toBytes"), (53, .class_ 109), (1, u "java/lang/StringLatin1"), (32, u "()Z"), (34, .methodref 42 178), (0, .nameAndType 45 179), (0, u "([CII)[B"), (29, .methodref 10 210), (0, .nameAndType 5 211), (0, u "([BB)V"), (122, u "()I"), (0, .methodref 10 336), (0, .nameAndType 17 337), (0, u "()B"), (25, u "([BI)C"), (5, u "(C)Z"), (21, u "(II)V"), (35, u "(I)C"), (64, .methodref 10 493), (0, .nameAndType 494 142), (0, u "isLatin1"), (0, .methodref 107 496), (0, .nameAndType 497 363), (0, u "charAt"), (3, u "checkIndex"), (5, u "length"), (67, .class_ 576), (0, u "java/lang/CharSequence"), (22, u "CASE_INSENSITIVE_ORDER"), (0, u "Ljava/util/Comparator;"), (181, u "valueOf"), (0, u "(C)Ljava/lang/String;"), (226, u "([C)V"), (4, .methodref 107 1016), (0, .nameAndType 1017 369), (0, u "canEncode"), (0, .methodref 107 1019), (0, .nameAndType 53 1020), (0, u "(C)[B"), (32, .fieldref 1054 1055), (0, .class_ 1056), (0, .nameAndType 1057 1058), (0, u "jdk/internal/util/Preconditions"), (0, u "SIOOBE_FORMATTER"), (0, u "Ljava/util/function/BiFunction;"), (0, .methodref 1054 1060), (0, .nameAndType 501 1061), (0, u "(IILjava/util/function/BiFunction;)I"), (39, u "serialPersistentFields"), (0, u "[Ljava/io/ObjectStreamField;"), (0, .class_ 1104), (0, u "java/lang/String$CaseInsensitiveComparator"), (1, .class_ 1107), (0, u "java/io/Serializable"), (0, .class_ 1109), (0, u "java/lang/Comparable"), (0, .class_ 1111), (0, u "java/lang/constant/Constable"), (0, .class_ 1113), (0, u "java/lang/constant/ConstantDesc"), (2, u "serialVersionUID"), (0, u "J"), (3, u "REPL"), (0, u "C"), (2, u "LATIN1"), (1, u "UTF16")] 323

def k7m0 : Method := { name := "<init>", desc := "()V", sig := { parameters := [], returnType := none }, accessFlags := 1, code := none }
def k7c1 : Code := { maxStack := 5, maxLocals := 2, code := jdk_42_method_3_code, exceptionTable := #[], attributes := #[] }
def k7m1 : Method := { name := "<init>", desc := "([C)V", sig := { parameters := [(.array .char)], returnType := none }, accessFlags := 1, code := some k7c1 }
def k7c2 : Code := { maxStack := 2, maxLocals := 1, code := jdk_42_method_54_code, exceptionTable := #[], attributes := #[] }
def k7m2 : Method := { name := "length", desc := "()I", sig := { parameters := [], returnType := some .int }, accessFlags := 1, code := some k7c2 }
def k7c3 : Code := { maxStack := 2, maxLocals := 2, code := jdk_42_method_56_code, exceptionTable := #[], attributes := #[] }
def k7m3 : Method := { name := "charAt", desc := "(I)C", sig := { parameters := [.int], returnType := some .char }, accessFlags := 1, code := some k7c3 }
def k7c4 : Code := { maxStack := 4, maxLocals := 1, code := jdk_42_method_139_code, exceptionTable := #[], attributes := #[] }
def k7m4 : Method := { name := "valueOf", desc := "(C)Ljava/lang/String;", sig := { parameters := [.char], returnType := some (.object "java/lang/String") }, accessFlags := 9, code := some k7c4 }
def k7c5 : Code := { maxStack := 4, maxLocals := 6, code := jdk_42_method_149_code, exceptionTable := #[], attributes := #[] }
def k7m5 : Method := { name := "<init>", desc := "([CIILjava/lang/Void;)V", sig := { parameters := [(.array .char), .int, .int, (.object "java/lang/Void")], returnType := none }, accessFlags := 2, code := some k7c5 }
def k7c6 : Code := { maxStack := 2, maxLocals := 3, code := jdk_42_method_151_code, exceptionTable := #[], attributes := #[] }
def k7m6 : Method := { name := "<init>", desc := "([BB)V", sig := { parameters := [(.array .byte), .byte], returnType := none }, accessFlags := 0, code := some k7c6 }
def k7c7 : Code := { maxStack := 1, maxLocals := 1, code := jdk_42_method_152_code, exceptionTable := #[], attributes := #[] }
def k7m7 : Method := { name := "coder", desc := "()B", sig := { parameters := [], returnType := some .byte }, accessFlags := 0, code := some k7c7 }
def k7c8 : Code := { maxStack := 1, maxLocals := 1, code := jdk_42_method_154_code, exceptionTable := #[], attributes := #[] }
def k7m8 : Method := { name := "isLatin1", desc := "()Z", sig := { parameters := [], returnType := some .boolean }, accessFlags := 0, code := some k7c8 }
def k7c9 : Code := { maxStack := 3, maxLocals := 2, code := jdk_42_method_155_code, exceptionTable := #[], attributes := #[] }
def k7m9 : Method := { name := "checkIndex", desc := "(II)V", sig := { parameters := [.int, .int], returnType := none }, accessFlags := 8, code := some k7c9 }
/-- java/lang/String -/
def k7 : Class := { plain "java/lang/String" (some 0) with
  accessFlags := 49
  interfaces := #[2, 3, 4, 5, 6]
  cf := some (fileOf pool7 10 #[.nestMembers #[1103]] #[{ accessFlags := 1, nameIndex := 5, descriptorIndex := 6, attributes := #[] }, { accessFlags := 1, nameIndex := 5, descriptorIndex := 1010, attributes := #[] }, { accessFlags := 1, nameIndex := 507, descriptorIndex := 334, attributes := #[] }, { accessFlags := 1, nameIndex := 497, descriptorIndex := 427, attributes := #[] }, { accessFlags := 9, nameIndex := 782, descriptorIndex := 783, attributes := #[] }, { accessFlags := 2, nameIndex := 5, descriptorIndex := 29, attributes := #[] }, { accessFlags := 0, nameIndex := 5, descriptorIndex := 211, attributes := #[] }, { accessFlags := 0, nameIndex := 17, descriptorIndex := 337, attributes := #[] }, { accessFlags := 0, nameIndex := 494, descriptorIndex := 142, attributes := #[] }, { accessFlags := 8, nameIndex := 501, descriptorIndex := 391, attributes := #[] }] 49 2 #[1106, 1108, 575, 1110, 1112] #[{ accessFlags := 18, nameIndex := 13, descriptorIndex := 14, attributes := #[] }, { accessFlags := 18, nameIndex := 17, descriptorIndex := 18, attributes := #[] }, { accessFlags := 2, nameIndex := 21, descriptorIndex := 22, attributes := #[] }, { accessFlags := 2, nameIndex := 25, descriptorIndex := 26, attributes := #[] }, { accessFlags := 26, nameIndex := 1116, descriptorIndex := 1117, attributes := #[] }, { accessFlags := 24, nameIndex := 40, descriptorIndex := 26, attributes := #[] }, { accessFlags := 26, nameIndex := 1101, descriptorIndex := 1102, attributes := #[] }, { accessFlags := 26, nameIndex := 1121, descriptorIndex := 1122, attributes := #[] }, { accessFlags := 25, nameIndex := 599, descriptorIndex := 600, attributes := #[] }, { accessFlags := 24, nameIndex := 1125, descriptorIndex := 18, attributes := #[] }, { accessFlags := 24, nameIndex := 1127, descriptorIndex := 18, attributes := #[] }])
  fields := #[{ name := "value", type := (.array .byte), accessFlags := 18, slot := 0, constantValue := 0 }, { name := "coder", type := .byte, accessFlags := 18, slot := 1, constantValue := 0 }, { name := "hash", type := .int, accessFlags := 2, slot := 2, constantValue := 0 }, { name := "hashIsZero", type := .boolean, accessFlags := 2, slot := 3, constantValue := 0 }, { name := "serialVersionUID", type := .long, accessFlags := 26, slot := 0, constantValue := 0 }, { name := "COMPACT_STRINGS", type := .boolean, accessFlags := 24, slot := 1, constantValue := 0 }, { name := "serialPersistentFields", type := (.array (.object "java/io/ObjectStreamField")), accessFlags := 26, slot := 2, constantValue := 0 }, { name := "REPL", type := .char, accessFlags := 26, slot := 3, constantValue := 0 }, { name := "CASE_INSENSITIVE_ORDER", type := (.object "java/util/Comparator"), accessFlags := 25, slot := 4, constantValue := 0 }, { name := "LATIN1", type := .byte, accessFlags := 24, slot := 5, constantValue := 0 }, { name := "UTF16", type := .byte, accessFlags := 24, slot := 6, constantValue := 0 }]
  methods := #[k7m0, k7m1, k7m2, k7m3, k7m4, k7m5, k7m6, k7m7, k7m8, k7m9]
  instanceTypes := #[(.array .byte), .byte, .int, .boolean]
  staticTypes := #[.long, .boolean, (.array (.object "java/io/ObjectStreamField")), .char, (.object "java/util/Comparator"), .byte, .byte]
  resolved := Array.replicate 1451 none
  statics := some 0 }

def pool8 : Array CpInfo := pool [(6, .class_ 8), (1, u "java/lang/Object"), (0, u "<init>"), (0, u "()V"), (1, .class_ 14), (1, u "java/lang/StringUTF16"), (31, u "$assertionsDisabled"), (0, u "Z"), (13, u "HI_BYTE_SHIFT"), (0, u "I"), (2, u "LO_BYTE_SHIFT"), (49, .methodref 12 116), (0, .nameAndType 117 118), (0, u "compress"), (0, u "([CI[BII)I"), (3, u "([CII)[B"), (138, u "coderFromArrayLen"), (0, u "([BI)B"), (106, .class_ 371), (1, u "java/lang/StringUTF16$LinesSpliterator"), (58, u "MAX_LENGTH"), (196, .class_ 628), (0, u "java/lang/StringUTF16$CodePointsSpliterator"), (0, .class_ 630), (0, u "java/lang/StringUTF16$CharsSpliterator")] 4

def k8m0 : Method := { name := "<init>", desc := "()V", sig := { parameters := [], returnType := none }, accessFlags := 0, code := none }
def k8c1 : Code := { maxStack := 2, maxLocals := 2, code := jdk_52_method_15_code, exceptionTable := #[], attributes := #[] }
def k8m1 : Method := { name := "coderFromArrayLen", desc := "([BI)B", sig := { parameters := [(.array .byte), .int], returnType := some .byte }, accessFlags := 8, code := some k8c1 }
def k8c2 : Code := { maxStack := 5, maxLocals := 6, code := jdk_52_method_16_code, exceptionTable := #[], attributes := #[] }
def k8m2 : Method := { name := "compress", desc := "([CII)[B", sig := { parameters := [(.array .char), .int, .int], returnType := some (.array .byte) }, accessFlags := 9, code := some k8c2 }
def k8c3 : Code := { maxStack := 3, maxLocals := 7, code := jdk_52_method_21_code, exceptionTable := #[], attributes := #[] }
def k8m3 : Method := { name := "compress", desc := "([CI[BII)I", sig := { parameters := [(.array .char), .int, (.array .byte), .int, .int], returnType := some .int }, accessFlags := 9, code := some k8c3 }
/-- java/lang/StringUTF16 -/
def k8 : Class := { plain "java/lang/StringUTF16" (some 0) with
  accessFlags := 48
  interfaces := #[]
  cf := some (fileOf pool8 12 #[.nestMembers #[627, 629, 369]] #[{ accessFlags := 0, nameIndex := 9, descriptorIndex := 10, attributes := #[] }, { accessFlags := 8, nameIndex := 261, descriptorIndex := 262, attributes := #[] }, { accessFlags := 9, nameIndex := 117, descriptorIndex := 122, attributes := #[] }, { accessFlags := 9, nameIndex := 117, descriptorIndex := 118, attributes := #[] }] 48 6 #[] #[{ accessFlags := 26, nameIndex := 61, descriptorIndex := 62, attributes := #[] }, { accessFlags := 26, nameIndex := 65, descriptorIndex := 62, attributes := #[] }, { accessFlags := 24, nameIndex := 430, descriptorIndex := 62, attributes := #[] }, { accessFlags := 4120, nameIndex := 46, descriptorIndex := 47, attributes := #[] }])
  fields := #[{ name := "HI_BYTE_SHIFT", type := .int, accessFlags := 26, slot := 0, constantValue := 0 }, { name := "LO_BYTE_SHIFT", type := .int, accessFlags := 26, slot := 1, constantValue := 0 }, { name := "MAX_LENGTH", type := .int, accessFlags := 24, slot := 2, constantValue := 0 }, { name := "$assertionsDisabled", type := .boolean, accessFlags := 4120, slot := 3, constantValue := 0 }]
  methods := #[k8m0, k8m1, k8m2, k8m3]
  instanceTypes := #[]
  staticTypes := #[.int, .int, .int, .boolean]
  resolved := Array.replicate 635 none
  statics := none }

def pool9 : Array CpInfo := pool [(1, .class_ 2), (0, u "java/lang/String"), (1, .class_ 6), (1, u "java/lang/Object"), (0, u "<init>"), (0, u "()V"), (0, .methodref 1 10), (0, .nameAndType 11 12), (0, u "checkIndex"), (0, u "(II)V"), (1, .class_ 16), (1, u "java/lang/StringLatin1"), (36, u "([BI)C"), (36, u "canEncode"), (14, u "(C)Z"), (15, u "$assertionsDisabled"), (0, u "Z"), (98, .class_ 223), (1, u "java/lang/StringLatin1$LinesSpliterator"), (28, u "charAt"), (127, u "toBytes"), (1, u "(C)[B"), (7, .class_ 391), (0, u "java/lang/StringLatin1$CharsSpliterator")] 3

def k9m0 : Method := { name := "<init>", desc := "()V", sig := { parameters := [], returnType := none }, accessFlags := 0, code := none }
def k9c1 : Code := { maxStack := 2, maxLocals := 2, code := jdk_43_method_2_code, exceptionTable := #[], attributes := #[] }
def k9m1 : Method := { name := "charAt", desc := "([BI)C", sig := { parameters := [(.array .byte), .int], returnType := some .char }, accessFlags := 9, code := some k9c1 }
def k9c2 : Code := { maxStack := 2, maxLocals := 1, code := jdk_43_method_3_code, exceptionTable := #[], attributes := #[] }
def k9m2 : Method := { name := "canEncode", desc := "(C)Z", sig := { parameters := [.char], returnType := some .boolean }, accessFlags := 9, code := some k9c2 }
def k9c3 : Code := { maxStack := 4, maxLocals := 1, code := jdk_43_method_46_code, exceptionTable := #[], attributes := #[] }
def k9m3 : Method := { name := "toBytes", desc := "(C)[B", sig := { parameters := [.char], returnType := some (.array .byte) }, accessFlags := 9, code := some k9c3 }
/-- java/lang/StringLatin1 -/
def k9 : Class := { plain "java/lang/StringLatin1" (some 0) with
  accessFlags := 48
  interfaces := #[]
  cf := some (fileOf pool9 14 #[.nestMembers #[390, 221]] #[{ accessFlags := 0, nameIndex := 7, descriptorIndex := 8, attributes := #[] }, { accessFlags := 9, nameIndex := 252, descriptorIndex := 53, attributes := #[] }, { accessFlags := 9, nameIndex := 90, descriptorIndex := 105, attributes := #[] }, { accessFlags := 9, nameIndex := 380, descriptorIndex := 382, attributes := #[] }] 48 4 #[] #[{ accessFlags := 4120, nameIndex := 121, descriptorIndex := 122, attributes := #[] }])
  fields := #[{ name := "$assertionsDisabled", type := .boolean, accessFlags := 4120, slot := 0, constantValue := 0 }]
  methods := #[k9m0, k9m1, k9m2, k9m3]
  instanceTypes := #[]
  staticTypes := #[.boolean]
  resolved := Array.replicate 395 none
  statics := none }

def pool10 : Array CpInfo := pool [(1, .methodref 2 3), (0, .class_ 4), (0, .nameAndType 5 6), (0, u "java/lang/Object"), (0, u "<init>"), (0, u "()V"), (0, .class_ 8), (0, u "java/lang/Record")] 13

def k10c0 : Code := { maxStack := 1, maxLocals := 1, code := jdk_30_method_1_code, exceptionTable := #[], attributes := #[] }
def k10m0 : Method := { name := "<init>", desc := "()V", sig := { parameters := [], returnType := none }, accessFlags := 4, code := some k10c0 }
/-- java/lang/Record -/
def k10 : Class := { plain "java/lang/Record" (some 0) with
  accessFlags := 1057
  interfaces := #[]
  cf := some (fileOf pool10 7 #[] #[{ accessFlags := 4, nameIndex := 5, descriptorIndex := 6, attributes := #[] }] 1057 2 #[] #[])
  fields := #[]
  methods := #[k10m0]
  instanceTypes := #[]
  staticTypes := #[]
  resolved := Array.replicate 22 none
  statics := none }

def pool11 : Array CpInfo := pool [(1, .methodref 2 3), (0, .class_ 4), (0, .nameAndType 5 6), (0, u "java/lang/Record"), (0, u "<init>"), (0, u "()V"), (0, .interfaceMethodref 8 9), (0, .class_ 10), (0, .nameAndType 11 12), (0, u "java/util/Map"), (0, u "copyOf"), (0, u "(Ljava/util/Map;)Ljava/util/Map;"), (0, .interfaceMethodref 14 15), (0, .class_ 16), (0, .nameAndType 11 17), (0, u "java/util/Set"), (0, u "(Ljava/util/Collection;)Ljava/util/Set;"), (0, .fieldref 19 20), (0, .class_ 21), (0, .nameAndType 22 23), (0, u "com/example/roundkeeper/roundkeeper/ruleset/actionpoints/Fighter"), (0, u "name"), (0, u "Ljava/lang/String;"), (0, .fieldref 19 25), (0, .nameAndType 26 23), (0, u "side"), (0, .fieldref 19 28), (0, .nameAndType 29 30), (0, u "initiative"), (0, u "I"), (0, .fieldref 19 32), (0, .nameAndType 33 30), (0, u "agility"), (0, .fieldref 19 35), (0, .nameAndType 36 30), (0, u "vitality"), (0, .fieldref 19 38), (0, .nameAndType 39 30), (0, u "fortitude"), (0, .fieldref 19 41), (0, .nameAndType 42 30), (0, u "extraPoints"), (0, .fieldref 19 44), (0, .nameAndType 45 46), (0, u "resistances"), (0, u "Ljava/util/Map;"), (0, .fieldref 19 48), (0, .nameAndType 49 50), (0, u "vulnerabilities"), (0, u "Ljava/util/Set;"), (0, .class_ 52), (0, u "com/example/roundkeeper/roundkeeper/Turn"), (0, .methodref 51 54), (0, .nameAndType 5 55), (0, u "(Ljava/lang/String;Ljava/lang/String;I)V"), (32, u "ORDER"), (0, u "Ljava/util/Comparator;"), (4, u "(Ljava/lang/String;Ljava/lang/String;IIIIILjava/util/Map;Ljava/util/Set;)V"), (4, u "turn"), (0, u "()Lcom/example/roundkeeper/roundkeeper/Turn;")] 52

def k11c0 : Code := { maxStack := 2, maxLocals := 10, code := prog_6_method_1_code, exceptionTable := #[], attributes := #[] }
def k11m0 : Method := { name := "<init>", desc := "(Ljava/lang/String;Ljava/lang/String;IIIIILjava/util/Map;Ljava/util/Set;)V", sig := { parameters := [(.object "java/lang/String"), (.object "java/lang/String"), .int, .int, .int, .int, .int, (.object "java/util/Map"), (.object "java/util/Set")], returnType := none }, accessFlags := 0, code := some k11c0 }
def k11c1 : Code := { maxStack := 5, maxLocals := 1, code := prog_6_method_2_code, exceptionTable := #[], attributes := #[] }
def k11m1 : Method := { name := "turn", desc := "()Lcom/example/roundkeeper/roundkeeper/Turn;", sig := { parameters := [], returnType := some (.object "com/example/roundkeeper/roundkeeper/Turn") }, accessFlags := 0, code := some k11c1 }
/-- com/example/roundkeeper/roundkeeper/ruleset/actionpoints/Fighter -/
def k11 : Class := { plain "com/example/roundkeeper/roundkeeper/ruleset/actionpoints/Fighter" (some 10) with
  accessFlags := 48
  interfaces := #[]
  cf := some (fileOf pool11 19 #[] #[{ accessFlags := 0, nameIndex := 5, descriptorIndex := 94, attributes := #[] }, { accessFlags := 0, nameIndex := 99, descriptorIndex := 100, attributes := #[] }] 48 2 #[] #[{ accessFlags := 18, nameIndex := 22, descriptorIndex := 23, attributes := #[] }, { accessFlags := 18, nameIndex := 26, descriptorIndex := 23, attributes := #[] }, { accessFlags := 18, nameIndex := 29, descriptorIndex := 30, attributes := #[] }, { accessFlags := 18, nameIndex := 33, descriptorIndex := 30, attributes := #[] }, { accessFlags := 18, nameIndex := 36, descriptorIndex := 30, attributes := #[] }, { accessFlags := 18, nameIndex := 39, descriptorIndex := 30, attributes := #[] }, { accessFlags := 18, nameIndex := 42, descriptorIndex := 30, attributes := #[] }, { accessFlags := 18, nameIndex := 45, descriptorIndex := 46, attributes := #[] }, { accessFlags := 18, nameIndex := 49, descriptorIndex := 50, attributes := #[] }, { accessFlags := 24, nameIndex := 88, descriptorIndex := 89, attributes := #[] }])
  fields := #[{ name := "name", type := (.object "java/lang/String"), accessFlags := 18, slot := 0, constantValue := 0 }, { name := "side", type := (.object "java/lang/String"), accessFlags := 18, slot := 1, constantValue := 0 }, { name := "initiative", type := .int, accessFlags := 18, slot := 2, constantValue := 0 }, { name := "agility", type := .int, accessFlags := 18, slot := 3, constantValue := 0 }, { name := "vitality", type := .int, accessFlags := 18, slot := 4, constantValue := 0 }, { name := "fortitude", type := .int, accessFlags := 18, slot := 5, constantValue := 0 }, { name := "extraPoints", type := .int, accessFlags := 18, slot := 6, constantValue := 0 }, { name := "resistances", type := (.object "java/util/Map"), accessFlags := 18, slot := 7, constantValue := 0 }, { name := "vulnerabilities", type := (.object "java/util/Set"), accessFlags := 18, slot := 8, constantValue := 0 }, { name := "ORDER", type := (.object "java/util/Comparator"), accessFlags := 24, slot := 0, constantValue := 0 }]
  methods := #[k11m0, k11m1]
  instanceTypes := #[(.object "java/lang/String"), (.object "java/lang/String"), .int, .int, .int, .int, .int, (.object "java/util/Map"), (.object "java/util/Set")]
  staticTypes := #[(.object "java/util/Comparator")]
  resolved := Array.replicate 153 none
  statics := none }

def pool12 : Array CpInfo := pool [(2, .class_ 4), (1, u "java/util/Map"), (31, .class_ 37), (0, u "java/util/Map$Entry"), (43, .fieldref 82 83), (0, .class_ 84), (0, .nameAndType 85 86), (0, u "java/util/ImmutableCollections"), (0, u "EMPTY_MAP"), (0, u "Ljava/util/ImmutableCollections$MapN;"), (6, .class_ 94), (0, u "java/lang/Object"), (6, .class_ 102), (0, u "java/util/ImmutableCollections$AbstractImmutableMap"), (5, u "of"), (0, u "()Ljava/util/Map;"), (140, u "copyOf"), (0, u "(Ljava/util/Map;)Ljava/util/Map;")] 11

def k12c0 : Code := { maxStack := 1, maxLocals := 0, code := jdk_72_method_26_code, exceptionTable := #[], attributes := #[] }
def k12m0 : Method := { name := "of", desc := "()Ljava/util/Map;", sig := { parameters := [], returnType := some (.object "java/util/Map") }, accessFlags := 9, code := some k12c0 }
def k12c1 : Code := { maxStack := 2, maxLocals := 1, code := jdk_72_method_39_code, exceptionTable := #[], attributes := #[] }
def k12m1 : Method := { name := "copyOf", desc := "(Ljava/util/Map;)Ljava/util/Map;", sig := { parameters := [(.object "java/util/Map")], returnType := some (.object "java/util/Map") }, accessFlags := 9, code := some k12c1 }
/-- java/util/Map -/
def k12 : Class := { plain "java/util/Map" (some 0) with
  accessFlags := 1537
  interfaces := #[]
  cf := some (fileOf pool12 2 #[.nestMembers #[36]] #[{ accessFlags := 9, nameIndex := 108, descriptorIndex := 109, attributes := #[] }, { accessFlags := 9, nameIndex := 250, descriptorIndex := 251, attributes := #[] }] 1537 93 #[] #[])
  fields := #[]
  methods := #[k12m0, k12m1]
  instanceTypes := #[]
  staticTypes := #[]
  resolved := Array.replicate 263 none
  statics := none }

def pool13 : Array CpInfo := pool [(2, .class_ 4), (1, u "java/lang/Object"), (0, u "<init>"), (0, u "()V"), (3, .class_ 11), (0, u "java/util/ImmutableCollections$List12"), (0, .class_ 13), (0, u "java/util/ImmutableCollections$ListN"), (3, u "Z"), (29, .class_ 49), (1, u "java/util/ImmutableCollections"), (0, u "$assertionsDisabled"), (5, u "[Ljava/lang/Object;"), (5, u "EMPTY_LIST"), (0, u "Ljava/util/ImmutableCollections$ListN;"), (8, u "EMPTY_LIST_NULLS"), (22, u "SALT32L"), (0, u "J"), (2, u "REVERSE"), (6, u "archivedObjects"), (2, u "EMPTY"), (0, u "Ljava/lang/Object;"), (0, .class_ 112), (0, u "java/util/ImmutableCollections$SetN"), (5, u "EMPTY_SET"), (0, u "Ljava/util/ImmutableCollections$SetN;"), (0, .class_ 121), (0, u "java/util/ImmutableCollections$MapN"), (3, u "EMPTY_MAP"), (0, u "Ljava/util/ImmutableCollections$MapN;"), (4, u "EXPAND_FACTOR"), (0, u "I"), (36, .class_ 170), (0, u "java/util/ImmutableCollections$MapN$MapNIterator"), (0, .class_ 172), (0, u "java/util/ImmutableCollections$MapN$1"), (0, .class_ 174), (0, u "java/util/ImmutableCollections$Map1"), (0, .class_ 176), (0, u "java/util/ImmutableCollections$AbstractImmutableMap"), (0, .class_ 178), (0, u "java/util/ImmutableCollections$SetN$SetNIterator"), (0, .class_ 180), (0, u "java/util/ImmutableCollections$Set12"), (0, .class_ 182), (0, u "java/util/ImmutableCollections$Set12$1"), (0, .class_ 184), (0, u "java/util/ImmutableCollections$AbstractImmutableSet"), (0, .class_ 186), (0, u "java/util/ImmutableCollections$SubList"), (0, .class_ 188), (0, u "java/util/ImmutableCollections$ListItr"), (0, .class_ 190), (0, u "java/util/ImmutableCollections$AbstractImmutableList"), (0, .class_ 192), (0, u "java/util/ImmutableCollections$AbstractImmutableCollection"), (0, .class_ 194), (0, u "java/util/ImmutableCollections$Access"), (0, .class_ 196), (0, u "java/util/ImmutableCollections$Access$1")] 16

def k13m0 : Method := { name := "<init>", desc := "()V", sig := { parameters := [], returnType := none }, accessFlags := 2, code := none }
/-- java/util/ImmutableCollections -/
def k13 : Class := { plain "java/util/ImmutableCollections" (some 0) with
  accessFlags := 32
  interfaces := #[]
  cf := some (fileOf pool13 47 #[.nestMembers #[120, 169, 171, 173, 175, 111, 177, 179, 181, 183, 12, 10, 185, 187, 189, 191, 193, 195]] #[{ accessFlags := 2, nameIndex := 5, descriptorIndex := 6, attributes := #[] }] 32 2 #[] #[{ accessFlags := 26, nameIndex := 95, descriptorIndex := 96, attributes := #[] }, { accessFlags := 26, nameIndex := 99, descriptorIndex := 17, attributes := #[] }, { accessFlags := 10, nameIndex := 106, descriptorIndex := 56, attributes := #[] }, { accessFlags := 26, nameIndex := 109, descriptorIndex := 110, attributes := #[] }, { accessFlags := 24, nameIndex := 62, descriptorIndex := 63, attributes := #[] }, { accessFlags := 24, nameIndex := 72, descriptorIndex := 63, attributes := #[] }, { accessFlags := 24, nameIndex := 118, descriptorIndex := 119, attributes := #[] }, { accessFlags := 24, nameIndex := 125, descriptorIndex := 126, attributes := #[] }, { accessFlags := 24, nameIndex := 131, descriptorIndex := 132, attributes := #[] }, { accessFlags := 4120, nameIndex := 50, descriptorIndex := 17, attributes := #[] }])
  fields := #[{ name := "SALT32L", type := .long, accessFlags := 26, slot := 0, constantValue := 0 }, { name := "REVERSE", type := .boolean, accessFlags := 26, slot := 1, constantValue := 0 }, { name := "archivedObjects", type := (.array (.object "java/lang/Object")), accessFlags := 10, slot := 2, constantValue := 0 }, { name := "EMPTY", type := (.object "java/lang/Object"), accessFlags := 26, slot := 3, constantValue := 0 }, { name := "EMPTY_LIST", type := (.object "java/util/ImmutableCollections$ListN"), accessFlags := 24, slot := 4, constantValue := 0 }, { name := "EMPTY_LIST_NULLS", type := (.object "java/util/ImmutableCollections$ListN"), accessFlags := 24, slot := 5, constantValue := 0 }, { name := "EMPTY_SET", type := (.object "java/util/ImmutableCollections$SetN"), accessFlags := 24, slot := 6, constantValue := 0 }, { name := "EMPTY_MAP", type := (.object "java/util/ImmutableCollections$MapN"), accessFlags := 24, slot := 7, constantValue := 0 }, { name := "EXPAND_FACTOR", type := .int, accessFlags := 24, slot := 8, constantValue := 0 }, { name := "$assertionsDisabled", type := .boolean, accessFlags := 4120, slot := 9, constantValue := 0 }]
  methods := #[k13m0]
  instanceTypes := #[]
  staticTypes := #[.long, .boolean, (.array (.object "java/lang/Object")), (.object "java/lang/Object"), (.object "java/util/ImmutableCollections$ListN"), (.object "java/util/ImmutableCollections$ListN"), (.object "java/util/ImmutableCollections$SetN"), (.object "java/util/ImmutableCollections$MapN"), .int, .boolean]
  resolved := Array.replicate 213 none
  statics := some 1 }

def pool14 : Array CpInfo := pool [(8, .class_ 10), (1, u "java/lang/Iterable"), (24, .class_ 36), (0, u "java/lang/Object")] 25

/-- java/lang/Iterable -/
def k14 : Class := { plain "java/lang/Iterable" (some 0) with
  accessFlags := 1537
  interfaces := #[]
  cf := some (fileOf pool14 8 #[] #[] 1537 35 #[] #[])
  fields := #[]
  methods := #[]
  instanceTypes := #[]
  staticTypes := #[]
  resolved := Array.replicate 62 none
  statics := none }

def pool15 : Array CpInfo := pool [(10, .class_ 12), (1, u "java/util/Collection"), (47, .class_ 61), (0, u "java/lang/Object"), (0, .class_ 63), (0, u "java/lang/Iterable")] 51

/-- java/util/Collection -/
def k15 : Class := { plain "java/util/Collection" (some 0) with
  accessFlags := 1537
  interfaces := #[14]
  cf := some (fileOf pool15 10 #[] #[] 1537 60 #[62] #[])
  fields := #[]
  methods := #[]
  instanceTypes := #[]
  staticTypes := #[]
  resolved := Array.replicate 115 none
  statics := none }

def pool16 : Array CpInfo := pool [(9, .fieldref 10 11), (0, .class_ 12), (0, .nameAndType 13 14), (0, u "java/util/ImmutableCollections"), (0, u "EMPTY_SET"), (0, u "Ljava/util/ImmutableCollections$SetN;"), (11, .class_ 27), (0, u "java/lang/Object"), (3, .class_ 32), (0, u "java/util/ImmutableCollections$AbstractImmutableSet"), (0, .class_ 34), (0, u "java/util/Set"), (1, .class_ 38), (1, u "java/util/Collection"), (4, u "of"), (0, u "()Ljava/util/Set;"), (86, u "copyOf"), (0, u "(Ljava/util/Collection;)Ljava/util/Set;")] 11

def k16c0 : Code := { maxStack := 1, maxLocals := 0, code := jdk_96_method_17_code, exceptionTable := #[], attributes := #[] }
def k16m0 : Method := { name := "of", desc := "()Ljava/util/Set;", sig := { parameters := [], returnType := some (.object "java/util/Set") }, accessFlags := 9, code := some k16c0 }
def k16c1 : Code := { maxStack := 3, maxLocals := 1, code := jdk_96_method_29_code, exceptionTable := #[], attributes := #[] }
def k16m1 : Method := { name := "copyOf", desc := "(Ljava/util/Collection;)Ljava/util/Set;", sig := { parameters := [(.object "java/util/Collection")], returnType := some (.object "java/util/Set") }, accessFlags := 9, code := some k16c1 }
/-- java/util/Set -/
def k16 : Class := { plain "java/util/Set" (some 0) with
  accessFlags := 1537
  interfaces := #[15]
  cf := some (fileOf pool16 33 #[] #[{ accessFlags := 9, nameIndex := 43, descriptorIndex := 44, attributes := #[] }, { accessFlags := 9, nameIndex := 131, descriptorIndex := 132, attributes := #[] }] 1537 26 #[36] #[])
  fields := #[]
  methods := #[k16m0, k16m1]
  instanceTypes := #[]
  staticTypes := #[]
  resolved := Array.replicate 144 none
  statics := none }

def pool17 : Array CpInfo := pool [(2, .class_ 4), (1, u "java/lang/Object"), (0, u "<init>"), (0, u "()V"), (1, .class_ 10), (1, u "java/util/AbstractMap"), (42, .class_ 54), (0, u "java/util/Map"), (9, u "keySet"), (0, u "Ljava/util/Set;"), (0, .class_ 67), (0, u "java/util/AbstractMap$1"), (5, u "values"), (0, u "Ljava/util/Collection;"), (0, .class_ 76), (0, u "java/util/AbstractMap$2"), (104, .class_ 182), (0, u "java/util/AbstractMap$ViewCollection"), (0, .class_ 184), (0, u "java/util/AbstractMap$SimpleImmutableEntry"), (0, .class_ 186), (0, u "java/util/AbstractMap$SimpleEntry"), (0, .class_ 188), (0, u "java/util/AbstractMap$2$1"), (0, .class_ 190), (0, u "java/util/AbstractMap$1$1")] 5

def k17m0 : Method := { name := "<init>", desc := "()V", sig := { parameters := [], returnType := none }, accessFlags := 4, code := none }
/-- java/util/AbstractMap -/
def k17 : Class := { plain "java/util/AbstractMap" (some 0) with
  accessFlags := 1057
  interfaces := #[12]
  cf := some (fileOf pool17 8 #[.nestMembers #[181, 183, 185, 75, 187, 66, 189]] #[{ accessFlags := 4, nameIndex := 5, descriptorIndex := 6, attributes := #[] }] 1057 2 #[53] #[{ accessFlags := 128, nameIndex := 64, descriptorIndex := 65, attributes := #[] }, { accessFlags := 128, nameIndex := 73, descriptorIndex := 74, attributes := #[] }])
  fields := #[{ name := "keySet", type := (.object "java/util/Set"), accessFlags := 128, slot := 0, constantValue := 0 }, { name := "values", type := (.object "java/util/Collection"), accessFlags := 128, slot := 1, constantValue := 0 }]
  methods := #[k17m0]
  instanceTypes := #[(.object "java/util/Set"), (.object "java/util/Collection")]
  staticTypes := #[]
  resolved := Array.replicate 196 none
  statics := none }

def pool18 : Array CpInfo := pool [(2, .class_ 4), (1, u "java/util/AbstractMap"), (0, u "<init>"), (0, u "()V"), (1, .class_ 10), (1, u "java/util/ImmutableCollections"), (3, .class_ 16), (1, u "java/util/ImmutableCollections$AbstractImmutableMap"), (2, .class_ 20), (0, u "java/io/Serializable")] 66

def k18m0 : Method := { name := "<init>", desc := "()V", sig := { parameters := [], returnType := none }, accessFlags := 0, code := none }
/-- java/util/ImmutableCollections$AbstractImmutableMap -/
def k18 : Class := { plain "java/util/ImmutableCollections$AbstractImmutableMap" (some 17) with
  accessFlags := 1056
  interfaces := #[2]
  cf := some (fileOf pool18 14 #[.nestHost 8] #[{ accessFlags := 0, nameIndex := 5, descriptorIndex := 6, attributes := #[] }] 1056 2 #[19] #[])
  fields := #[]
  methods := #[k18m0]
  instanceTypes := #[(.object "java/util/Set"), (.object "java/util/Collection")]
  staticTypes := #[]
  resolved := Array.replicate 87 none
  statics := none }

def pool19 : Array CpInfo := pool [(1, .class_ 2), (0, u "java/util/ImmutableCollections"), (1, .class_ 6), (1, u "java/util/ImmutableCollections$AbstractImmutableMap"), (10, .class_ 19), (1, u "java/util/ImmutableCollections$MapN"), (0, u "size"), (0, u "I"), (4, u "table"), (0, u "[Ljava/lang/Object;")] 121

/-- java/util/ImmutableCollections$MapN -/
def k19 : Class := { plain "java/util/ImmutableCollections$MapN" (some 18) with
  accessFlags := 48
  interfaces := #[]
  cf := some (fileOf pool19 17 #[.nestHost 1] #[] 48 4 #[] #[{ accessFlags := 16, nameIndex := 26, descriptorIndex := 27, attributes := #[] }, { accessFlags := 16, nameIndex := 20, descriptorIndex := 21, attributes := #[] }])
  fields := #[{ name := "table", type := (.array (.object "java/lang/Object")), accessFlags := 16, slot := 2, constantValue := 0 }, { name := "size", type := .int, accessFlags := 16, slot := 3, constantValue := 0 }]
  methods := #[]
  instanceTypes := #[(.object "java/util/Set"), (.object "java/util/Collection"), (.array (.object "java/lang/Object")), .int]
  staticTypes := #[]
  resolved := Array.replicate 149 none
  statics := none }

def pool20 : Array CpInfo := pool [(2, .class_ 4), (1, u "java/lang/Object"), (0, u "<init>"), (0, u "()V"), (1, .class_ 10), (1, u "java/util/AbstractCollection"), (66, .class_ 78), (0, u "java/util/Collection")] 81

def k20m0 : Method := { name := "<init>", desc := "()V", sig := { parameters := [], returnType := none }, accessFlags := 4, code := none }
/-- java/util/AbstractCollection -/
def k20 : Class := { plain "java/util/AbstractCollection" (some 0) with
  accessFlags := 1057
  interfaces := #[15]
  cf := some (fileOf pool20 8 #[] #[{ accessFlags := 4, nameIndex := 5, descriptorIndex := 6, attributes := #[] }] 1057 2 #[77] #[])
  fields := #[]
  methods := #[k20m0]
  instanceTypes := #[]
  staticTypes := #[]
  resolved := Array.replicate 160 none
  statics := none }

def pool21 : Array CpInfo := pool [(2, .class_ 4), (1, u "java/util/AbstractCollection"), (0, u "<init>"), (0, u "()V"), (1, .class_ 10), (1, u "java/util/ImmutableCollections"), (2, .class_ 14), (0, u "java/util/ImmutableCollections$AbstractImmutableCollection")] 41

def k21m0 : Method := { name := "<init>", desc := "()V", sig := { parameters := [], returnType := none }, accessFlags := 0, code := none }
/-- java/util/ImmutableCollections$AbstractImmutableCollection -/
def k21 : Class := { plain "java/util/ImmutableCollections$AbstractImmutableCollection" (some 20) with
  accessFlags := 1056
  interfaces := #[]
  cf := some (fileOf pool21 13 #[.nestHost 8] #[{ accessFlags := 0, nameIndex := 5, descriptorIndex := 6, attributes := #[] }] 1056 2 #[] #[])
  fields := #[]
  methods := #[k21m0]
  instanceTypes := #[]
  staticTypes := #[]
  resolved := Array.replicate 56 none
  statics := none }

def pool22 : Array CpInfo := pool [(2, .class_ 4), (1, u "java/util/ImmutableCollections$AbstractImmutableCollection"), (0, u "<init>"), (0, u "()V"), (0, .class_ 8), (0, u "java/util/Set"), (7, .class_ 17), (0, u "java/util/ImmutableCollections$AbstractImmutableSet"), (43, .class_ 62), (0, u "java/util/ImmutableCollections")] 3

def k22m0 : Method := { name := "<init>", desc := "()V", sig := { parameters := [], returnType := none }, accessFlags := 0, code := none }
/-- java/util/ImmutableCollections$AbstractImmutableSet -/
def k22 : Class := { plain "java/util/ImmutableCollections$AbstractImmutableSet" (some 21) with
  accessFlags := 1056
  interfaces := #[16]
  cf := some (fileOf pool22 16 #[.nestHost 61] #[{ accessFlags := 0, nameIndex := 5, descriptorIndex := 6, attributes := #[] }] 1056 2 #[7] #[])
  fields := #[]
  methods := #[k22m0]
  instanceTypes := #[]
  staticTypes := #[]
  resolved := Array.replicate 66 none
  statics := none }

def pool23 : Array CpInfo := pool [(1, .class_ 2), (0, u "java/util/ImmutableCollections"), (1, .class_ 6), (1, u "java/util/ImmutableCollections$AbstractImmutableSet"), (3, .class_ 12), (1, u "java/util/ImmutableCollections$SetN"), (0, u "size"), (0, u "I"), (4, u "elements"), (0, u "[Ljava/lang/Object;"), (86, .class_ 108), (0, u "java/io/Serializable")] 59

/-- java/util/ImmutableCollections$SetN -/
def k23 : Class := { plain "java/util/ImmutableCollections$SetN" (some 22) with
  accessFlags := 48
  interfaces := #[2]
  cf := some (fileOf pool23 10 #[.nestHost 1] #[] 48 4 #[107] #[{ accessFlags := 16, nameIndex := 19, descriptorIndex := 20, attributes := #[] }, { accessFlags := 16, nameIndex := 13, descriptorIndex := 14, attributes := #[] }])
  fields := #[{ name := "elements", type := (.array (.object "java/lang/Object")), accessFlags := 16, slot := 0, constantValue := 0 }, { name := "size", type := .int, accessFlags := 16, slot := 1, constantValue := 0 }]
  methods := #[]
  instanceTypes := #[(.array (.object "java/lang/Object")), .int]
  staticTypes := #[]
  resolved := Array.replicate 168 none
  statics := none }

def pool24 : Array CpInfo := pool [(1, .methodref 2 3), (0, .class_ 4), (0, .nameAndType 5 6), (0, u "java/lang/Record"), (0, u "<init>"), (0, u "()V"), (0, .fieldref 8 9), (0, .class_ 10), (0, .nameAndType 11 12), (0, u "com/example/roundkeeper/roundkeeper/Turn"), (0, u "name"), (0, u "Ljava/lang/String;"), (0, .fieldref 8 14), (0, .nameAndType 15 12), (0, u "side"), (0, .fieldref 8 17), (0, .nameAndType 18 19), (0, u "initiative"), (0, u "I"), (0, .fieldref 8 21), (0, .nameAndType 22 23), (0, u "simultaneous"), (0, u "Z"), (0, .methodref 8 25), (0, .nameAndType 5 26), (0, u "(Ljava/lang/String;Ljava/lang/String;IZ)V"), (12, u "(Ljava/lang/String;Ljava/lang/String;I)V"), (3, u "()Ljava/lang/String;"), (0, u "()I"), (1, u "()Z")] 23

def k24c0 : Code := { maxStack := 5, maxLocals := 4, code := prog_3_method_1_code, exceptionTable := #[], attributes := #[] }
def k24m0 : Method := { name := "<init>", desc := "(Ljava/lang/String;Ljava/lang/String;I)V", sig := { parameters := [(.object "java/lang/String"), (.object "java/lang/String"), .int], returnType := none }, accessFlags := 1, code := some k24c0 }
def k24c1 : Code := { maxStack := 2, maxLocals := 5, code := prog_3_method_2_code, exceptionTable := #[], attributes := #[] }
def k24m1 : Method := { name := "<init>", desc := "(Ljava/lang/String;Ljava/lang/String;IZ)V", sig := { parameters := [(.object "java/lang/String"), (.object "java/lang/String"), .int, .boolean], returnType := none }, accessFlags := 1, code := some k24c1 }
def k24c2 : Code := { maxStack := 1, maxLocals := 1, code := prog_3_method_6_code, exceptionTable := #[], attributes := #[] }
def k24m2 : Method := { name := "name", desc := "()Ljava/lang/String;", sig := { parameters := [], returnType := some (.object "java/lang/String") }, accessFlags := 1, code := some k24c2 }
def k24c3 : Code := { maxStack := 1, maxLocals := 1, code := prog_3_method_7_code, exceptionTable := #[], attributes := #[] }
def k24m3 : Method := { name := "side", desc := "()Ljava/lang/String;", sig := { parameters := [], returnType := some (.object "java/lang/String") }, accessFlags := 1, code := some k24c3 }
def k24c4 : Code := { maxStack := 1, maxLocals := 1, code := prog_3_method_8_code, exceptionTable := #[], attributes := #[] }
def k24m4 : Method := { name := "initiative", desc := "()I", sig := { parameters := [], returnType := some .int }, accessFlags := 1, code := some k24c4 }
def k24c5 : Code := { maxStack := 1, maxLocals := 1, code := prog_3_method_9_code, exceptionTable := #[], attributes := #[] }
def k24m5 : Method := { name := "simultaneous", desc := "()Z", sig := { parameters := [], returnType := some .boolean }, accessFlags := 1, code := some k24c5 }
/-- com/example/roundkeeper/roundkeeper/Turn -/
def k24 : Class := { plain "com/example/roundkeeper/roundkeeper/Turn" (some 10) with
  accessFlags := 49
  interfaces := #[]
  cf := some (fileOf pool24 8 #[] #[{ accessFlags := 1, nameIndex := 5, descriptorIndex := 39, attributes := #[] }, { accessFlags := 1, nameIndex := 5, descriptorIndex := 26, attributes := #[] }, { accessFlags := 1, nameIndex := 11, descriptorIndex := 43, attributes := #[] }, { accessFlags := 1, nameIndex := 15, descriptorIndex := 43, attributes := #[] }, { accessFlags := 1, nameIndex := 18, descriptorIndex := 44, attributes := #[] }, { accessFlags := 1, nameIndex := 22, descriptorIndex := 46, attributes := #[] }] 49 2 #[] #[{ accessFlags := 18, nameIndex := 11, descriptorIndex := 12, attributes := #[] }, { accessFlags := 18, nameIndex := 15, descriptorIndex := 12, attributes := #[] }, { accessFlags := 18, nameIndex := 18, descriptorIndex := 19, attributes := #[] }, { accessFlags := 18, nameIndex := 22, descriptorIndex := 23, attributes := #[] }])
  fields := #[{ name := "name", type := (.object "java/lang/String"), accessFlags := 18, slot := 0, constantValue := 0 }, { name := "side", type := (.object "java/lang/String"), accessFlags := 18, slot := 1, constantValue := 0 }, { name := "initiative", type := .int, accessFlags := 18, slot := 2, constantValue := 0 }, { name := "simultaneous", type := .boolean, accessFlags := 18, slot := 3, constantValue := 0 }]
  methods := #[k24m0, k24m1, k24m2, k24m3, k24m4, k24m5]
  instanceTypes := #[(.object "java/lang/String"), (.object "java/lang/String"), .int, .boolean]
  staticTypes := #[]
  resolved := Array.replicate 70 none
  statics := none }

def pool25 : Array CpInfo := pool [(2, .class_ 4), (1, u "java/lang/Object"), (0, u "<init>"), (0, u "()V"), (17, .class_ 26), (1, u "jdk/internal/util/Preconditions"), (6, u "checkIndex"), (21, .class_ 56), (0, u "jdk/internal/util/Preconditions$4"), (57, .class_ 115), (0, u "jdk/internal/util/Preconditions$1"), (7, u "SIOOBE_FORMATTER"), (0, u "Ljava/util/function/BiFunction;"), (0, .class_ 126), (0, u "jdk/internal/util/Preconditions$2"), (3, u "AIOOBE_FORMATTER"), (0, .class_ 132), (0, u "jdk/internal/util/Preconditions$3"), (3, u "IOOBE_FORMATTER"), (41, u "(IILjava/util/function/BiFunction;)I")] 15

def k25m0 : Method := { name := "<init>", desc := "()V", sig := { parameters := [], returnType := none }, accessFlags := 1, code := none }
def k25c1 : Code := { maxStack := 3, maxLocals := 3, code := jdk_41_method_11_code, exceptionTable := #[], attributes := #[] }
def k25m1 : Method := { name := "checkIndex", desc := "(IILjava/util/function/BiFunction;)I", sig := { parameters := [.int, .int, (.object "java/util/function/BiFunction")], returnType := some .int }, accessFlags := 9, code := some k25c1 }
/-- jdk/internal/util/Preconditions -/
def k25 : Class := { plain "jdk/internal/util/Preconditions" (some 0) with
  accessFlags := 33
  interfaces := #[]
  cf := some (fileOf pool25 24 #[.nestMembers #[55, 131, 125, 114]] #[{ accessFlags := 1, nameIndex := 5, descriptorIndex := 6, attributes := #[] }, { accessFlags := 9, nameIndex := 33, descriptorIndex := 178, attributes := #[] }] 33 2 #[] #[{ accessFlags := 25, nameIndex := 123, descriptorIndex := 124, attributes := #[] }, { accessFlags := 25, nameIndex := 130, descriptorIndex := 124, attributes := #[] }, { accessFlags := 25, nameIndex := 136, descriptorIndex := 124, attributes := #[] }])
  fields := #[{ name := "SIOOBE_FORMATTER", type := (.object "java/util/function/BiFunction"), accessFlags := 25, slot := 0, constantValue := 0 }, { name := "AIOOBE_FORMATTER", type := (.object "java/util/function/BiFunction"), accessFlags := 25, slot := 1, constantValue := 0 }, { name := "IOOBE_FORMATTER", type := (.object "java/util/function/BiFunction"), accessFlags := 25, slot := 2, constantValue := 0 }]
  methods := #[k25m0, k25m1]
  instanceTypes := #[]
  staticTypes := #[(.object "java/util/function/BiFunction"), (.object "java/util/function/BiFunction"), (.object "java/util/function/BiFunction")]
  resolved := Array.replicate 194 none
  statics := some 2 }

def pool26 : Array CpInfo := pool [(9, u "<init>"), (6, .class_ 18), (1, u "java/lang/Object"), (0, u "()V"), (1, .class_ 23), (1, u "jdk/internal/util/ArraysSupport"), (0, u "LOG2_ARRAY_LONG_INDEX_SCALE"), (0, u "I"), (2, u "U"), (0, u "Ljdk/internal/misc/Unsafe;"), (8, u "BIG_ENDIAN"), (0, u "Z"), (8, u "LOG2_BYTE_BIT_SIZE"), (4, u "LOG2_ARRAY_INT_INDEX_SCALE"), (54, u "JLA"), (0, u "Ljdk/internal/access/JavaLangAccess;"), (11, u "LOG2_ARRAY_BOOLEAN_INDEX_SCALE"), (9, u "LOG2_ARRAY_BYTE_INDEX_SCALE"), (5, u "LOG2_ARRAY_CHAR_INDEX_SCALE"), (5, u "LOG2_ARRAY_SHORT_INDEX_SCALE"), (18, u "LOG2_ARRAY_FLOAT_INDEX_SCALE"), (24, u "LOG2_ARRAY_DOUBLE_INDEX_SCALE"), (89, u "T_BOOLEAN"), (2, u "T_CHAR"), (1, u "T_FLOAT"), (1, u "T_DOUBLE"), (1, u "T_BYTE"), (1, u "T_SHORT"), (1, u "T_INT"), (1, u "T_LONG"), (1, u "SOFT_MAX_ARRAY_LENGTH")] 83

def k26m0 : Method := { name := "<init>", desc := "()V", sig := { parameters := [], returnType := none }, accessFlags := 2, code := none }
/-- jdk/internal/util/ArraysSupport -/
def k26 : Class := { plain "jdk/internal/util/ArraysSupport" (some 0) with
  accessFlags := 33
  interfaces := #[]
  cf := some (fileOf pool26 21 #[] #[{ accessFlags := 2, nameIndex := 9, descriptorIndex := 19, attributes := #[] }] 33 16 #[] #[{ accessFlags := 24, nameIndex := 28, descriptorIndex := 29, attributes := #[] }, { accessFlags := 26, nameIndex := 38, descriptorIndex := 39, attributes := #[] }, { accessFlags := 25, nameIndex := 121, descriptorIndex := 25, attributes := #[] }, { accessFlags := 25, nameIndex := 131, descriptorIndex := 25, attributes := #[] }, { accessFlags := 25, nameIndex := 137, descriptorIndex := 25, attributes := #[] }, { accessFlags := 25, nameIndex := 143, descriptorIndex := 25, attributes := #[] }, { accessFlags := 25, nameIndex := 53, descriptorIndex := 25, attributes := #[] }, { accessFlags := 25, nameIndex := 24, descriptorIndex := 25, attributes := #[] }, { accessFlags := 25, nameIndex := 162, descriptorIndex := 25, attributes := #[] }, { accessFlags := 25, nameIndex := 187, descriptorIndex := 25, attributes := #[] }, { accessFlags := 26, nameIndex := 48, descriptorIndex := 25, attributes := #[] }, { accessFlags := 25, nameIndex := 277, descriptorIndex := 25, attributes := #[] }, { accessFlags := 25, nameIndex := 280, descriptorIndex := 25, attributes := #[] }, { accessFlags := 25, nameIndex := 282, descriptorIndex := 25, attributes := #[] }, { accessFlags := 25, nameIndex := 284, descriptorIndex := 25, attributes := #[] }, { accessFlags := 25, nameIndex := 286, descriptorIndex := 25, attributes := #[] }, { accessFlags := 25, nameIndex := 288, descriptorIndex := 25, attributes := #[] }, { accessFlags := 25, nameIndex := 290, descriptorIndex := 25, attributes := #[] }, { accessFlags := 25, nameIndex := 292, descriptorIndex := 25, attributes := #[] }, { accessFlags := 26, nameIndex := 108, descriptorIndex := 109, attributes := #[] }, { accessFlags := 25, nameIndex := 294, descriptorIndex := 25, attributes := #[] }])
  fields := #[{ name := "U", type := (.object "jdk/internal/misc/Unsafe"), accessFlags := 24, slot := 0, constantValue := 0 }, { name := "BIG_ENDIAN", type := .boolean, accessFlags := 26, slot := 1, constantValue := 0 }, { name := "LOG2_ARRAY_BOOLEAN_INDEX_SCALE", type := .int, accessFlags := 25, slot := 2, constantValue := 0 }, { name := "LOG2_ARRAY_BYTE_INDEX_SCALE", type := .int, accessFlags := 25, slot := 3, constantValue := 0 }, { name := "LOG2_ARRAY_CHAR_INDEX_SCALE", type := .int, accessFlags := 25, slot := 4, constantValue := 0 }, { name := "LOG2_ARRAY_SHORT_INDEX_SCALE", type := .int, accessFlags := 25, slot := 5, constantValue := 0 }, { name := "LOG2_ARRAY_INT_INDEX_SCALE", type := .int, accessFlags := 25, slot := 6, constantValue := 0 }, { name := "LOG2_ARRAY_LONG_INDEX_SCALE", type := .int, accessFlags := 25, slot := 7, constantValue := 0 }, { name := "LOG2_ARRAY_FLOAT_INDEX_SCALE", type := .int, accessFlags := 25, slot := 8, constantValue := 0 }, { name := "LOG2_ARRAY_DOUBLE_INDEX_SCALE", type := .int, accessFlags := 25, slot := 9, constantValue := 0 }, { name := "LOG2_BYTE_BIT_SIZE", type := .int, accessFlags := 26, slot := 10, constantValue := 0 }, { name := "T_BOOLEAN", type := .int, accessFlags := 25, slot := 11, constantValue := 0 }, { name := "T_CHAR", type := .int, accessFlags := 25, slot := 12, constantValue := 0 }, { name := "T_FLOAT", type := .int, accessFlags := 25, slot := 13, constantValue := 0 }, { name := "T_DOUBLE", type := .int, accessFlags := 25, slot := 14, constantValue := 0 }, { name := "T_BYTE", type := .int, accessFlags := 25, slot := 15, constantValue := 0 }, { name := "T_SHORT", type := .int, accessFlags := 25, slot := 16, constantValue := 0 }, { name := "T_INT", type := .int, accessFlags := 25, slot := 17, constantValue := 0 }, { name := "T_LONG", type := .int, accessFlags := 25, slot := 18, constantValue := 0 }, { name := "JLA", type := (.object "jdk/internal/access/JavaLangAccess"), accessFlags := 26, slot := 19, constantValue := 0 }, { name := "SOFT_MAX_ARRAY_LENGTH", type := .int, accessFlags := 25, slot := 20, constantValue := 0 }]
  methods := #[k26m0]
  instanceTypes := #[]
  staticTypes := #[(.object "jdk/internal/misc/Unsafe"), .boolean, .int, .int, .int, .int, .int, .int, .int, .int, .int, .int, .int, .int, .int, .int, .int, .int, .int, (.object "jdk/internal/access/JavaLangAccess"), .int]
  resolved := Array.replicate 378 none
  statics := none }

def pool27 : Array CpInfo := pool [(1, u "java/lang/Cloneable"), (0, .class_ 1), (0, u "java/lang/Object"), (0, .class_ 3)] 3

/-- java/lang/Cloneable -/
def k27 : Class := { plain "java/lang/Cloneable" (some 0) with
  accessFlags := 1537
  interfaces := #[]
  cf := some (fileOf pool27 2 #[] #[] 1537 4 #[] #[])
  fields := #[]
  methods := #[]
  instanceTypes := #[]
  staticTypes := #[]
  resolved := Array.replicate 8 none
  statics := none }

/-- the primitive byte -/
def k28 : Class := { plain "byte" none with kind := .primitive 'B', accessFlags := 0x411 }
/-- [B -/
def k29 : Class := { plain "[B" (some 0) with kind := .array 28 .byte, interfaces := #[27, 2], accessFlags := 1041 }

/-- the primitive char -/
def k30 : Class := { plain "char" none with kind := .primitive 'C', accessFlags := 0x411 }
/-- [C -/
def k31 : Class := { plain "[C" (some 0) with kind := .array 30 .char, interfaces := #[27, 2], accessFlags := 1041 }

/-- the primitive int -/
def k32 : Class := { plain "int" none with kind := .primitive 'I', accessFlags := 0x411 }
/-- [I -/
def k33 : Class := { plain "[I" (some 0) with kind := .array 32 .int, interfaces := #[27, 2], accessFlags := 1041 }

/-- [Ljava/lang/Object; -/
def k34 : Class := { plain "[Ljava/lang/Object;" (some 0) with kind := .array 0 (.object "java/lang/Object"), interfaces := #[27, 2], accessFlags := 1041 }

def heap : Heap := #[{ cls := 7, slots := #[.long 0, .int 1, .null, .int 0, .null, .int 0, .int 0], vm := .statics 7 },
  { cls := 13, slots := #[.long 0, .int 0, .null, .null, .null, .null, .ref 5, .ref 4, .int 0, .int 0], vm := .statics 13 },
  { cls := 25, slots := #[.null, .null, .null], vm := .statics 25 },
  { cls := 34, slots := #[], vm := .none },
  { cls := 19, slots := #[.null, .null, .ref 3, .int 0], vm := .none },
  { cls := 23, slots := #[.ref 3, .int 0], vm := .none }]
def classes : Array Class := #[k0, k1, k2, k3, k4, k5, k6, k7, k8, k9, k10, k11, k12, k13, k14, k15, k16, k17, k18, k19, k20, k21, k22, k23, k24, k25, k26, k27, k28, k29, k30, k31, k32, k33, k34]
def interned : List (Array UInt16 × Addr) := []
def slotsUsed : Nat := 26
def theMethod : MethodId := ⟨1, 1⟩
def args0 : Array Value := #[.int 5, .int 5, .int 5, .int 5, .int 5, .int 5]
def aboutOver (below : List Frame) : State where
  vm := { classes := classes, interned := interned.toArray }
  heap := heap
  slotsUsed := slotsUsed
  threads := #[{ frames := .invoking theMethod args0 :: below }]
def below0 : List Frame := [.native { method := ⟨0, 0⟩, args := #[] }]
def about1 : State := aboutOver below0
def p0 : Program := .bare "" "" ""
def e0 : Env := launch0.env 0 0 0
theorem w_frames : about1.frames = Frame.invoking theMethod args0 :: below0 := rfl
set_option maxRecDepth 65536 in
theorem w_args : argsFit about1.vm theMethod args0 = true := by decide +kernel
set_option maxRecDepth 65536 in
theorem w_heap : heapFits about1 = true := by decide +kernel
set_option maxRecDepth 65536 in
theorem w_runnable : about1.curStatus? = some .runnable := by decide +kernel
set_option maxRecDepth 65536 in
theorem w_alone : about1.alone = true := by decide +kernel
set_option maxRecDepth 65536 in
theorem w_named : about1.methodNamed? x = some theMethod := by decide +kernel
set_option maxRecDepth 65536 in
theorem w_hears : about1.hears theMethod below0 = true := by decide +kernel
set_option maxRecDepth 65536 in
theorem w_ripe : about1.ripe theMethod args0 below0 = true := by decide +kernel
theorem w_running : about1.status = .running := rfl
set_option maxRecDepth 65536 in
theorem w_room : about1.hasRoom e0.platform room_1 = true :=
  launch0.hasRoom_least _ room_1 (by decide +kernel) (by decide +kernel) (by decide +kernel) (by decide +kernel) (by decide +kernel) (by decide +kernel)
theorem allAtoms_all (ts : List Jvm.Cond) (a : Array Jvm.Value) (st : Jvm.State) : (allAtoms ts).before a st = ts.all (fun c => c.before a st) := by
  induction ts with
  | nil => rfl
  | cons c t ih =>
    show (Jvm.Cond.and c (allAtoms t)).before a st = _
    rw [Jvm.Cond.before_and, ih, List.all_cons]
def words1 : List Jvm.Cond := Jvm.Cond.code x code maxLocals ret :: tables_1
/-- a 'code' word, met by the world's own term for the bytes: nothing is compared byte by byte -/
theorem code_word {y : MethodName} {bytes : ByteArray} {mx : Nat} {rt : Option FieldType} {a : Array Value} {s : State} {m : MethodId} {meth : Method} {c : Code} (h1 : s.methodNamed? y = some m) (h2 : s.vm.method? m = some meth) (h3 : meth.code = some c) (h4 : c.code = bytes)
    (h5 : (c.maxLocals == mx && c.exceptionTable.isEmpty && decide (c.maxStack ≤ mostOperands) && decide (meth.sig.returnType = rt) && !meth.locks && decide (parseMethodDescriptor y.desc = some meth.sig)) = true) : (Jvm.Cond.code y bytes mx rt).before a s = true := by
  simp only [Bool.and_eq_true, beq_iff_eq, Bool.not_eq_true', decide_eq_true_eq] at h5
  obtain ⟨⟨⟨⟨⟨g1, g2⟩, g3⟩, g4⟩, g5⟩, g6⟩ := h5
  simp [Cond.before, Cond.holds, Cond.value, h1, h2, h3, h4, g1, g2, g3, g4, g5, g6]
def isCode : Jvm.Cond → Bool
  | .code _ _ _ _ => true
  | _ => false
theorem all_split {L : List Jvm.Cond} {P : Jvm.Cond → Bool} (h1 : L.all (fun c => isCode c || P c) = true) (h2 : ∀ c ∈ L.filter isCode, P c = true) : L.all P = true := by
  refine List.all_eq_true.mpr fun c hc => ?_
  have h := List.all_eq_true.mp h1 c hc
  rcases Bool.eq_false_or_eq_true (isCode c) with hi | hi
  · exact h2 c (List.mem_filter.mpr ⟨hc, hi⟩)
  · simpa [hi] using h
set_option maxRecDepth 65536 in
theorem w_c0 : (Jvm.Cond.code x code maxLocals ret).before args0 about1 = true := code_word (m := ⟨1, 1⟩) (meth := k1m1) (c := k1c1) (by decide +kernel) rfl rfl rfl (by decide +kernel)
set_option maxRecDepth 65536 in
theorem w_c1 : (Jvm.Cond.code ({ cls := "java/lang/String", name := "<init>", desc := "([C)V" } : Jvm.MethodName) jdk_42_method_3_code (2 : Nat) (Option.none : Option Jvm.ClassFile.FieldType)).before args0 about1 = true := code_word (m := ⟨7, 1⟩) (meth := k7m1) (c := k7c1) (by decide +kernel) rfl rfl rfl (by decide +kernel)
set_option maxRecDepth 65536 in
theorem w_c2 : (Jvm.Cond.code ({ cls := "java/lang/String", name := "<init>", desc := "([CIILjava/lang/Void;)V" } : Jvm.MethodName) jdk_42_method_149_code (6 : Nat) (Option.none : Option Jvm.ClassFile.FieldType)).before args0 about1 = true := code_word (m := ⟨7, 5⟩) (meth := k7m5) (c := k7c5) (by decide +kernel) rfl rfl rfl (by decide +kernel)
set_option maxRecDepth 65536 in
theorem w_c3 : (Jvm.Cond.code ({ cls := "java/lang/Object", name := "<init>", desc := "()V" } : Jvm.MethodName) object_method_1_code (1 : Nat) (Option.none : Option Jvm.ClassFile.FieldType)).before args0 about1 = true := code_word (m := ⟨0, 0⟩) (meth := k0m0) (c := k0c0) (by decide +kernel) rfl rfl rfl (by decide +kernel)
set_option maxRecDepth 65536 in
theorem w_c4 : (Jvm.Cond.code ({ cls := "java/lang/StringUTF16", name := "compress", desc := "([CII)[B" } : Jvm.MethodName) jdk_52_method_16_code (6 : Nat) (Option.some (Jvm.ClassFile.FieldType.array Jvm.ClassFile.FieldType.byte))).before args0 about1 = true := code_word (m := ⟨8, 2⟩) (meth := k8m2) (c := k8c2) (by decide +kernel) rfl rfl rfl (by decide +kernel)
set_option maxRecDepth 65536 in
theorem w_c5 : (Jvm.Cond.code ({ cls := "java/lang/StringUTF16", name := "compress", desc := "([CI[BII)I" } : Jvm.MethodName) jdk_52_method_21_code (7 : Nat) (Option.some Jvm.ClassFile.FieldType.int)).before args0 about1 = true := code_word (m := ⟨8, 3⟩) (meth := k8m3) (c := k8c3) (by decide +kernel) rfl rfl rfl (by decide +kernel)
set_option maxRecDepth 65536 in
theorem w_c6 : (Jvm.Cond.code ({ cls := "java/lang/StringUTF16", name := "coderFromArrayLen", desc := "([BI)B" } : Jvm.MethodName) jdk_52_method_15_code (2 : Nat) (Option.some Jvm.ClassFile.FieldType.byte)).before args0 about1 = true := code_word (m := ⟨8, 1⟩) (meth := k8m1) (c := k8c1) (by decide +kernel) rfl rfl rfl (by decide +kernel)
set_option maxRecDepth 65536 in
theorem w_c7 : (Jvm.Cond.code ({ cls := "java/lang/String", name := "valueOf", desc := "(C)Ljava/lang/String;" } : Jvm.MethodName) jdk_42_method_139_code (1 : Nat) (Option.some (Jvm.ClassFile.FieldType.object "java/lang/String"))).before args0 about1 = true := code_word (m := ⟨7, 4⟩) (meth := k7m4) (c := k7c4) (by decide +kernel) rfl rfl rfl (by decide +kernel)
set_option maxRecDepth 65536 in
theorem w_c8 : (Jvm.Cond.code ({ cls := "java/lang/StringLatin1", name := "canEncode", desc := "(C)Z" } : Jvm.MethodName) jdk_43_method_3_code (1 : Nat) (Option.some Jvm.ClassFile.FieldType.boolean)).before args0 about1 = true := code_word (m := ⟨9, 2⟩) (meth := k9m2) (c := k9c2) (by decide +kernel) rfl rfl rfl (by decide +kernel)
set_option maxRecDepth 65536 in
theorem w_c9 : (Jvm.Cond.code ({ cls := "java/lang/StringLatin1", name := "toBytes", desc := "(C)[B" } : Jvm.MethodName) jdk_43_method_46_code (1 : Nat) (Option.some (Jvm.ClassFile.FieldType.array Jvm.ClassFile.FieldType.byte))).before args0 about1 = true := code_word (m := ⟨9, 3⟩) (meth := k9m3) (c := k9c3) (by decide +kernel) rfl rfl rfl (by decide +kernel)
set_option maxRecDepth 65536 in
theorem w_c10 : (Jvm.Cond.code ({ cls := "java/lang/String", name := "<init>", desc := "([BB)V" } : Jvm.MethodName) jdk_42_method_151_code (3 : Nat) (Option.none : Option Jvm.ClassFile.FieldType)).before args0 about1 = true := code_word (m := ⟨7, 6⟩) (meth := k7m6) (c := k7c6) (by decide +kernel) rfl rfl rfl (by decide +kernel)
set_option maxRecDepth 65536 in
theorem w_c11 : (Jvm.Cond.code ({ cls := "java/util/Map", name := "of", desc := "()Ljava/util/Map;" } : Jvm.MethodName) jdk_72_method_26_code (0 : Nat) (Option.some (Jvm.ClassFile.FieldType.object "java/util/Map"))).before args0 about1 = true := code_word (m := ⟨12, 0⟩) (meth := k12m0) (c := k12c0) (by decide +kernel) rfl rfl rfl (by decide +kernel)
set_option maxRecDepth 65536 in
theorem w_c12 : (Jvm.Cond.code ({ cls := "java/util/Set", name := "of", desc := "()Ljava/util/Set;" } : Jvm.MethodName) jdk_96_method_17_code (0 : Nat) (Option.some (Jvm.ClassFile.FieldType.object "java/util/Set"))).before args0 about1 = true := code_word (m := ⟨16, 0⟩) (meth := k16m0) (c := k16c0) (by decide +kernel) rfl rfl rfl (by decide +kernel)
set_option maxRecDepth 65536 in
theorem w_c13 : (Jvm.Cond.code ({ cls := "com/example/roundkeeper/roundkeeper/ruleset/actionpoints/Fighter", name := "<init>", desc := "(Ljava/lang/String;Ljava/lang/String;IIIIILjava/util/Map;Ljava/util/Set;)V" } : Jvm.MethodName) prog_6_method_1_code (10 : Nat) (Option.none : Option Jvm.ClassFile.FieldType)).before args0 about1 = true := code_word (m := ⟨11, 0⟩) (meth := k11m0) (c := k11c0) (by decide +kernel) rfl rfl rfl (by decide +kernel)
set_option maxRecDepth 65536 in
theorem w_c14 : (Jvm.Cond.code ({ cls := "java/lang/Record", name := "<init>", desc := "()V" } : Jvm.MethodName) jdk_30_method_1_code (1 : Nat) (Option.none : Option Jvm.ClassFile.FieldType)).before args0 about1 = true := code_word (m := ⟨10, 0⟩) (meth := k10m0) (c := k10c0) (by decide +kernel) rfl rfl rfl (by decide +kernel)
set_option maxRecDepth 65536 in
theorem w_c15 : (Jvm.Cond.code ({ cls := "java/util/Map", name := "copyOf", desc := "(Ljava/util/Map;)Ljava/util/Map;" } : Jvm.MethodName) jdk_72_method_39_code (1 : Nat) (Option.some (Jvm.ClassFile.FieldType.object "java/util/Map"))).before args0 about1 = true := code_word (m := ⟨12, 1⟩) (meth := k12m1) (c := k12c1) (by decide +kernel) rfl rfl rfl (by decide +kernel)
set_option maxRecDepth 65536 in
theorem w_c16 : (Jvm.Cond.code ({ cls := "java/util/Set", name := "copyOf", desc := "(Ljava/util/Collection;)Ljava/util/Set;" } : Jvm.MethodName) jdk_96_method_29_code (1 : Nat) (Option.some (Jvm.ClassFile.FieldType.object "java/util/Set"))).before args0 about1 = true := code_word (m := ⟨16, 1⟩) (meth := k16m1) (c := k16c1) (by decide +kernel) rfl rfl rfl (by decide +kernel)
set_option maxRecDepth 65536 in
theorem w_c17 : (Jvm.Cond.code ({ cls := "com/example/roundkeeper/roundkeeper/ruleset/actionpoints/Fighter", name := "turn", desc := "()Lcom/example/roundkeeper/roundkeeper/Turn;" } : Jvm.MethodName) prog_6_method_2_code (1 : Nat) (Option.some (Jvm.ClassFile.FieldType.object "com/example/roundkeeper/roundkeeper/Turn"))).before args0 about1 = true := code_word (m := ⟨11, 1⟩) (meth := k11m1) (c := k11c1) (by decide +kernel) rfl rfl rfl (by decide +kernel)
set_option maxRecDepth 65536 in
theorem w_c18 : (Jvm.Cond.code ({ cls := "com/example/roundkeeper/roundkeeper/Turn", name := "<init>", desc := "(Ljava/lang/String;Ljava/lang/String;I)V" } : Jvm.MethodName) prog_3_method_1_code (4 : Nat) (Option.none : Option Jvm.ClassFile.FieldType)).before args0 about1 = true := code_word (m := ⟨24, 0⟩) (meth := k24m0) (c := k24c0) (by decide +kernel) rfl rfl rfl (by decide +kernel)
set_option maxRecDepth 65536 in
theorem w_c19 : (Jvm.Cond.code ({ cls := "com/example/roundkeeper/roundkeeper/Turn", name := "<init>", desc := "(Ljava/lang/String;Ljava/lang/String;IZ)V" } : Jvm.MethodName) prog_3_method_2_code (5 : Nat) (Option.none : Option Jvm.ClassFile.FieldType)).before args0 about1 = true := code_word (m := ⟨24, 1⟩) (meth := k24m1) (c := k24c1) (by decide +kernel) rfl rfl rfl (by decide +kernel)
set_option maxRecDepth 65536 in
theorem w_c20 : (Jvm.Cond.code ({ cls := "com/example/roundkeeper/roundkeeper/Turn", name := "name", desc := "()Ljava/lang/String;" } : Jvm.MethodName) prog_3_method_6_code (1 : Nat) (Option.some (Jvm.ClassFile.FieldType.object "java/lang/String"))).before args0 about1 = true := code_word (m := ⟨24, 2⟩) (meth := k24m2) (c := k24c2) (by decide +kernel) rfl rfl rfl (by decide +kernel)
set_option maxRecDepth 65536 in
theorem w_c21 : (Jvm.Cond.code ({ cls := "com/example/roundkeeper/roundkeeper/Turn", name := "side", desc := "()Ljava/lang/String;" } : Jvm.MethodName) prog_3_method_7_code (1 : Nat) (Option.some (Jvm.ClassFile.FieldType.object "java/lang/String"))).before args0 about1 = true := code_word (m := ⟨24, 3⟩) (meth := k24m3) (c := k24c3) (by decide +kernel) rfl rfl rfl (by decide +kernel)
set_option maxRecDepth 65536 in
theorem w_c22 : (Jvm.Cond.code ({ cls := "java/lang/String", name := "length", desc := "()I" } : Jvm.MethodName) jdk_42_method_54_code (1 : Nat) (Option.some Jvm.ClassFile.FieldType.int)).before args0 about1 = true := code_word (m := ⟨7, 2⟩) (meth := k7m2) (c := k7c2) (by decide +kernel) rfl rfl rfl (by decide +kernel)
set_option maxRecDepth 65536 in
theorem w_c23 : (Jvm.Cond.code ({ cls := "java/lang/String", name := "coder", desc := "()B" } : Jvm.MethodName) jdk_42_method_152_code (1 : Nat) (Option.some Jvm.ClassFile.FieldType.byte)).before args0 about1 = true := code_word (m := ⟨7, 7⟩) (meth := k7m7) (c := k7c7) (by decide +kernel) rfl rfl rfl (by decide +kernel)
set_option maxRecDepth 65536 in
theorem w_c24 : (Jvm.Cond.code ({ cls := "java/lang/String", name := "charAt", desc := "(I)C" } : Jvm.MethodName) jdk_42_method_56_code (2 : Nat) (Option.some Jvm.ClassFile.FieldType.char)).before args0 about1 = true := code_word (m := ⟨7, 3⟩) (meth := k7m3) (c := k7c3) (by decide +kernel) rfl rfl rfl (by decide +kernel)
set_option maxRecDepth 65536 in
theorem w_c25 : (Jvm.Cond.code ({ cls := "java/lang/String", name := "isLatin1", desc := "()Z" } : Jvm.MethodName) jdk_42_method_154_code (1 : Nat) (Option.some Jvm.ClassFile.FieldType.boolean)).before args0 about1 = true := code_word (m := ⟨7, 8⟩) (meth := k7m8) (c := k7c8) (by decide +kernel) rfl rfl rfl (by decide +kernel)
set_option maxRecDepth 65536 in
theorem w_c26 : (Jvm.Cond.code ({ cls := "java/lang/StringLatin1", name := "charAt", desc := "([BI)C" } : Jvm.MethodName) jdk_43_method_2_code (2 : Nat) (Option.some Jvm.ClassFile.FieldType.char)).before args0 about1 = true := code_word (m := ⟨9, 1⟩) (meth := k9m1) (c := k9c1) (by decide +kernel) rfl rfl rfl (by decide +kernel)
set_option maxRecDepth 65536 in
theorem w_c27 : (Jvm.Cond.code ({ cls := "java/lang/String", name := "checkIndex", desc := "(II)V" } : Jvm.MethodName) jdk_42_method_155_code (2 : Nat) (Option.none : Option Jvm.ClassFile.FieldType)).before args0 about1 = true := code_word (m := ⟨7, 9⟩) (meth := k7m9) (c := k7c9) (by decide +kernel) rfl rfl rfl (by decide +kernel)
set_option maxRecDepth 65536 in
theorem w_c28 : (Jvm.Cond.code ({ cls := "jdk/internal/util/Preconditions", name := "checkIndex", desc := "(IILjava/util/function/BiFunction;)I" } : Jvm.MethodName) jdk_41_method_11_code (3 : Nat) (Option.some Jvm.ClassFile.FieldType.int)).before args0 about1 = true := code_word (m := ⟨25, 1⟩) (meth := k25m1) (c := k25c1) (by decide +kernel) rfl rfl rfl (by decide +kernel)
set_option maxRecDepth 65536 in
theorem w_c29 : (Jvm.Cond.code ({ cls := "com/example/roundkeeper/roundkeeper/Turn", name := "initiative", desc := "()I" } : Jvm.MethodName) prog_3_method_8_code (1 : Nat) (Option.some Jvm.ClassFile.FieldType.int)).before args0 about1 = true := code_word (m := ⟨24, 4⟩) (meth := k24m4) (c := k24c4) (by decide +kernel) rfl rfl rfl (by decide +kernel)
set_option maxRecDepth 65536 in
theorem w_c30 : (Jvm.Cond.code ({ cls := "com/example/roundkeeper/roundkeeper/Turn", name := "simultaneous", desc := "()Z" } : Jvm.MethodName) prog_3_method_9_code (1 : Nat) (Option.some Jvm.ClassFile.FieldType.boolean)).before args0 about1 = true := code_word (m := ⟨24, 5⟩) (meth := k24m5) (c := k24c5) (by decide +kernel) rfl rfl rfl (by decide +kernel)
def codes1 : List Jvm.Cond := [Jvm.Cond.code x code maxLocals ret, Jvm.Cond.code ({ cls := "java/lang/String", name := "<init>", desc := "([C)V" } : Jvm.MethodName) jdk_42_method_3_code (2 : Nat) (Option.none : Option Jvm.ClassFile.FieldType), Jvm.Cond.code ({ cls := "java/lang/String", name := "<init>", desc := "([CIILjava/lang/Void;)V" } : Jvm.MethodName) jdk_42_method_149_code (6 : Nat) (Option.none : Option Jvm.ClassFile.FieldType), Jvm.Cond.code ({ cls := "java/lang/Object", name := "<init>", desc := "()V" } : Jvm.MethodName) object_method_1_code (1 : Nat) (Option.none : Option Jvm.ClassFile.FieldType), Jvm.Cond.code ({ cls := "java/lang/StringUTF16", name := "compress", desc := "([CII)[B" } : Jvm.MethodName) jdk_52_method_16_code (6 : Nat) (Option.some (Jvm.ClassFile.FieldType.array Jvm.ClassFile.FieldType.byte)), Jvm.Cond.code ({ cls := "java/lang/StringUTF16", name := "compress", desc := "([CI[BII)I" } : Jvm.MethodName) jdk_52_method_21_code (7 : Nat) (Option.some Jvm.ClassFile.FieldType.int), Jvm.Cond.code ({ cls := "java/lang/StringUTF16", name := "coderFromArrayLen", desc := "([BI)B" } : Jvm.MethodName) jdk_52_method_15_code (2 : Nat) (Option.some Jvm.ClassFile.FieldType.byte), Jvm.Cond.code ({ cls := "java/lang/String", name := "valueOf", desc := "(C)Ljava/lang/String;" } : Jvm.MethodName) jdk_42_method_139_code (1 : Nat) (Option.some (Jvm.ClassFile.FieldType.object "java/lang/String")), Jvm.Cond.code ({ cls := "java/lang/StringLatin1", name := "canEncode", desc := "(C)Z" } : Jvm.MethodName) jdk_43_method_3_code (1 : Nat) (Option.some Jvm.ClassFile.FieldType.boolean), Jvm.Cond.code ({ cls := "java/lang/StringLatin1", name := "toBytes", desc := "(C)[B" } : Jvm.MethodName) jdk_43_method_46_code (1 : Nat) (Option.some (Jvm.ClassFile.FieldType.array Jvm.ClassFile.FieldType.byte)), Jvm.Cond.code ({ cls := "java/lang/String", name := "<init>", desc := "([BB)V" } : Jvm.MethodName) jdk_42_method_151_code (3 : Nat) (Option.none : Option Jvm.ClassFile.FieldType), Jvm.Cond.code ({ cls := "java/util/Map", name := "of", desc := "()Ljava/util/Map;" } : Jvm.MethodName) jdk_72_method_26_code (0 : Nat) (Option.some (Jvm.ClassFile.FieldType.object "java/util/Map")), Jvm.Cond.code ({ cls := "java/util/Set", name := "of", desc := "()Ljava/util/Set;" } : Jvm.MethodName) jdk_96_method_17_code (0 : Nat) (Option.some (Jvm.ClassFile.FieldType.object "java/util/Set")), Jvm.Cond.code ({ cls := "com/example/roundkeeper/roundkeeper/ruleset/actionpoints/Fighter", name := "<init>", desc := "(Ljava/lang/String;Ljava/lang/String;IIIIILjava/util/Map;Ljava/util/Set;)V" } : Jvm.MethodName) prog_6_method_1_code (10 : Nat) (Option.none : Option Jvm.ClassFile.FieldType), Jvm.Cond.code ({ cls := "java/lang/Record", name := "<init>", desc := "()V" } : Jvm.MethodName) jdk_30_method_1_code (1 : Nat) (Option.none : Option Jvm.ClassFile.FieldType), Jvm.Cond.code ({ cls := "java/util/Map", name := "copyOf", desc := "(Ljava/util/Map;)Ljava/util/Map;" } : Jvm.MethodName) jdk_72_method_39_code (1 : Nat) (Option.some (Jvm.ClassFile.FieldType.object "java/util/Map")), Jvm.Cond.code ({ cls := "java/util/Set", name := "copyOf", desc := "(Ljava/util/Collection;)Ljava/util/Set;" } : Jvm.MethodName) jdk_96_method_29_code (1 : Nat) (Option.some (Jvm.ClassFile.FieldType.object "java/util/Set")), Jvm.Cond.code ({ cls := "com/example/roundkeeper/roundkeeper/ruleset/actionpoints/Fighter", name := "turn", desc := "()Lcom/example/roundkeeper/roundkeeper/Turn;" } : Jvm.MethodName) prog_6_method_2_code (1 : Nat) (Option.some (Jvm.ClassFile.FieldType.object "com/example/roundkeeper/roundkeeper/Turn")), Jvm.Cond.code ({ cls := "com/example/roundkeeper/roundkeeper/Turn", name := "<init>", desc := "(Ljava/lang/String;Ljava/lang/String;I)V" } : Jvm.MethodName) prog_3_method_1_code (4 : Nat) (Option.none : Option Jvm.ClassFile.FieldType), Jvm.Cond.code ({ cls := "com/example/roundkeeper/roundkeeper/Turn", name := "<init>", desc := "(Ljava/lang/String;Ljava/lang/String;IZ)V" } : Jvm.MethodName) prog_3_method_2_code (5 : Nat) (Option.none : Option Jvm.ClassFile.FieldType), Jvm.Cond.code ({ cls := "com/example/roundkeeper/roundkeeper/Turn", name := "name", desc := "()Ljava/lang/String;" } : Jvm.MethodName) prog_3_method_6_code (1 : Nat) (Option.some (Jvm.ClassFile.FieldType.object "java/lang/String")), Jvm.Cond.code ({ cls := "com/example/roundkeeper/roundkeeper/Turn", name := "side", desc := "()Ljava/lang/String;" } : Jvm.MethodName) prog_3_method_7_code (1 : Nat) (Option.some (Jvm.ClassFile.FieldType.object "java/lang/String")), Jvm.Cond.code ({ cls := "java/lang/String", name := "length", desc := "()I" } : Jvm.MethodName) jdk_42_method_54_code (1 : Nat) (Option.some Jvm.ClassFile.FieldType.int), Jvm.Cond.code ({ cls := "java/lang/String", name := "coder", desc := "()B" } : Jvm.MethodName) jdk_42_method_152_code (1 : Nat) (Option.some Jvm.ClassFile.FieldType.byte), Jvm.Cond.code ({ cls := "java/lang/String", name := "charAt", desc := "(I)C" } : Jvm.MethodName) jdk_42_method_56_code (2 : Nat) (Option.some Jvm.ClassFile.FieldType.char), Jvm.Cond.code ({ cls := "java/lang/String", name := "isLatin1", desc := "()Z" } : Jvm.MethodName) jdk_42_method_154_code (1 : Nat) (Option.some Jvm.ClassFile.FieldType.boolean), Jvm.Cond.code ({ cls := "java/lang/StringLatin1", name := "charAt", desc := "([BI)C" } : Jvm.MethodName) jdk_43_method_2_code (2 : Nat) (Option.some Jvm.ClassFile.FieldType.char), Jvm.Cond.code ({ cls := "java/lang/String", name := "checkIndex", desc := "(II)V" } : Jvm.MethodName) jdk_42_method_155_code (2 : Nat) (Option.none : Option Jvm.ClassFile.FieldType), Jvm.Cond.code ({ cls := "jdk/internal/util/Preconditions", name := "checkIndex", desc := "(IILjava/util/function/BiFunction;)I" } : Jvm.MethodName) jdk_41_method_11_code (3 : Nat) (Option.some Jvm.ClassFile.FieldType.int), Jvm.Cond.code ({ cls := "com/example/roundkeeper/roundkeeper/Turn", name := "initiative", desc := "()I" } : Jvm.MethodName) prog_3_method_8_code (1 : Nat) (Option.some Jvm.ClassFile.FieldType.int), Jvm.Cond.code ({ cls := "com/example/roundkeeper/roundkeeper/Turn", name := "simultaneous", desc := "()Z" } : Jvm.MethodName) prog_3_method_9_code (1 : Nat) (Option.some Jvm.ClassFile.FieldType.boolean)]
set_option maxRecDepth 65536 in
theorem codes_eq : words1.filter isCode = codes1 := rfl
theorem w_codes : ∀ c ∈ words1.filter isCode, c.before args0 about1 = true := by
  rw [codes_eq]
  intro c hc
  simp only [codes1, List.mem_cons, List.not_mem_nil, or_false] at hc
  rcases hc with rfl | rfl | rfl | rfl | rfl | rfl | rfl | rfl | rfl | rfl | rfl | rfl | rfl | rfl | rfl | rfl | rfl | rfl | rfl | rfl | rfl | rfl | rfl | rfl | rfl | rfl | rfl | rfl | rfl | rfl | rfl
  · exact w_c0
  · exact w_c1
  · exact w_c2
  · exact w_c3
  · exact w_c4
  · exact w_c5
  · exact w_c6
  · exact w_c7
  · exact w_c8
  · exact w_c9
  · exact w_c10
  · exact w_c11
  · exact w_c12
  · exact w_c13
  · exact w_c14
  · exact w_c15
  · exact w_c16
  · exact w_c17
  · exact w_c18
  · exact w_c19
  · exact w_c20
  · exact w_c21
  · exact w_c22
  · exact w_c23
  · exact w_c24
  · exact w_c25
  · exact w_c26
  · exact w_c27
  · exact w_c28
  · exact w_c29
  · exact w_c30
set_option maxRecDepth 65536 in
theorem w_t1 : (words1.take 24).all (fun c => isCode c || c.before args0 about1) = true := by decide +kernel
set_option maxRecDepth 65536 in
theorem w_t2 : ((words1.drop 24).take 24).all (fun c => isCode c || c.before args0 about1) = true := by decide +kernel
set_option maxRecDepth 65536 in
theorem w_t3 : (((words1.drop 24).drop 24).take 24).all (fun c => isCode c || c.before args0 about1) = true := by decide +kernel
set_option maxRecDepth 65536 in
theorem w_t4 : ((((words1.drop 24).drop 24).drop 24).take 24).all (fun c => isCode c || c.before args0 about1) = true := by decide +kernel
set_option maxRecDepth 65536 in
theorem w_t5 : (((((words1.drop 24).drop 24).drop 24).drop 24).take 24).all (fun c => isCode c || c.before args0 about1) = true := by decide +kernel
set_option maxRecDepth 65536 in
theorem w_t6 : ((((((words1.drop 24).drop 24).drop 24).drop 24).drop 24).take 24).all (fun c => isCode c || c.before args0 about1) = true := by decide +kernel
set_option maxRecDepth 65536 in
theorem w_t7 : (((((((words1.drop 24).drop 24).drop 24).drop 24).drop 24).drop 24).take 24).all (fun c => isCode c || c.before args0 about1) = true := by decide +kernel
set_option maxRecDepth 65536 in
theorem w_t8 : (((((((words1.drop 24).drop 24).drop 24).drop 24).drop 24).drop 24).drop 24).all (fun c => isCode c || c.before args0 about1) = true := by decide +kernel
theorem w_tables : (allAtoms (Jvm.Cond.code x code maxLocals ret :: tables_1)).before args0 about1 = true := by
  rw [allAtoms_all]
  show words1.all (fun c => c.before args0 about1) = true
  refine all_split ?_ w_codes
  rw [← List.take_append_drop 24 words1, List.all_append, w_t1, ← List.take_append_drop 24 (words1.drop 24), List.all_append, w_t2, ← List.take_append_drop 24 ((words1.drop 24).drop 24), List.all_append, w_t3, ← List.take_append_drop 24 (((words1.drop 24).drop 24).drop 24), List.all_append, w_t4, ← List.take_append_drop 24 ((((words1.drop 24).drop 24).drop 24).drop 24), List.all_append, w_t5, ← List.take_append_drop 24 (((((words1.drop 24).drop 24).drop 24).drop 24).drop 24), List.all_append, w_t6, ← List.take_append_drop 24 ((((((words1.drop 24).drop 24).drop 24).drop 24).drop 24).drop 24), List.all_append, w_t7, w_t8]
  rfl
set_option maxRecDepth 65536 in
theorem w_rest : rest_1_c.before args0 about1 = true := by decide +kernel
set_option maxRecDepth 65536 in
theorem w_case : (Jvm.Cond.and given_1 narrow_1).before args0 about1 = true := by decide +kernel
theorem w_applies : (headSpec (Jvm.Cond.code x code maxLocals ret :: tables_1) room_1).applies x e0.platform about1 = true :=
  (Spec.applies_iff w_frames).mpr ⟨w_running, w_runnable, w_alone, w_named, w_hears, w_ripe, w_room, w_tables⟩
theorem atStart : AtStart classFile x code maxLocals ret World_1 tables_1 room_1 Calls_1 rest_1 Pre_1 launch0 p0 e0 about1 theMethod args0 below0 :=
  ⟨lists_1, trivial, launch0.admits_env _ _ _, launch0.least_env, fairChoices_fair.cas, fairChoices_fair.clock, w_frames, w_args, w_heap, w_applies, trivial, w_rest, w_case⟩
end start1
theorem witness_1 : WitnessClaimed_1 := ⟨start1.p0, start1.e0, start1.about1, start1.theMethod, start1.args0, start1.below0, start1.atStart⟩
end Jvm.Pilot.@@N@@
